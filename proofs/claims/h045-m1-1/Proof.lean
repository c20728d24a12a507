import JvmDerived
import JvmDerived.Pilot.@@N@@Statement
import JvmDerived.Pilot.@@N@@Code
set_option linter.unusedVariables false
set_option linter.unusedSimpArgs false
namespace Jvm.RoadKit
open Sem ClassFile Op Lib Jvm.Stand Jvm.Free Jvm.LawKit
section New
variable {p : Program} {l : Launch} {e : Env} {R : Room} {s : State} {m : MethodId} {args : Array Value} {below : List Frame} {meth : Method} {c : Code} {T : State} {locs : List Loc} {cells slots : Nat}
theorem retI (X : Stand p l e R s m args below meth c T locs cells slots) (hx : p.tables.exec = Jvm.exec) {pc : Nat} {Ls : Array Slot} {z : Int32} {rest : List Value} (hret : meth.sig.returnType = some .int) (hd : decode c.code pc = .ok (.ireturn, 1)) {fs : List Frame}
    (hl : ∀ (f : JFrame) (acts : List Action), f.method = m → f.locked = none → f.entered = [] → (doReturn e (T.setTop f) acts (some (.int z))).1 = T.setFrames fs) : Steps p.tables e below (T.setTop (mkF m pc Ls (.int z :: rest))) (T.setFrames fs) := by
  have hm' : T.vm.method? m = some meth := X.method'
  have hn : narrow .int (.int z) = .int z := rfl
  show Steps p.tables e below (T.setTop { method := m, pc := pc, locals := Ls, stack := _ :: rest, locked := none }) _
  jvm_step X.here [X.here.top, hx, hd, hm', hret, hn]
  first | (intro acts; rw [hl _ acts rfl rfl rfl]) | rw [hl _ _ rfl rfl rfl]
  exact Steps.refl _
theorem retA (X : Stand p l e R s m args below meth c T locs cells slots) (hx : p.tables.exec = Jvm.exec) {pc : Nat} {Ls : Array Slot} {z : Addr} {rest : List Value} {t : FieldType} (hret : meth.sig.returnType = some t) (ht : t.isReference = true) (hd : decode c.code pc = .ok (.areturn, 1)) {fs : List Frame}
    (hl : ∀ (f : JFrame) (acts : List Action), f.method = m → f.locked = none → f.entered = [] → (doReturn e (T.setTop f) acts (some (.ref z))).1 = T.setFrames fs) : Steps p.tables e below (T.setTop (mkF m pc Ls (.ref z :: rest))) (T.setFrames fs) := by
  have hm' : T.vm.method? m = some meth := X.method'
  show Steps p.tables e below (T.setTop { method := m, pc := pc, locals := Ls, stack := _ :: rest, locked := none }) _
  jvm_step X.here [X.here.top, hx, hd, hm', hret, ht, Value.isRef]
  first | (intro acts; rw [hl _ acts rfl rfl rfl]) | rw [hl _ _ rfl rfl rfl]
  exact Steps.refl _
theorem retJ (X : Stand p l e R s m args below meth c T locs cells slots) (hx : p.tables.exec = Jvm.exec) {pc : Nat} {Ls : Array Slot} {z : Int64} {rest : List Value} (hret : meth.sig.returnType = some .long) (hd : decode c.code pc = .ok (.lreturn, 1)) {fs : List Frame}
    (hl : ∀ (f : JFrame) (acts : List Action), f.method = m → f.locked = none → f.entered = [] → (doReturn e (T.setTop f) acts (some (.long z))).1 = T.setFrames fs) : Steps p.tables e below (T.setTop (mkF m pc Ls (.long z :: rest))) (T.setFrames fs) := by
  have hm' : T.vm.method? m = some meth := X.method'
  show Steps p.tables e below (T.setTop { method := m, pc := pc, locals := Ls, stack := _ :: rest, locked := none }) _
  jvm_step X.here [X.here.top, hx, hd, hm', hret]
  first | (intro acts; rw [hl _ acts rfl rfl rfl]) | rw [hl _ _ rfl rfl rfl]
  exact Steps.refl _
end New
end Jvm.RoadKit
namespace Jvm.Pilot.@@N@@
open Jvm Jvm.ClassFile Sem Op Lib Jvm.Free Jvm.Stand Jvm.LawKit Jvm.RoadKit Bundle Jvm.Pilot.@@N@@.Jvm.D
/-! My own frame of a walk: 'Done' says: from this frame the run ends, and Q holds of what came back, of the heap, and of the places written. -/
def Done (p : Program) (e : Env) (below : List Frame) (s : State) (R : Room) (Q : Option Value → Heap → List Loc → Prop) (T : State) (g : JFrame) : Prop :=
  ∃ s₂ o, Steps p.tables e below (T.setTop g) s₂ ∧ s₂.status = .running ∧ Ended s₂ below o ∧ ∃ v L, o = .returned v ∧ Q v s₂.heap L ∧ FrameEnd s o s₂ L R.cells R.slots
def Qp (h0 : Heap) (n0 : Nat) (z : Value) (v : Option Value) (h : Heap) (L : List Loc) : Prop := v = some z ∧ Fr n0 L ∧ h = h0
def Qv (h0 : Heap) (n0 : Nat) (v : Option Value) (h : Heap) (L : List Loc) : Prop := v = none ∧ Fr n0 L ∧ h = h0
def Ql (n0 : Nat) (z : Value) (v : Option Value) (h : Heap) (L : List Loc) : Prop := v = some z ∧ Fr n0 L
theorem Done.of {p : Program} {e : Env} {below : List Frame} {s : State} {R : Room} {Q : Option Value → Heap → List Loc → Prop} {T T' : State} {g g' : JFrame}
    (st : ∀ t, Steps p.tables e below (T'.setTop g') t → Steps p.tables e below (T.setTop g) t) (d : Done p e below s R Q T' g') : Done p e below s R Q T g := by
  obtain ⟨s₂, o, h1, h2⟩ := d
  exact ⟨s₂, o, st _ h1, h2⟩
section Ends
variable {p : Program} {l : Launch} {e : Env} {R : Room} {s : State} {m : MethodId} {args : Array Value} {below : List Frame} {meth : Method} {c : Code} {T : State} {locs : List Loc} {cells slots : Nat} {Q : Option Value → Heap → List Loc → Prop}
theorem doneI (X : Stand p l e R s m args below meth c T locs cells slots) (hx : p.tables.exec = Jvm.exec) {pc : Nat} {Ls : Array Slot} {z : Int32} {rest : List Value} (hret : meth.sig.returnType = some .int) (hlk : meth.locks = false) (hd : decode c.code pc = .ok (.ireturn, 1))
    (hQ : Q (some (.int z)) T.heap locs) (hc : cells ≤ R.cells) (hs : slots ≤ R.slots) : Done p e below s R Q T (mkF m pc Ls (.int z :: rest)) := by
  obtain ⟨fs, hr, hrun, hended, hW, hsame⟩ := X.leave (v := some (.int z)) (fun h => by rw [hret] at h; cases h) hlk
  exact ⟨_, _, retI X hx hret hd hr, hrun, hended, _, _, rfl, hQ, ⟨_, rfl⟩, hW, hsame.mono hc hs⟩
theorem doneN (t : FieldType) (X : Stand p l e R s m args below meth c T locs cells slots) (ht : t = .boolean ∨ t = .byte ∨ t = .char ∨ t = .short) (hx : p.tables.exec = Jvm.exec) {pc : Nat} {Ls : Array Slot} {z : Int32} {rest : List Value} (hret : meth.sig.returnType = some t) (hlk : meth.locks = false) (hd : decode c.code pc = .ok (.ireturn, 1))
    (hQ : Q (some (.int (nar t z))) T.heap locs) (hc : cells ≤ R.cells) (hs : slots ≤ R.slots) : Done p e below s R Q T (mkF m pc Ls (.int z :: rest)) := by
  obtain ⟨fs, hr, hrun, hended, hW, hsame⟩ := X.leave (v := some (.int (nar t z))) (fun h => by rw [hret] at h; cases h) hlk
  exact ⟨_, _, retN X hx hret ht hd hr, hrun, hended, _, _, rfl, hQ, ⟨_, rfl⟩, hW, hsame.mono hc hs⟩
theorem doneJ (X : Stand p l e R s m args below meth c T locs cells slots) (hx : p.tables.exec = Jvm.exec) {pc : Nat} {Ls : Array Slot} {z : Int64} {rest : List Value} (hret : meth.sig.returnType = some .long) (hlk : meth.locks = false) (hd : decode c.code pc = .ok (.lreturn, 1))
    (hQ : Q (some (.long z)) T.heap locs) (hc : cells ≤ R.cells) (hs : slots ≤ R.slots) : Done p e below s R Q T (mkF m pc Ls (.long z :: rest)) := by
  obtain ⟨fs, hr, hrun, hended, hW, hsame⟩ := X.leave (v := some (.long z)) (fun h => by rw [hret] at h; cases h) hlk
  exact ⟨_, _, retJ X hx hret hd hr, hrun, hended, _, _, rfl, hQ, ⟨_, rfl⟩, hW, hsame.mono hc hs⟩
theorem doneA (X : Stand p l e R s m args below meth c T locs cells slots) (hx : p.tables.exec = Jvm.exec) {pc : Nat} {Ls : Array Slot} {z : Addr} {rest : List Value} {t : FieldType} (hret : meth.sig.returnType = some t) (ht : t.isReference = true) (hlk : meth.locks = false) (hd : decode c.code pc = .ok (.areturn, 1))
    (hQ : Q (some (.ref z)) T.heap locs) (hc : cells ≤ R.cells) (hs : slots ≤ R.slots) : Done p e below s R Q T (mkF m pc Ls (.ref z :: rest)) := by
  obtain ⟨fs, hr, hrun, hended, hW, hsame⟩ := X.leave (v := some (.ref z)) (fun h => by rw [hret] at h; cases h) hlk
  exact ⟨_, _, retA X hx hret ht hd hr, hrun, hended, _, _, rfl, hQ, ⟨_, rfl⟩, hW, hsame.mono hc hs⟩
theorem doneV (X : Stand p l e R s m args below meth c T locs cells slots) (hx : p.tables.exec = Jvm.exec) {pc : Nat} {Ls : Array Slot} (hret : meth.sig.returnType = none) (hlk : meth.locks = false) (hd : decode c.code pc = .ok (.return_, 1))
    (hQ : Q none T.heap locs) (hc : cells ≤ R.cells) (hs : slots ≤ R.slots) : Done p e below s R Q T (mkF m pc Ls []) := by
  obtain ⟨fs, hr, hrun, hended, hW, hsame⟩ := X.leave (v := none) (fun _ => rfl) hlk
  exact ⟨_, _, X.returnOut hx hret hd hr, hrun, hended, _, _, rfl, hQ, ⟨_, rfl⟩, hW, hsame.mono hc hs⟩
end Ends
theorem lcLt_t {x y : Int64} (h : x < y) : ifCond.holds .lt (lcmpW x y) = true ∧ ifCond.holds .ge (lcmpW x y) = false := ⟨(if0 _ _).trans (tlt ((lw_lt x y).mpr h)).1, (if0 _ _).trans (tlt ((lw_lt x y).mpr h)).2.1⟩
theorem lcLt_f {x y : Int64} (h : ¬ x < y) : ifCond.holds .lt (lcmpW x y) = false ∧ ifCond.holds .ge (lcmpW x y) = true := ⟨(if0 _ _).trans (flt (fun q => h ((lw_lt x y).mp q))).1, (if0 _ _).trans (flt (fun q => h ((lw_lt x y).mp q))).2.1⟩
theorem lcGt_t {x y : Int64} (h : y < x) : ifCond.holds .gt (lcmpW x y) = true ∧ ifCond.holds .le (lcmpW x y) = false := ⟨(if0 _ _).trans (tlt ((lw_gt x y).mpr h)).2.2.1, (if0 _ _).trans (tlt ((lw_gt x y).mpr h)).2.2.2⟩
theorem lcGt_f {x y : Int64} (h : ¬ y < x) : ifCond.holds .gt (lcmpW x y) = false ∧ ifCond.holds .le (lcmpW x y) = true := ⟨(if0 _ _).trans (flt (fun q => h ((lw_gt x y).mp q))).2.2.1, (if0 _ _).trans (flt (fun q => h ((lw_gt x y).mp q))).2.2.2⟩
theorem lcEq_t {x y : Int64} (h : x = y) : ifCond.holds .eq (lcmpW x y) = true ∧ ifCond.holds .ne (lcmpW x y) = false := ⟨(if0 _ _).trans (teq ((lw_eq x y).mpr h)).1, (if0 _ _).trans (teq ((lw_eq x y).mpr h)).2⟩
theorem lcEq_f {x y : Int64} (h : ¬ x = y) : ifCond.holds .eq (lcmpW x y) = false ∧ ifCond.holds .ne (lcmpW x y) = true := ⟨(if0 _ _).trans (feq (fun q => h ((lw_eq x y).mp q))).1, (if0 _ _).trans (feq (fun q => h ((lw_eq x y).mp q))).2⟩
theorem own_selP {s : State} {args : Array Value} {y : MethodName} {n : Nat} (hins : (Cond.instantiable y.cls n).before args s = true) (hpriv : (Cond.privateMethod y).before args s = true) (hinst : (Cond.instanceMethod y).before args s = true) (hy : y.cls ≠ "java/lang/invoke/MethodHandle" ∧ y.cls ≠ "java/lang/invoke/VarHandle") :
    (Cond.selects y.cls y y).before args s = true := by
  obtain ⟨c, k, hc, hk, -, hniab, -, -⟩ := Cond.instantiable_spec hins
  exact selects_self_of_private hc hk (Bool.or_eq_false_iff.mp hniab).1 (Cond.privateMethod_at hpriv) hinst hy
theorem own_hat {c : Cell} {vs : List Int32} {j : Int32} (H : Has c (vs.map Value.int) (.int (0 : Int32))) (hin : ¬ (j < 0 ∨ c.slots.size ≤ j.toNatClampNeg)) : c.slots[j.toNatClampNeg]? = some (.int (vs.getD j.toNatClampNeg 0)) := by
  rw [H j.toNatClampNeg (Nat.lt_of_not_le fun q => hin (Or.inr q))]
  simp only [List.getD_eq_getElem?_getD, List.getElem?_map]
  cases vs[j.toNatClampNeg]? <;> rfl
theorem own_fin {n : Nat} (c : Int32) (h0 : 0 ≤ c.toInt) (h1 : c.toInt < n) : ∃ i : Fin n, c = Int32.ofInt (i.1 : Int) :=
  ⟨⟨c.toInt.toNat, by omega⟩, by show c = Int32.ofInt ((c.toInt.toNat : Nat) : Int); rw [Int.toNat_of_nonneg h0]; exact (Int32.ofInt_toInt c).symm⟩
theorem own_set (N i : Nat) (f : Nat → Int32) (v : Int32) : ((List.range N).map fun j => Value.int (f j)).set i (.int v) = (List.range N).map fun j => Value.int (if j = i then v else f j) := by
  apply List.ext_getElem
  · simp
  · intro k h1 h2
    rw [List.getElem_set]
    simp only [List.getElem_map, List.getElem_range]
    by_cases q : i = k
    · rw [if_pos q, if_pos q.symm]
    · rw [if_neg q, if_neg (Ne.symm q)]
theorem own_setA {Z : State} {h : Heap} {a : Addr} {k : ClassId} {ty : FieldType} {z : Int32} {N i : Nat} {f : Nat → Int32} {v : Int32} {dv : Value} (A : Arv Z h a k ty z (((List.range N).map fun j => Value.int (f j)).set i (.int v)) dv) :
    Arv Z h a k ty z ((List.range N).map fun j => Value.int (if j = i then v else f j)) dv := by rw [← own_set]; exact A
theorem own_hatF {c : Cell} {N : Nat} {f : Nat → Int32} {j : Int32} {d : Value} (H : Has c ((List.range N).map fun j => Value.int (f j)) d) (hN : c.slots.size = N) (hin : ¬ (j < 0 ∨ c.slots.size ≤ j.toNatClampNeg)) : c.slots[j.toNatClampNeg]? = some (.int (f j.toNatClampNeg)) := by
  have hl : j.toNatClampNeg < c.slots.size := Nat.lt_of_not_le fun q => hin (Or.inr q)
  rw [H j.toNatClampNeg hl, List.getD_eq_getElem?_getD, List.getElem?_map, List.getElem?_range (by omega)]
  rfl
theorem own_sz {c : Cell} {z : Int32} {N : Nat} (S : c.slots.size = z.toNatClampNeg) (h : z.toNatClampNeg = N := by decide) : c.slots.size = N := S.trans h
theorem own_len {c : Cell} {z j : Int32} {N : Nat} {f : Nat → Int32} (S : c.slots.size = z.toNatClampNeg) (hin : ¬ (j < 0 ∨ c.slots.size ≤ j.toNatClampNeg)) (h : z.toNatClampNeg = N := by decide) : j.toNatClampNeg < ((List.range N).map fun j => Value.int (f j)).length := by
  have : j.toNatClampNeg < c.slots.size := Nat.lt_of_not_le fun q => hin (Or.inr q)
  rw [List.length_map, List.length_range]; omega
theorem d2_0 : decode jdk_30_method_1_code 0 = .ok (.aload_n 0, 1) := by decide +kernel
theorem d2_1 : decode jdk_30_method_1_code 1 = .ok (.invokespecial 1, 3) := by decide +kernel
theorem d2_4 : decode jdk_30_method_1_code 4 = .ok (.return_, 1) := by decide +kernel
set_option maxRecDepth 65536 in
set_option maxHeartbeats 40000000 in
theorem bk2_0 {p : Program} {l : Launch} {e : Env} {s : State} {m : MethodId} {args : Array Value} {below : List Frame} {meth : Method} {c : Code} {T0 : State} {locs : List Loc} {Z : State} {a0 : Array Value} {h0 : Heap} {n0 : Nat}
    (hx : p.tables.exec = Jvm.exec) (hZ : Z.Warmed39 s.vm) (hw : ∀ d ∈ tables_1, d.before a0 Z = true) (hby : c.code = jdk_30_method_1_code) (hml : c.maxLocals = 1) (hown : s.vm.findClass "java/lang/Record" = some m.cls) (hnm : meth.name = "<init>") (hret : meth.sig.returnType = none) (hlk : meth.locks = false)
    (X0 : Stand p l e ({ frames := 1, cells := 0, slots := 0, locals := 12 } : Room) s m args below meth c T0 locs 0 0) (N0 : Fr n0 locs) (e0 : T0.heap = h0) (a1 : Addr) :
    Done p e below s ({ frames := 1, cells := 0, slots := 0, locals := 12 } : Room) (Qv h0 n0) T0 (mkF m 0 #[.val (.ref a1)] []) := by
  refine Done.of (T' := T0) (g' := (mkF m 1 #[.val (.ref a1)] [(.ref a1)])) (fun t k => ?_) ?_
  · show Steps p.tables e below (T0.setTop (mkF m 0 #[.val (.ref a1)] [])) t
    refine XS.aloadN X0.here hx rfl (hb hby d2_0) rfl rfl ?_
    exact k
  obtain ⟨T1, X1, e1, st1⟩ := initO X0 hx hZ hown (hw _ (List.mem_of_getElem? (i := 11) rfl)) (hw _ (List.mem_of_getElem? (i := 12) rfl)) (hw _ (List.mem_of_getElem? (i := 13) rfl)) e0 (g := (mkF m 1 #[.val (.ref a1)] [(.ref a1)])) rfl (by rw [hml]; rfl) rfl (hb hby d2_1) (by decide) (W := 0) (by show 2 * 0 + _ ≤ _; exact Nat.le_of_eq rfl) (by decide)
  refine Done.of (g' := (mkF m 4 #[.val (.ref a1)] [])) st1 ?_
  exact doneV X1 hx hret hlk (hb hby d2_4) ⟨rfl, N0, e1⟩ (by decide) (by decide)
theorem ef_2 (m : MethodId) (a1 : Addr) : entryFrame m #[(.ref a1)] 1 = mkF m 0 #[.val (.ref a1)] [] := by first | (simp [entryFrame, mkF, argsToLocals, Value.category, maxLocals]; done) | rfl
theorem pn_2 : plainFor (⟨"java/lang/Record", "<init>", "()V"⟩ : MethodName) = true := by decide +kernel
set_option maxRecDepth 65536 in
set_option maxHeartbeats 40000000 in
theorem rm2 (l : Launch) (Z : State) (a0 : Array Value) (hw : ∀ d ∈ tables_1, d.before a0 Z = true) (ws : List Jvm.Cond) (a1 : Addr) (h0 : Heap) (n0 : Nat) :
    MetFree l (⟨"java/lang/Record", "<init>", "()V"⟩ : MethodName) (head1 (Jvm.Cond.code (⟨"java/lang/Record", "<init>", "()V"⟩ : MethodName) jdk_30_method_1_code 1 none :: ws) ({ frames := 1, cells := 0, slots := 0, locals := 12 } : Room)) (fun a U => a = #[(.ref a1)] ∧ Z.Warmed39 U.vm ∧ U.heap = h0) (fun _ _ _ _ _ => True) (fun _ U o U' => ∃ v L, o = .returned v ∧ (Qv h0 n0) v U'.heap L ∧ FrameEnd U o U' L ({ frames := 1, cells := 0, slots := 0, locals := 12 } : Room).cells ({ frames := 1, cells := 0, slots := 0, locals := 12 } : Room).slots) := by
  refine MetFree.of_bodySF pn_2 hisR ?_
  intro p e s m args below meth c s₁ Bd hml0 hP hK
  obtain ⟨rfl, hZ, hh⟩ := hP
  have hown : s.vm.findClass "java/lang/Record" = some m.cls := findClass_of_methodNamed Bd.named
  have hnm := (name_of_methodNamed Bd.named Bd.method).1
  have X0 : Stand p l e ({ frames := 1, cells := 0, slots := 0, locals := 12 } : Room) s m #[(.ref a1)] below meth c s₁ [] 0 0 := Stand.of_body Bd
  have e0 : s₁.heap = h0 := by rw [← hh, Bd.state]; rfl
  have d := bk2_0 (n0 := n0) Bd.exec hZ hw Bd.bytes hml0 hown hnm Bd.returns (BodyLoose.notSynchronized Bd) X0 (Fr.nil n0) e0 a1
  have d2 : Done p e below s ({ frames := 1, cells := 0, slots := 0, locals := 12 } : Room) (Qv h0 n0) s₁ (entryFrame m #[(.ref a1)] 1) := by rw [ef_2]; exact d
  exact d2
theorem pd_0 : parseMethodDescriptor "()V" = some ⟨[], none⟩ := by decide +kernel
theorem d1_0 : decode prog_17_method_1_code 0 = .ok (.aload_n 0, 1) := by decide +kernel
theorem d1_1 : decode prog_17_method_1_code 1 = .ok (.invokespecial 1, 3) := by decide +kernel
theorem d1_4 : decode prog_17_method_1_code 4 = .ok (.aload_n 0, 1) := by decide +kernel
theorem d1_5 : decode prog_17_method_1_code 5 = .ok (.iload_n 1, 1) := by decide +kernel
theorem d1_6 : decode prog_17_method_1_code 6 = .ok (.putfield 7, 3) := by decide +kernel
theorem d1_9 : decode prog_17_method_1_code 9 = .ok (.return_, 1) := by decide +kernel
set_option maxRecDepth 65536 in
set_option maxHeartbeats 40000000 in
theorem bk1_0 {p : Program} {l : Launch} {e : Env} {s : State} {m : MethodId} {args : Array Value} {below : List Frame} {meth : Method} {c : Code} {T0 : State} {locs : List Loc} {Z : State} {a0 : Array Value} {h0 : Heap} {n0 : Nat}
    (hx : p.tables.exec = Jvm.exec) (hZ : Z.Warmed39 s.vm) (hw : ∀ d ∈ tables_1, d.before a0 Z = true) (hby : c.code = prog_17_method_1_code) (hml : c.maxLocals = 2) (hown : s.vm.findClass "com/example/tetherd/tetherd/core/ipv4/Ipv4Address" = some m.cls) (hnm : meth.name = "<init>") (hret : meth.sig.returnType = none) (hlk : meth.locks = false)
    (X0 : Stand p l e ({ frames := 2, cells := 0, slots := 0, locals := 24 } : Room) s m args below meth c T0 locs 0 0) (N0 : Fr n0 locs) (e0 : T0.heap = h0) (a1 : Addr) (p2 : Int32) (u_bits : Value) (E_a1 : Exa Z h0 a1 "com/example/tetherd/tetherd/core/ipv4/Ipv4Address") (F_bits_a1 : Fld Z h0 a1 "com/example/tetherd/tetherd/core/ipv4/Ipv4Address" "bits" "I" u_bits) (g_a1 : n0 ≤ a1) :
    Done p e below s ({ frames := 2, cells := 0, slots := 0, locals := 24 } : Room) (fun v h L => v = none ∧ Fr n0 L ∧ Keep h0 h [a1] ∧ Exa Z h a1 "com/example/tetherd/tetherd/core/ipv4/Ipv4Address" ∧ Fld Z h a1 "com/example/tetherd/tetherd/core/ipv4/Ipv4Address" "bits" "I" (.int p2)) T0 (mkF m 0 #[.val (.ref a1), .val (.int p2)] []) := by
  refine Done.of (T' := T0) (g' := (mkF m 1 #[.val (.ref a1), .val (.int p2)] [(.ref a1)])) (fun t k => ?_) ?_
  · show Steps p.tables e below (T0.setTop (mkF m 0 #[.val (.ref a1), .val (.int p2)] [])) t
    refine XS.aloadN X0.here hx rfl (hb hby d1_0) rfl rfl ?_
    exact k
  obtain ⟨_, _, ⟨T1, L1, k1, n1⟩, -, X1, ⟨Lc1, hQ1, l1, y1, z1⟩, st1⟩ := X0.specialBack hx (y := (⟨"java/lang/Record", "<init>", "()V"⟩ : MethodName)) rfl hown (mvT hZ (hw _ (List.mem_of_getElem? (i := 6) rfl))) (mvT hZ (hw _ (List.mem_of_getElem? (i := 7) rfl))) (mvT hZ (hw _ (List.mem_of_getElem? (i := 10) rfl))) (by decide) (backOf (W := 0) (rm2 l Z a0 hw [] a1 h0 n0) hZ (hw _ (List.mem_of_getElem? (i := 10) rfl)) (hw _ (List.mem_of_getElem? (i := 9) rfl)) (by decide) (by decide)) (g := (mkF m 1 #[.val (.ref a1), .val (.int p2)] [(.ref a1)])) rfl (by rw [hml]; rfl) (Steps.refl _) (a := a1) (argsL := []) (rest := []) (lenOf pd_0 rfl) rfl (by show 2 * 0 + _ ≤ _; exact Nat.le_of_eq rfl) (hb hby d1_1) (fun _ _ => ⟨rfl, e0, (by decide : 0 + 0 ≤ _), (by decide : 0 + 0 ≤ _)⟩)
  dsimp only [Pt.U, Pt.locs, Pt.cells, Pt.slots] at X1 l1 y1 z1 st1 hQ1
  subst l1 y1 z1
  obtain ⟨rfl, N1q, e1⟩ := hQ1
  have N1 := Fr.app N0 N1q
  replace X1 : Stand p l e ({ frames := 2, cells := 0, slots := 0, locals := 24 } : Room) s m args below meth c T1 _ 0 0 := X1
  refine Done.of (g' := (mkF m 4 #[.val (.ref a1), .val (.int p2)] [])) (fun t k => st1.trans k) ?_
  refine Done.of (T' := T1) (g' := (mkF m 6 #[.val (.ref a1), .val (.int p2)] [(.int p2), (.ref a1)])) (fun t k => ?_) ?_
  · show Steps p.tables e below (T1.setTop (mkF m 4 #[.val (.ref a1), .val (.int p2)] [])) t
    refine XS.aloadN X1.here hx rfl (hb hby d1_4) rfl rfl ?_
    show Steps p.tables e below (T1.setTop (mkF m 5 #[.val (.ref a1), .val (.int p2)] [(.ref a1)])) t
    refine XS.iloadN X1.here hx rfl (hb hby d1_5) rfl ?_
    exact k
  obtain ⟨T2, h2, X2, e2, W2, st2⟩ := putF X1 hx hZ hown (host := "") (Or.inl (hw _ (List.mem_of_getElem? (i := 14) rfl))) Via.refl e1 F_bits_a1 E_a1 (Or.inr ⟨(hw _ (List.mem_of_getElem? (i := 15) rfl)), rfl, hnm⟩) (hw _ (List.mem_of_getElem? (i := 1) rfl)) (ty := .int) (by decide) rfl rfl (g := (mkF m 6 #[.val (.ref a1), .val (.int p2)] [(.int p2), (.ref a1)])) rfl rfl (hb hby d1_6)
  have Fw2 := F_bits_a1.same W2
  have f1 := E_a1.wr W2
  have N2 := Fr.snoc X2 N1 g_a1
  have K2 : Keep h0 h2 [a1] := (Keep.refl h0 [a1]).wr W2 (Or.inl (List.mem_of_getElem? (i := 0) rfl))
  refine Done.of (g' := (mkF m 9 #[.val (.ref a1), .val (.int p2)] [])) st2 ?_
  exact doneV X2 hx hret hlk (hb hby d1_9) (by show _ ∧ _; rw [e2]; exact ⟨rfl, N2, K2, f1, Fw2⟩) (by decide) (by decide)
theorem ef_1 (m : MethodId) (a1 : Addr) (p2 : Int32) : entryFrame m #[(.ref a1), (.int p2)] 2 = mkF m 0 #[.val (.ref a1), .val (.int p2)] [] := by first | (simp [entryFrame, mkF, argsToLocals, Value.category, maxLocals]; done) | rfl
theorem pn_1 : plainName "com/example/tetherd/tetherd/core/ipv4/Ipv4Address" = true := by first | (simp [plainName, overriddenIn]; done) | decide +kernel
def Q1 (Z : State) (a1 : Addr) (p2 : Int32) (h0 : Heap) (n0 : Nat) (u_bits : Value) (v : Option Value) (h : Heap) (L : List Loc) : Prop := v = none ∧ Fr n0 L ∧ Keep h0 h [a1] ∧ Exa Z h a1 "com/example/tetherd/tetherd/core/ipv4/Ipv4Address" ∧ Fld Z h a1 "com/example/tetherd/tetherd/core/ipv4/Ipv4Address" "bits" "I" (.int p2)
set_option maxRecDepth 65536 in
set_option maxHeartbeats 40000000 in
theorem rm1 (l : Launch) (Z : State) (a0 : Array Value) (hw : ∀ d ∈ tables_1, d.before a0 Z = true) (ws : List Jvm.Cond) (a1 : Addr) (p2 : Int32) (h0 : Heap) (n0 : Nat) (u_bits : Value) (E_a1 : Exa Z h0 a1 "com/example/tetherd/tetherd/core/ipv4/Ipv4Address") (F_bits_a1 : Fld Z h0 a1 "com/example/tetherd/tetherd/core/ipv4/Ipv4Address" "bits" "I" u_bits) (g_a1 : n0 ≤ a1) :
    MetFree l (⟨"com/example/tetherd/tetherd/core/ipv4/Ipv4Address", "<init>", "(I)V"⟩ : MethodName) (head1 (Jvm.Cond.code (⟨"com/example/tetherd/tetherd/core/ipv4/Ipv4Address", "<init>", "(I)V"⟩ : MethodName) prog_17_method_1_code 2 none :: ws) ({ frames := 2, cells := 0, slots := 0, locals := 24 } : Room)) (fun a U => a = #[(.ref a1), (.int p2)] ∧ Z.Warmed39 U.vm ∧ U.heap = h0) (fun _ _ _ _ _ => True) (fun _ U o U' => ∃ v L, o = .returned v ∧ (Q1 Z a1 p2 h0 n0 u_bits) v U'.heap L ∧ FrameEnd U o U' L ({ frames := 2, cells := 0, slots := 0, locals := 24 } : Room).cells ({ frames := 2, cells := 0, slots := 0, locals := 24 } : Room).slots) := by
  refine MetFree.of_bodySF (plainFor_of_name pn_1) hisR ?_
  intro p e s m args below meth c s₁ Bd hml0 hP hK
  obtain ⟨rfl, hZ, hh⟩ := hP
  have hown : s.vm.findClass "com/example/tetherd/tetherd/core/ipv4/Ipv4Address" = some m.cls := findClass_of_methodNamed Bd.named
  have hnm := (name_of_methodNamed Bd.named Bd.method).1
  have X0 : Stand p l e ({ frames := 2, cells := 0, slots := 0, locals := 24 } : Room) s m #[(.ref a1), (.int p2)] below meth c s₁ [] 0 0 := Stand.of_body Bd
  have e0 : s₁.heap = h0 := by rw [← hh, Bd.state]; rfl
  have d := bk1_0 (n0 := n0) Bd.exec hZ hw Bd.bytes hml0 hown hnm Bd.returns (BodyLoose.notSynchronized Bd) X0 (Fr.nil n0) e0 a1 p2 u_bits E_a1 F_bits_a1 g_a1
  have d2 : Done p e below s ({ frames := 2, cells := 0, slots := 0, locals := 24 } : Room) (Q1 Z a1 p2 h0 n0 u_bits) s₁ (entryFrame m #[(.ref a1), (.int p2)] 2) := by rw [ef_1]; exact d
  exact d2
theorem d4_0 : decode prog_17_method_3_code 0 = .ok (.iconst 4, 1) := by decide +kernel
theorem d4_1 : decode prog_17_method_3_code 1 = .ok (.newarray .byte, 2) := by decide +kernel
theorem d4_3 : decode prog_17_method_3_code 3 = .ok (.dup, 1) := by decide +kernel
theorem d4_4 : decode prog_17_method_3_code 4 = .ok (.iconst 0, 1) := by decide +kernel
theorem d4_5 : decode prog_17_method_3_code 5 = .ok (.aload_n 0, 1) := by decide +kernel
theorem d4_6 : decode prog_17_method_3_code 6 = .ok (.getfield 7, 3) := by decide +kernel
theorem d4_9 : decode prog_17_method_3_code 9 = .ok (.bipush 24, 2) := by decide +kernel
theorem d4_11 : decode prog_17_method_3_code 11 = .ok (.iushr, 1) := by decide +kernel
theorem d4_12 : decode prog_17_method_3_code 12 = .ok (.i2b, 1) := by decide +kernel
theorem d4_13 : decode prog_17_method_3_code 13 = .ok (.bastore, 1) := by decide +kernel
theorem d4_14 : decode prog_17_method_3_code 14 = .ok (.dup, 1) := by decide +kernel
theorem d4_15 : decode prog_17_method_3_code 15 = .ok (.iconst 1, 1) := by decide +kernel
theorem d4_16 : decode prog_17_method_3_code 16 = .ok (.aload_n 0, 1) := by decide +kernel
theorem d4_17 : decode prog_17_method_3_code 17 = .ok (.getfield 7, 3) := by decide +kernel
theorem d4_20 : decode prog_17_method_3_code 20 = .ok (.bipush 16, 2) := by decide +kernel
theorem d4_22 : decode prog_17_method_3_code 22 = .ok (.iushr, 1) := by decide +kernel
theorem d4_23 : decode prog_17_method_3_code 23 = .ok (.i2b, 1) := by decide +kernel
theorem d4_24 : decode prog_17_method_3_code 24 = .ok (.bastore, 1) := by decide +kernel
theorem d4_25 : decode prog_17_method_3_code 25 = .ok (.dup, 1) := by decide +kernel
theorem d4_26 : decode prog_17_method_3_code 26 = .ok (.iconst 2, 1) := by decide +kernel
theorem d4_27 : decode prog_17_method_3_code 27 = .ok (.aload_n 0, 1) := by decide +kernel
theorem d4_28 : decode prog_17_method_3_code 28 = .ok (.getfield 7, 3) := by decide +kernel
theorem d4_31 : decode prog_17_method_3_code 31 = .ok (.bipush 8, 2) := by decide +kernel
theorem d4_33 : decode prog_17_method_3_code 33 = .ok (.iushr, 1) := by decide +kernel
theorem d4_34 : decode prog_17_method_3_code 34 = .ok (.i2b, 1) := by decide +kernel
theorem d4_35 : decode prog_17_method_3_code 35 = .ok (.bastore, 1) := by decide +kernel
theorem d4_36 : decode prog_17_method_3_code 36 = .ok (.dup, 1) := by decide +kernel
theorem d4_37 : decode prog_17_method_3_code 37 = .ok (.iconst 3, 1) := by decide +kernel
theorem d4_38 : decode prog_17_method_3_code 38 = .ok (.aload_n 0, 1) := by decide +kernel
theorem d4_39 : decode prog_17_method_3_code 39 = .ok (.getfield 7, 3) := by decide +kernel
theorem d4_42 : decode prog_17_method_3_code 42 = .ok (.i2b, 1) := by decide +kernel
theorem d4_43 : decode prog_17_method_3_code 43 = .ok (.bastore, 1) := by decide +kernel
theorem d4_44 : decode prog_17_method_3_code 44 = .ok (.areturn, 1) := by decide +kernel
set_option maxRecDepth 65536 in
set_option maxHeartbeats 40000000 in
theorem bk4_0 {p : Program} {l : Launch} {e : Env} {s : State} {m : MethodId} {args : Array Value} {below : List Frame} {meth : Method} {c : Code} {T0 : State} {locs : List Loc} {Z : State} {a0 : Array Value} {h0 : Heap} {n0 : Nat}
    (hx : p.tables.exec = Jvm.exec) (hZ : Z.Warmed39 s.vm) (hw : ∀ d ∈ tables_1, d.before a0 Z = true) (hby : c.code = prog_17_method_3_code) (hml : c.maxLocals = 1) (hown : s.vm.findClass "com/example/tetherd/tetherd/core/ipv4/Ipv4Address" = some m.cls) (hnm : meth.name = "octets") (hret : meth.sig.returnType = some (.array .byte)) (hlk : meth.locks = false)
    (X0 : Stand p l e ({ frames := 0, cells := 1, slots := 4, locals := 0 } : Room) s m args below meth c T0 locs 0 0) (N0 : Fr n0 locs) (e0 : T0.heap = h0) (a1 : Addr) (w : Int32) (F_bits_a1 : Fld Z h0 a1 "com/example/tetherd/tetherd/core/ipv4/Ipv4Address" "bits" "I" (.int w)) (Z0 : n0 ≤ h0.size) :
    Done p e below s ({ frames := 0, cells := 1, slots := 4, locals := 0 } : Room) (fun v h L => ∃ b k, v = some (.ref b) ∧ Fr n0 L ∧ Keep h0 h [] ∧ n0 ≤ b ∧ h0.size ≤ b ∧ Arv Z h b k .byte (4 : Int32) [(.int ((((w.toUInt32 >>> ((24 : Int32) &&& 31).toUInt32).toInt32).toInt8.toInt32).toInt8.toInt32)), (.int ((((w.toUInt32 >>> ((16 : Int32) &&& 31).toUInt32).toInt32).toInt8.toInt32).toInt8.toInt32)), (.int ((((w.toUInt32 >>> ((8 : Int32) &&& 31).toUInt32).toInt32).toInt8.toInt32).toInt8.toInt32)), (.int ((w.toInt8.toInt32).toInt8.toInt32))] (.int (0 : Int32))) T0 (mkF m 0 #[.val (.ref a1)] []) := by
  refine Done.of (T' := T0) (g' := (mkF m 1 #[.val (.ref a1)] [(.int (4 : Int32))])) (fun t k => ?_) ?_
  · show Steps p.tables e below (T0.setTop (mkF m 0 #[.val (.ref a1)] [])) t
    refine XS.iconst X0.here hx rfl (hb hby d4_0) ?_
    exact k
  obtain ⟨T1, h1, k1, X1, e1, E1, A1, st1⟩ := newP X0 hx hZ (hw _ (List.mem_of_getElem? (i := 21) rfl)) e0 (g := (mkF m 1 #[.val (.ref a1)] [(.int (4 : Int32))])) rfl (hb hby d4_1) rfl (by decide) (cap := 4) (by decide) (by decide) (by decide) (by decide)
  obtain ⟨b1, g1⟩ : ∃ z, z = h0.size := ⟨_, rfl⟩
  rw [← g1] at A1 st1
  have V1 : Arv Z h1 b1 k1 .byte (4 : Int32) [(.int (0 : Int32)), (.int (0 : Int32)), (.int (0 : Int32)), (.int (0 : Int32))] (.int (0 : Int32)) := (Arv.new A1 (by decide)).pad (pad_rep [] (.int (0 : Int32)) 4)
  have ne2 : a1 ≠ b1 := Nat.ne_of_lt (Nat.lt_of_lt_of_le F_bits_a1.lt (Nat.le_of_eq g1.symm))
  have g_b1 : n0 ≤ b1 := Nat.le_trans Z0 (Nat.le_of_eq g1.symm)
  have sz_b1 : h0.size ≤ b1 := Nat.le_trans (Keep.refl h0 []).1 (Nat.le_of_eq g1.symm)
  have K1 : Keep h0 h1 [] := (Keep.refl h0 []).ext E1
  have f1 := F_bits_a1.ext E1
  refine Done.of (g' := (mkF m 3 #[.val (.ref a1)] [(.ref b1)])) st1 ?_
  refine Done.of (T' := T1) (g' := (mkF m 6 #[.val (.ref a1)] [(.ref a1), (.int (0 : Int32)), (.ref b1), (.ref b1)])) (fun t k => ?_) ?_
  · show Steps p.tables e below (T1.setTop (mkF m 3 #[.val (.ref a1)] [(.ref b1)])) t
    refine XS.dup X1.here hx rfl (hb hby d4_3) rfl rfl ?_
    show Steps p.tables e below (T1.setTop (mkF m 4 #[.val (.ref a1)] [(.ref b1), (.ref b1)])) t
    refine XS.iconst X1.here hx rfl (hb hby d4_4) ?_
    show Steps p.tables e below (T1.setTop (mkF m 5 #[.val (.ref a1)] [(.int (0 : Int32)), (.ref b1), (.ref b1)])) t
    refine XS.aloadN X1.here hx rfl (hb hby d4_5) rfl rfl ?_
    exact k
  obtain ⟨T3, X3, e3, st3⟩ := getF X1 hx hZ hown (host := "") (Or.inl (hw _ (List.mem_of_getElem? (i := 14) rfl))) Via.refl e1 f1 (g := (mkF m 6 #[.val (.ref a1)] [(.ref a1), (.int (0 : Int32)), (.ref b1), (.ref b1)])) rfl rfl (hb hby d4_6)
  refine Done.of (g' := (mkF m 9 #[.val (.ref a1)] [(.int w), (.int (0 : Int32)), (.ref b1), (.ref b1)])) st3 ?_
  refine Done.of (T' := T3) (g' := (mkF m 13 #[.val (.ref a1)] [(.int (((w.toUInt32 >>> ((24 : Int32) &&& 31).toUInt32).toInt32).toInt8.toInt32)), (.int (0 : Int32)), (.ref b1), (.ref b1)])) (fun t k => ?_) ?_
  · show Steps p.tables e below (T3.setTop (mkF m 9 #[.val (.ref a1)] [(.int w), (.int (0 : Int32)), (.ref b1), (.ref b1)])) t
    refine XS.bipush X3.here hx rfl (hb hby d4_9) ?_
    show Steps p.tables e below (T3.setTop (mkF m 11 #[.val (.ref a1)] [(.int (24 : Int32)), (.int w), (.int (0 : Int32)), (.ref b1), (.ref b1)])) t
    refine XS.iushr X3.here hx rfl (hb hby d4_11) rfl ?_
    show Steps p.tables e below (T3.setTop (mkF m 12 #[.val (.ref a1)] [(.int ((w.toUInt32 >>> ((24 : Int32) &&& 31).toUInt32).toInt32)), (.int (0 : Int32)), (.ref b1), (.ref b1)])) t
    refine XS.i2b X3.here hx rfl (hb hby d4_12) rfl ?_
    exact k
  obtain ⟨cl_o5, Ar_o5, q_o5, S_o5, Nn_o5, H_o5, G_o5⟩ := id V1
  have hin4 : ¬ ((0 : Int32) < 0 ∨ cl_o5.slots.size ≤ ((0 : Int32)).toNatClampNeg) := inb_of S_o5 ⟨by decide, by decide⟩
  obtain ⟨T4, h4, X4, e4, W4, st4⟩ := stB X3 hx hZ e3 Ar_o5 (j := (0 : Int32)) hin4 (g := (mkF m 13 #[.val (.ref a1)] [(.int (((w.toUInt32 >>> ((24 : Int32) &&& 31).toUInt32).toInt32).toInt8.toInt32)), (.int (0 : Int32)), (.ref b1), (.ref b1)])) rfl rfl (hb hby d4_13)
  have V4 : Arv Z h4 b1 k1 .byte (4 : Int32) [(.int ((((w.toUInt32 >>> ((24 : Int32) &&& 31).toUInt32).toInt32).toInt8.toInt32).toInt8.toInt32)), (.int (0 : Int32)), (.int (0 : Int32)), (.int (0 : Int32))] (.int (0 : Int32)) := Arv.set Ar_o5 q_o5 S_o5 Nn_o5 H_o5 G_o5 (fits_nar_byte _) W4 0 rfl (Nat.le_of_ble_eq_true rfl)
  have f2 := f1.other W4 (Or.inl ne2)
  have N4 := Fr.snoc X4 N0 g_b1
  have K4 : Keep h0 h4 [] := K1.wr W4 (Or.inr sz_b1)
  refine Done.of (g' := (mkF m 14 #[.val (.ref a1)] [(.ref b1)])) st4 ?_
  refine Done.of (T' := T4) (g' := (mkF m 17 #[.val (.ref a1)] [(.ref a1), (.int (1 : Int32)), (.ref b1), (.ref b1)])) (fun t k => ?_) ?_
  · show Steps p.tables e below (T4.setTop (mkF m 14 #[.val (.ref a1)] [(.ref b1)])) t
    refine XS.dup X4.here hx rfl (hb hby d4_14) rfl rfl ?_
    show Steps p.tables e below (T4.setTop (mkF m 15 #[.val (.ref a1)] [(.ref b1), (.ref b1)])) t
    refine XS.iconst X4.here hx rfl (hb hby d4_15) ?_
    show Steps p.tables e below (T4.setTop (mkF m 16 #[.val (.ref a1)] [(.int (1 : Int32)), (.ref b1), (.ref b1)])) t
    refine XS.aloadN X4.here hx rfl (hb hby d4_16) rfl rfl ?_
    exact k
  obtain ⟨T6, X6, e6, st6⟩ := getF X4 hx hZ hown (host := "") (Or.inl (hw _ (List.mem_of_getElem? (i := 14) rfl))) Via.refl e4 f2 (g := (mkF m 17 #[.val (.ref a1)] [(.ref a1), (.int (1 : Int32)), (.ref b1), (.ref b1)])) rfl rfl (hb hby d4_17)
  refine Done.of (g' := (mkF m 20 #[.val (.ref a1)] [(.int w), (.int (1 : Int32)), (.ref b1), (.ref b1)])) st6 ?_
  refine Done.of (T' := T6) (g' := (mkF m 24 #[.val (.ref a1)] [(.int (((w.toUInt32 >>> ((16 : Int32) &&& 31).toUInt32).toInt32).toInt8.toInt32)), (.int (1 : Int32)), (.ref b1), (.ref b1)])) (fun t k => ?_) ?_
  · show Steps p.tables e below (T6.setTop (mkF m 20 #[.val (.ref a1)] [(.int w), (.int (1 : Int32)), (.ref b1), (.ref b1)])) t
    refine XS.bipush X6.here hx rfl (hb hby d4_20) ?_
    show Steps p.tables e below (T6.setTop (mkF m 22 #[.val (.ref a1)] [(.int (16 : Int32)), (.int w), (.int (1 : Int32)), (.ref b1), (.ref b1)])) t
    refine XS.iushr X6.here hx rfl (hb hby d4_22) rfl ?_
    show Steps p.tables e below (T6.setTop (mkF m 23 #[.val (.ref a1)] [(.int ((w.toUInt32 >>> ((16 : Int32) &&& 31).toUInt32).toInt32)), (.int (1 : Int32)), (.ref b1), (.ref b1)])) t
    refine XS.i2b X6.here hx rfl (hb hby d4_23) rfl ?_
    exact k
  obtain ⟨cl_o8, Ar_o8, q_o8, S_o8, Nn_o8, H_o8, G_o8⟩ := id V4
  have hin7 : ¬ ((1 : Int32) < 0 ∨ cl_o8.slots.size ≤ ((1 : Int32)).toNatClampNeg) := inb_of S_o8 ⟨by decide, by decide⟩
  obtain ⟨T7, h7, X7, e7, W7, st7⟩ := stB X6 hx hZ e6 Ar_o8 (j := (1 : Int32)) hin7 (g := (mkF m 24 #[.val (.ref a1)] [(.int (((w.toUInt32 >>> ((16 : Int32) &&& 31).toUInt32).toInt32).toInt8.toInt32)), (.int (1 : Int32)), (.ref b1), (.ref b1)])) rfl rfl (hb hby d4_24)
  have V7 : Arv Z h7 b1 k1 .byte (4 : Int32) [(.int ((((w.toUInt32 >>> ((24 : Int32) &&& 31).toUInt32).toInt32).toInt8.toInt32).toInt8.toInt32)), (.int ((((w.toUInt32 >>> ((16 : Int32) &&& 31).toUInt32).toInt32).toInt8.toInt32).toInt8.toInt32)), (.int (0 : Int32)), (.int (0 : Int32))] (.int (0 : Int32)) := Arv.set Ar_o8 q_o8 S_o8 Nn_o8 H_o8 G_o8 (fits_nar_byte _) W7 1 rfl (Nat.le_of_ble_eq_true rfl)
  have f3 := f2.other W7 (Or.inl ne2)
  have N7 := Fr.snoc X7 N4 g_b1
  have K7 : Keep h0 h7 [] := K4.wr W7 (Or.inr sz_b1)
  refine Done.of (g' := (mkF m 25 #[.val (.ref a1)] [(.ref b1)])) st7 ?_
  refine Done.of (T' := T7) (g' := (mkF m 28 #[.val (.ref a1)] [(.ref a1), (.int (2 : Int32)), (.ref b1), (.ref b1)])) (fun t k => ?_) ?_
  · show Steps p.tables e below (T7.setTop (mkF m 25 #[.val (.ref a1)] [(.ref b1)])) t
    refine XS.dup X7.here hx rfl (hb hby d4_25) rfl rfl ?_
    show Steps p.tables e below (T7.setTop (mkF m 26 #[.val (.ref a1)] [(.ref b1), (.ref b1)])) t
    refine XS.iconst X7.here hx rfl (hb hby d4_26) ?_
    show Steps p.tables e below (T7.setTop (mkF m 27 #[.val (.ref a1)] [(.int (2 : Int32)), (.ref b1), (.ref b1)])) t
    refine XS.aloadN X7.here hx rfl (hb hby d4_27) rfl rfl ?_
    exact k
  obtain ⟨T9, X9, e9, st9⟩ := getF X7 hx hZ hown (host := "") (Or.inl (hw _ (List.mem_of_getElem? (i := 14) rfl))) Via.refl e7 f3 (g := (mkF m 28 #[.val (.ref a1)] [(.ref a1), (.int (2 : Int32)), (.ref b1), (.ref b1)])) rfl rfl (hb hby d4_28)
  refine Done.of (g' := (mkF m 31 #[.val (.ref a1)] [(.int w), (.int (2 : Int32)), (.ref b1), (.ref b1)])) st9 ?_
  refine Done.of (T' := T9) (g' := (mkF m 35 #[.val (.ref a1)] [(.int (((w.toUInt32 >>> ((8 : Int32) &&& 31).toUInt32).toInt32).toInt8.toInt32)), (.int (2 : Int32)), (.ref b1), (.ref b1)])) (fun t k => ?_) ?_
  · show Steps p.tables e below (T9.setTop (mkF m 31 #[.val (.ref a1)] [(.int w), (.int (2 : Int32)), (.ref b1), (.ref b1)])) t
    refine XS.bipush X9.here hx rfl (hb hby d4_31) ?_
    show Steps p.tables e below (T9.setTop (mkF m 33 #[.val (.ref a1)] [(.int (8 : Int32)), (.int w), (.int (2 : Int32)), (.ref b1), (.ref b1)])) t
    refine XS.iushr X9.here hx rfl (hb hby d4_33) rfl ?_
    show Steps p.tables e below (T9.setTop (mkF m 34 #[.val (.ref a1)] [(.int ((w.toUInt32 >>> ((8 : Int32) &&& 31).toUInt32).toInt32)), (.int (2 : Int32)), (.ref b1), (.ref b1)])) t
    refine XS.i2b X9.here hx rfl (hb hby d4_34) rfl ?_
    exact k
  obtain ⟨cl_o11, Ar_o11, q_o11, S_o11, Nn_o11, H_o11, G_o11⟩ := id V7
  have hin10 : ¬ ((2 : Int32) < 0 ∨ cl_o11.slots.size ≤ ((2 : Int32)).toNatClampNeg) := inb_of S_o11 ⟨by decide, by decide⟩
  obtain ⟨T10, h10, X10, e10, W10, st10⟩ := stB X9 hx hZ e9 Ar_o11 (j := (2 : Int32)) hin10 (g := (mkF m 35 #[.val (.ref a1)] [(.int (((w.toUInt32 >>> ((8 : Int32) &&& 31).toUInt32).toInt32).toInt8.toInt32)), (.int (2 : Int32)), (.ref b1), (.ref b1)])) rfl rfl (hb hby d4_35)
  have V10 : Arv Z h10 b1 k1 .byte (4 : Int32) [(.int ((((w.toUInt32 >>> ((24 : Int32) &&& 31).toUInt32).toInt32).toInt8.toInt32).toInt8.toInt32)), (.int ((((w.toUInt32 >>> ((16 : Int32) &&& 31).toUInt32).toInt32).toInt8.toInt32).toInt8.toInt32)), (.int ((((w.toUInt32 >>> ((8 : Int32) &&& 31).toUInt32).toInt32).toInt8.toInt32).toInt8.toInt32)), (.int (0 : Int32))] (.int (0 : Int32)) := Arv.set Ar_o11 q_o11 S_o11 Nn_o11 H_o11 G_o11 (fits_nar_byte _) W10 2 rfl (Nat.le_of_ble_eq_true rfl)
  have f4 := f3.other W10 (Or.inl ne2)
  have N10 := Fr.snoc X10 N7 g_b1
  have K10 : Keep h0 h10 [] := K7.wr W10 (Or.inr sz_b1)
  refine Done.of (g' := (mkF m 36 #[.val (.ref a1)] [(.ref b1)])) st10 ?_
  refine Done.of (T' := T10) (g' := (mkF m 39 #[.val (.ref a1)] [(.ref a1), (.int (3 : Int32)), (.ref b1), (.ref b1)])) (fun t k => ?_) ?_
  · show Steps p.tables e below (T10.setTop (mkF m 36 #[.val (.ref a1)] [(.ref b1)])) t
    refine XS.dup X10.here hx rfl (hb hby d4_36) rfl rfl ?_
    show Steps p.tables e below (T10.setTop (mkF m 37 #[.val (.ref a1)] [(.ref b1), (.ref b1)])) t
    refine XS.iconst X10.here hx rfl (hb hby d4_37) ?_
    show Steps p.tables e below (T10.setTop (mkF m 38 #[.val (.ref a1)] [(.int (3 : Int32)), (.ref b1), (.ref b1)])) t
    refine XS.aloadN X10.here hx rfl (hb hby d4_38) rfl rfl ?_
    exact k
  obtain ⟨T12, X12, e12, st12⟩ := getF X10 hx hZ hown (host := "") (Or.inl (hw _ (List.mem_of_getElem? (i := 14) rfl))) Via.refl e10 f4 (g := (mkF m 39 #[.val (.ref a1)] [(.ref a1), (.int (3 : Int32)), (.ref b1), (.ref b1)])) rfl rfl (hb hby d4_39)
  refine Done.of (g' := (mkF m 42 #[.val (.ref a1)] [(.int w), (.int (3 : Int32)), (.ref b1), (.ref b1)])) st12 ?_
  refine Done.of (T' := T12) (g' := (mkF m 43 #[.val (.ref a1)] [(.int (w.toInt8.toInt32)), (.int (3 : Int32)), (.ref b1), (.ref b1)])) (fun t k => ?_) ?_
  · show Steps p.tables e below (T12.setTop (mkF m 42 #[.val (.ref a1)] [(.int w), (.int (3 : Int32)), (.ref b1), (.ref b1)])) t
    refine XS.i2b X12.here hx rfl (hb hby d4_42) rfl ?_
    exact k
  obtain ⟨cl_o14, Ar_o14, q_o14, S_o14, Nn_o14, H_o14, G_o14⟩ := id V10
  have hin13 : ¬ ((3 : Int32) < 0 ∨ cl_o14.slots.size ≤ ((3 : Int32)).toNatClampNeg) := inb_of S_o14 ⟨by decide, by decide⟩
  obtain ⟨T13, h13, X13, e13, W13, st13⟩ := stB X12 hx hZ e12 Ar_o14 (j := (3 : Int32)) hin13 (g := (mkF m 43 #[.val (.ref a1)] [(.int (w.toInt8.toInt32)), (.int (3 : Int32)), (.ref b1), (.ref b1)])) rfl rfl (hb hby d4_43)
  have V13 : Arv Z h13 b1 k1 .byte (4 : Int32) [(.int ((((w.toUInt32 >>> ((24 : Int32) &&& 31).toUInt32).toInt32).toInt8.toInt32).toInt8.toInt32)), (.int ((((w.toUInt32 >>> ((16 : Int32) &&& 31).toUInt32).toInt32).toInt8.toInt32).toInt8.toInt32)), (.int ((((w.toUInt32 >>> ((8 : Int32) &&& 31).toUInt32).toInt32).toInt8.toInt32).toInt8.toInt32)), (.int ((w.toInt8.toInt32).toInt8.toInt32))] (.int (0 : Int32)) := Arv.set Ar_o14 q_o14 S_o14 Nn_o14 H_o14 G_o14 (fits_nar_byte _) W13 3 rfl (Nat.le_of_ble_eq_true rfl)
  have f5 := f4.other W13 (Or.inl ne2)
  have N13 := Fr.snoc X13 N10 g_b1
  have K13 : Keep h0 h13 [] := K10.wr W13 (Or.inr sz_b1)
  refine Done.of (g' := (mkF m 44 #[.val (.ref a1)] [(.ref b1)])) st13 ?_
  exact doneA X13 hx hret rfl hlk (hb hby d4_44) (by show ∃ _ _, _; rw [e13]; exact ⟨b1, k1, rfl, N13, K13, g_b1, sz_b1, V13⟩) (by decide) (by decide)
theorem ef_4 (m : MethodId) (a1 : Addr) : entryFrame m #[(.ref a1)] 1 = mkF m 0 #[.val (.ref a1)] [] := by first | (simp [entryFrame, mkF, argsToLocals, Value.category, maxLocals]; done) | rfl
theorem pn_4 : plainName "com/example/tetherd/tetherd/core/ipv4/Ipv4Address" = true := by first | (simp [plainName, overriddenIn]; done) | decide +kernel
def Q4 (Z : State) (a1 : Addr) (h0 : Heap) (n0 : Nat) (w : Int32) (v : Option Value) (h : Heap) (L : List Loc) : Prop := ∃ b k, v = some (.ref b) ∧ Fr n0 L ∧ Keep h0 h [] ∧ n0 ≤ b ∧ h0.size ≤ b ∧ Arv Z h b k .byte (4 : Int32) [(.int ((((w.toUInt32 >>> ((24 : Int32) &&& 31).toUInt32).toInt32).toInt8.toInt32).toInt8.toInt32)), (.int ((((w.toUInt32 >>> ((16 : Int32) &&& 31).toUInt32).toInt32).toInt8.toInt32).toInt8.toInt32)), (.int ((((w.toUInt32 >>> ((8 : Int32) &&& 31).toUInt32).toInt32).toInt8.toInt32).toInt8.toInt32)), (.int ((w.toInt8.toInt32).toInt8.toInt32))] (.int (0 : Int32))
set_option maxRecDepth 65536 in
set_option maxHeartbeats 40000000 in
theorem rm4 (l : Launch) (Z : State) (a0 : Array Value) (hw : ∀ d ∈ tables_1, d.before a0 Z = true) (ws : List Jvm.Cond) (a1 : Addr) (h0 : Heap) (n0 : Nat) (w : Int32) (F_bits_a1 : Fld Z h0 a1 "com/example/tetherd/tetherd/core/ipv4/Ipv4Address" "bits" "I" (.int w)) (Z0 : n0 ≤ h0.size) :
    MetFree l (⟨"com/example/tetherd/tetherd/core/ipv4/Ipv4Address", "octets", "()[B"⟩ : MethodName) (head1 (Jvm.Cond.code (⟨"com/example/tetherd/tetherd/core/ipv4/Ipv4Address", "octets", "()[B"⟩ : MethodName) prog_17_method_3_code 1 (some (.array .byte)) :: ws) ({ frames := 0, cells := 1, slots := 4, locals := 0 } : Room)) (fun a U => a = #[(.ref a1)] ∧ Z.Warmed39 U.vm ∧ U.heap = h0) (fun _ _ _ _ _ => True) (fun _ U o U' => ∃ v L, o = .returned v ∧ (Q4 Z a1 h0 n0 w) v U'.heap L ∧ FrameEnd U o U' L ({ frames := 0, cells := 1, slots := 4, locals := 0 } : Room).cells ({ frames := 0, cells := 1, slots := 4, locals := 0 } : Room).slots) := by
  refine MetFree.of_bodySF (plainFor_of_name pn_4) hisR ?_
  intro p e s m args below meth c s₁ Bd hml0 hP hK
  obtain ⟨rfl, hZ, hh⟩ := hP
  have hown : s.vm.findClass "com/example/tetherd/tetherd/core/ipv4/Ipv4Address" = some m.cls := findClass_of_methodNamed Bd.named
  have hnm := (name_of_methodNamed Bd.named Bd.method).1
  have X0 : Stand p l e ({ frames := 0, cells := 1, slots := 4, locals := 0 } : Room) s m #[(.ref a1)] below meth c s₁ [] 0 0 := Stand.of_body Bd
  have e0 : s₁.heap = h0 := by rw [← hh, Bd.state]; rfl
  have d := bk4_0 (n0 := n0) Bd.exec hZ hw Bd.bytes hml0 hown hnm Bd.returns (BodyLoose.notSynchronized Bd) X0 (Fr.nil n0) e0 a1 w F_bits_a1 Z0
  have d2 : Done p e below s ({ frames := 0, cells := 1, slots := 4, locals := 0 } : Room) (Q4 Z a1 h0 n0 w) s₁ (entryFrame m #[(.ref a1)] 1) := by rw [ef_4]; exact d
  exact d2
theorem pd_1 : parseMethodDescriptor "(I)V" = some ⟨[.int], none⟩ := by decide +kernel
theorem pd_2 : parseMethodDescriptor "()[B" = some ⟨[], some (.array .byte)⟩ := by decide +kernel
def F0_0 (p1 : Int32) : Int32 := (if (((((((((p1.toUInt32 >>> ((24 : Int32) &&& 31).toUInt32).toInt32).toInt8.toInt32).toInt8.toInt32) &&& (255 : Int32)) <<< ((24 : Int32) &&& 31)) ||| ((((((p1.toUInt32 >>> ((16 : Int32) &&& 31).toUInt32).toInt32).toInt8.toInt32).toInt8.toInt32) &&& (255 : Int32)) <<< ((16 : Int32) &&& 31))) ||| ((((((p1.toUInt32 >>> ((8 : Int32) &&& 31).toUInt32).toInt32).toInt8.toInt32).toInt8.toInt32) &&& (255 : Int32)) <<< ((8 : Int32) &&& 31))) ||| (((p1.toInt8.toInt32).toInt8.toInt32) &&& (255 : Int32))) = p1 then (1 : Int32) else (0 : Int32))
set_option maxRecDepth 65536 in
set_option maxHeartbeats 40000000 in
theorem bk0_0 {p : Program} {l : Launch} {e : Env} {s : State} {m : MethodId} {args : Array Value} {below : List Frame} {meth : Method} {c : Code} {T0 : State} {locs : List Loc} {Z : State} {a0 : Array Value} {h0 : Heap} {n0 : Nat}
    (hx : p.tables.exec = Jvm.exec) (hZ : Z.Warmed39 s.vm) (hw : ∀ d ∈ tables_1, d.before a0 Z = true) (hby : c.code = code) (hml : c.maxLocals = 4) (hown : s.vm.findClass "com/example/tetherd/tetherd/core/ipv4/Ipv4AddressOctetsPinLaw" = some m.cls) (hnm : meth.name = "law") (hret : meth.sig.returnType = some .boolean) (hlk : meth.locks = false)
    (X0 : Stand p l e room_1 s m args below meth c T0 locs 0 0) (N0 : Fr n0 locs) (e0 : T0.heap = h0) (p1 : Int32) (Z0 : n0 ≤ h0.size) :
    Done p e below s room_1 (Ql n0 (.int (F0_0 p1))) T0 (mkF m 0 #[.val (.int p1), .unset, .unset, .unset] []) := by
  unfold F0_0
  obtain ⟨T1, h1, X1, e1, E1, A1, D1, -, st1⟩ := newO X0 hx hZ hown (hw _ (List.mem_of_getElem? (i := 0) rfl)) (hw _ (List.mem_of_getElem? (i := 1) rfl)) (hw _ (List.mem_of_getElem? (i := 2) rfl)) e0 (g := (mkF m 0 #[.val (.int p1), .unset, .unset, .unset] [])) rfl (hb hby at_0) (by decide) (by decide)
  obtain ⟨b1, g1⟩ : ∃ z, z = h0.size := ⟨_, rfl⟩
  rw [← g1] at A1 D1 st1
  have g_b1 : n0 ≤ b1 := Nat.le_trans Z0 (Nat.le_of_eq g1.symm)
  have F1_bits : Fld Z h1 b1 "com/example/tetherd/tetherd/core/ipv4/Ipv4Address" "bits" "I" (.int (0 : Int32)) := D1 (Or.inr (hw _ (List.mem_of_getElem? (i := 15) rfl))) (ty := .int) (by decide)
  refine Done.of (g' := (mkF m 3 #[.val (.int p1), .unset, .unset, .unset] [(.ref b1)])) st1 ?_
  refine Done.of (T' := T1) (g' := (mkF m 5 #[.val (.int p1), .unset, .unset, .unset] [(.int p1), (.ref b1), (.ref b1)])) (fun t k => ?_) ?_
  · show Steps p.tables e below (T1.setTop (mkF m 3 #[.val (.int p1), .unset, .unset, .unset] [(.ref b1)])) t
    refine XS.dup X1.here hx rfl (hb hby at_3) rfl rfl ?_
    show Steps p.tables e below (T1.setTop (mkF m 4 #[.val (.int p1), .unset, .unset, .unset] [(.ref b1), (.ref b1)])) t
    refine XS.iloadN X1.here hx rfl (hb hby at_4) rfl ?_
    exact k
  obtain ⟨_, _, ⟨T2, L2, k2, n2⟩, -, X2, ⟨Lc2, hQ2, l2, y2, z2⟩, st2⟩ := X1.specialBack hx (y := (⟨"com/example/tetherd/tetherd/core/ipv4/Ipv4Address", "<init>", "(I)V"⟩ : MethodName)) rfl hown (mvT hZ (hw _ (List.mem_of_getElem? (i := 3) rfl))) (mvT hZ (hw _ (List.mem_of_getElem? (i := 4) rfl))) (mvT hZ (hw _ (List.mem_of_getElem? (i := 5) rfl))) (by decide) (backOf (W := 1) (rm1 l Z a0 hw [] b1 p1 h1 n0 ((.int (0 : Int32))) A1 F1_bits g_b1) hZ (hw _ (List.mem_of_getElem? (i := 5) rfl)) (hw _ (List.mem_of_getElem? (i := 2) rfl)) (by decide) (by decide)) (g := (mkF m 5 #[.val (.int p1), .unset, .unset, .unset] [(.int p1), (.ref b1), (.ref b1)])) rfl (by rw [hml]; rfl) (Steps.refl _) (a := b1) (argsL := [(.int p1)]) (rest := [(.ref b1)]) (lenOf pd_1 rfl) rfl (by show 2 * 0 + _ ≤ _; exact Nat.le_of_eq rfl) (hb hby at_5) (fun _ _ => ⟨rfl, e1, (by decide : 1 + 0 ≤ _), (by decide : 1 + 0 ≤ _)⟩)
  dsimp only [Pt.U, Pt.locs, Pt.cells, Pt.slots] at X2 l2 y2 z2 st2 hQ2
  subst l2 y2 z2
  obtain ⟨h2, e2⟩ : ∃ z, T2.heap = z := ⟨_, rfl⟩
  rw [e2] at hQ2
  obtain ⟨rfl, N2q, K2, E2, F2_bits⟩ := hQ2
  have N2 := Fr.app N0 N2q
  replace X2 : Stand p l e room_1 s m args below meth c T2 _ 1 1 := X2
  refine Done.of (g' := (mkF m 8 #[.val (.int p1), .unset, .unset, .unset] [(.ref b1)])) (fun t k => st2.trans k) ?_
  refine Done.of (T' := T2) (g' := (mkF m 10 #[.val (.int p1), .val (.ref b1), .unset, .unset] [(.ref b1)])) (fun t k => ?_) ?_
  · show Steps p.tables e below (T2.setTop (mkF m 8 #[.val (.int p1), .unset, .unset, .unset] [(.ref b1)])) t
    refine XS.astoreN X2.here hx rfl (hb hby at_8) rfl rfl (l' := #[.val (.int p1), .val (.ref b1), .unset, .unset]) rfl ?_
    show Steps p.tables e below (T2.setTop (mkF m 9 #[.val (.int p1), .val (.ref b1), .unset, .unset] [])) t
    refine XS.aloadN X2.here hx rfl (hb hby at_9) rfl rfl ?_
    exact k
  obtain ⟨cq3, kq3, q3a, q3b, q3c⟩ := isOf hZ e2 E2
  obtain ⟨_, _, ⟨T3, L3, k3, n3⟩, -, X3, ⟨Lc3, hQ3, l3, y3, z3⟩, st3⟩ := X2.virtualBack hx (y := (⟨"com/example/tetherd/tetherd/core/ipv4/Ipv4Address", "octets", "()[B"⟩ : MethodName)) (z := (⟨"com/example/tetherd/tetherd/core/ipv4/Ipv4Address", "octets", "()[B"⟩ : MethodName)) hown (mvT hZ (hw _ (List.mem_of_getElem? (i := 16) rfl))) (mvT hZ (hw _ (List.mem_of_getElem? (i := 17) rfl))) (notFace_of_selects (args := #[]) (mvT hZ (hw _ (List.mem_of_getElem? (i := 19) rfl)))) (mvT hZ (hw _ (List.mem_of_getElem? (i := 19) rfl))) (mvT hZ (hw _ (List.mem_of_getElem? (i := 18) rfl))) (by decide) (backOf (W := 0) (rm4 l Z a0 hw [] b1 h2 n0 p1 F2_bits (Nat.le_trans (Nat.le_trans Z0 E1.1) K2.1)) hZ (hw _ (List.mem_of_getElem? (i := 20) rfl)) (hw _ (List.mem_of_getElem? (i := 2) rfl)) (by decide) (by decide)) q3a q3c (g := (mkF m 10 #[.val (.int p1), .val (.ref b1), .unset, .unset] [(.ref b1)])) rfl (by rw [hml]; rfl) (Steps.refl _) (argsL := []) (rest := []) (lenOf pd_2 rfl) rfl (by show 2 * 0 + _ ≤ _; exact Nat.le_of_eq rfl) (hb hby at_10) (fun _ _ => ⟨rfl, e2, (by decide : 1 + 1 ≤ _), (by decide : 1 + 4 ≤ _)⟩)
  dsimp only [Pt.U, Pt.locs, Pt.cells, Pt.slots] at X3 l3 y3 z3 st3 hQ3
  subst l3 y3 z3
  obtain ⟨h3, e3⟩ : ∃ z, T3.heap = z := ⟨_, rfl⟩
  rw [e3] at hQ3
  obtain ⟨b3, k3, rfl, N3q, K3, g_b3, sz3, V3⟩ := hQ3
  have ne4 : b1 ≠ b3 := Nat.ne_of_lt (Nat.lt_of_lt_of_le E2.lt sz3)
  have f1 := E2.keep K3
  have f2 := F2_bits.keep K3 (List.not_mem_nil)
  have N3 := Fr.app N2 N3q
  replace X3 : Stand p l e room_1 s m args below meth c T3 _ 2 5 := X3
  refine Done.of (g' := (mkF m 13 #[.val (.int p1), .val (.ref b1), .unset, .unset] [(.ref b3)])) (fun t k => st3.trans k) ?_
  refine Done.of (T' := T3) (g' := (mkF m 19 #[.val (.int p1), .val (.ref b1), .val (.ref b3), .unset] [(.ref b3)])) (fun t k => ?_) ?_
  · show Steps p.tables e below (T3.setTop (mkF m 13 #[.val (.int p1), .val (.ref b1), .unset, .unset] [(.ref b3)])) t
    refine XS.astoreN X3.here hx rfl (hb hby at_13) rfl rfl (l' := #[.val (.int p1), .val (.ref b1), .val (.ref b3), .unset]) rfl ?_
    show Steps p.tables e below (T3.setTop (mkF m 14 #[.val (.int p1), .val (.ref b1), .val (.ref b3), .unset] [])) t
    refine XS.aloadN X3.here hx rfl (hb hby at_14) rfl rfl ?_
    show Steps p.tables e below (T3.setTop (mkF m 15 #[.val (.int p1), .val (.ref b1), .val (.ref b3), .unset] [(.ref b3)])) t
    refine XS.ifnullNo X3.here hx rfl (hb hby at_15) rfl ?_
    show Steps p.tables e below (T3.setTop (mkF m 18 #[.val (.int p1), .val (.ref b1), .val (.ref b3), .unset] [])) t
    refine XS.aloadN X3.here hx rfl (hb hby at_18) rfl rfl ?_
    exact k
  obtain ⟨cl_o5, Ar_o5, q_o5, S_o5, Nn_o5, H_o5, G_o5⟩ := id V3
  refine Done.of (T' := T3) (g' := (mkF m 28 #[.val (.int p1), .val (.ref b1), .val (.ref b3), .unset] [(.int (0 : Int32)), (.ref b3)])) (fun t k => ?_) ?_
  · show Steps p.tables e below (T3.setTop (mkF m 19 #[.val (.int p1), .val (.ref b1), .val (.ref b3), .unset] [(.ref b3)])) t
    refine X3.arraylength hx (by rw [e3]; exact Ar_o5.1) (State.isArrayOf_alike hZ.alike Ar_o5.2.1) (g := (mkF m 19 #[.val (.int p1), .val (.ref b1), .val (.ref b3), .unset] [(.ref b3)])) rfl rfl (hb hby at_19) _ ?_
    rw [len_of S_o5 Nn_o5]
    show Steps p.tables e below (T3.setTop (mkF m 20 #[.val (.int p1), .val (.ref b1), .val (.ref b3), .unset] [(.int (4 : Int32))])) t
    refine XS.iconst X3.here hx rfl (hb hby at_20) ?_
    show Steps p.tables e below (T3.setTop (mkF m 21 #[.val (.int p1), .val (.ref b1), .val (.ref b3), .unset] [(.int (4 : Int32)), (.int (4 : Int32))])) t
    refine XS.icmpYes X3.here hx rfl (pc0 := 21) (pc' := 26) rfl (hb hby at_21) rfl (teq (show (4 : Int32) = (4 : Int32) from by decide)).1 (by decide) (by decide) ?_
    show Steps p.tables e below (T3.setTop (mkF m 26 #[.val (.int p1), .val (.ref b1), .val (.ref b3), .unset] [])) t
    refine XS.aloadN X3.here hx rfl (hb hby at_26) rfl rfl ?_
    show Steps p.tables e below (T3.setTop (mkF m 27 #[.val (.int p1), .val (.ref b1), .val (.ref b3), .unset] [(.ref b3)])) t
    refine XS.iconst X3.here hx rfl (hb hby at_27) ?_
    exact k
  obtain ⟨cl_o7, Ar_o7, q_o7, S_o7, Nn_o7, H_o7, G_o7⟩ := id V3
  have hin6 : ¬ ((0 : Int32) < 0 ∨ cl_o7.slots.size ≤ ((0 : Int32)).toNatClampNeg) := inb_of S_o7 ⟨by decide, by decide⟩
  have hat6 : cl_o7.slots[((0 : Int32)).toNatClampNeg]? = some (.int ((((p1.toUInt32 >>> ((24 : Int32) &&& 31).toUInt32).toInt32).toInt8.toInt32).toInt8.toInt32)) := H_o7 0 (by rw [S_o7]; decide)
  refine Done.of (g' := (mkF m 29 #[.val (.int p1), .val (.ref b1), .val (.ref b3), .unset] [(.int ((((p1.toUInt32 >>> ((24 : Int32) &&& 31).toUInt32).toInt32).toInt8.toInt32).toInt8.toInt32))])) (X3.baloadBytes hx (j := (0 : Int32)) (v := (.int ((((p1.toUInt32 >>> ((24 : Int32) &&& 31).toUInt32).toInt32).toInt8.toInt32).toInt8.toInt32))) (by rw [e3]; exact Ar_o7.1) (State.isArrayOf_alike hZ.alike Ar_o7.2.1) Ar_o7.2.2 hin6 hat6 (g := (mkF m 28 #[.val (.int p1), .val (.ref b1), .val (.ref b3), .unset] [(.int (0 : Int32)), (.ref b3)])) rfl rfl (hb hby at_28)) ?_
  refine Done.of (T' := T3) (g' := (mkF m 38 #[.val (.int p1), .val (.ref b1), .val (.ref b3), .unset] [(.int (1 : Int32)), (.ref b3), (.int ((((((p1.toUInt32 >>> ((24 : Int32) &&& 31).toUInt32).toInt32).toInt8.toInt32).toInt8.toInt32) &&& (255 : Int32)) <<< ((24 : Int32) &&& 31)))])) (fun t k => ?_) ?_
  · show Steps p.tables e below (T3.setTop (mkF m 29 #[.val (.int p1), .val (.ref b1), .val (.ref b3), .unset] [(.int ((((p1.toUInt32 >>> ((24 : Int32) &&& 31).toUInt32).toInt32).toInt8.toInt32).toInt8.toInt32))])) t
    refine XS.sipush X3.here hx rfl (hb hby at_29) ?_
    show Steps p.tables e below (T3.setTop (mkF m 32 #[.val (.int p1), .val (.ref b1), .val (.ref b3), .unset] [(.int (255 : Int32)), (.int ((((p1.toUInt32 >>> ((24 : Int32) &&& 31).toUInt32).toInt32).toInt8.toInt32).toInt8.toInt32))])) t
    refine XS.iand X3.here hx rfl (hb hby at_32) rfl ?_
    show Steps p.tables e below (T3.setTop (mkF m 33 #[.val (.int p1), .val (.ref b1), .val (.ref b3), .unset] [(.int (((((p1.toUInt32 >>> ((24 : Int32) &&& 31).toUInt32).toInt32).toInt8.toInt32).toInt8.toInt32) &&& (255 : Int32)))])) t
    refine XS.bipush X3.here hx rfl (hb hby at_33) ?_
    show Steps p.tables e below (T3.setTop (mkF m 35 #[.val (.int p1), .val (.ref b1), .val (.ref b3), .unset] [(.int (24 : Int32)), (.int (((((p1.toUInt32 >>> ((24 : Int32) &&& 31).toUInt32).toInt32).toInt8.toInt32).toInt8.toInt32) &&& (255 : Int32)))])) t
    refine XS.ishl X3.here hx rfl (hb hby at_35) rfl ?_
    show Steps p.tables e below (T3.setTop (mkF m 36 #[.val (.int p1), .val (.ref b1), .val (.ref b3), .unset] [(.int ((((((p1.toUInt32 >>> ((24 : Int32) &&& 31).toUInt32).toInt32).toInt8.toInt32).toInt8.toInt32) &&& (255 : Int32)) <<< ((24 : Int32) &&& 31)))])) t
    refine XS.aloadN X3.here hx rfl (hb hby at_36) rfl rfl ?_
    show Steps p.tables e below (T3.setTop (mkF m 37 #[.val (.int p1), .val (.ref b1), .val (.ref b3), .unset] [(.ref b3), (.int ((((((p1.toUInt32 >>> ((24 : Int32) &&& 31).toUInt32).toInt32).toInt8.toInt32).toInt8.toInt32) &&& (255 : Int32)) <<< ((24 : Int32) &&& 31)))])) t
    refine XS.iconst X3.here hx rfl (hb hby at_37) ?_
    exact k
  obtain ⟨cl_o9, Ar_o9, q_o9, S_o9, Nn_o9, H_o9, G_o9⟩ := id V3
  have hin8 : ¬ ((1 : Int32) < 0 ∨ cl_o9.slots.size ≤ ((1 : Int32)).toNatClampNeg) := inb_of S_o9 ⟨by decide, by decide⟩
  have hat8 : cl_o9.slots[((1 : Int32)).toNatClampNeg]? = some (.int ((((p1.toUInt32 >>> ((16 : Int32) &&& 31).toUInt32).toInt32).toInt8.toInt32).toInt8.toInt32)) := H_o9 1 (by rw [S_o9]; decide)
  refine Done.of (g' := (mkF m 39 #[.val (.int p1), .val (.ref b1), .val (.ref b3), .unset] [(.int ((((p1.toUInt32 >>> ((16 : Int32) &&& 31).toUInt32).toInt32).toInt8.toInt32).toInt8.toInt32)), (.int ((((((p1.toUInt32 >>> ((24 : Int32) &&& 31).toUInt32).toInt32).toInt8.toInt32).toInt8.toInt32) &&& (255 : Int32)) <<< ((24 : Int32) &&& 31)))])) (X3.baloadBytes hx (j := (1 : Int32)) (v := (.int ((((p1.toUInt32 >>> ((16 : Int32) &&& 31).toUInt32).toInt32).toInt8.toInt32).toInt8.toInt32))) (by rw [e3]; exact Ar_o9.1) (State.isArrayOf_alike hZ.alike Ar_o9.2.1) Ar_o9.2.2 hin8 hat8 (g := (mkF m 38 #[.val (.int p1), .val (.ref b1), .val (.ref b3), .unset] [(.int (1 : Int32)), (.ref b3), (.int ((((((p1.toUInt32 >>> ((24 : Int32) &&& 31).toUInt32).toInt32).toInt8.toInt32).toInt8.toInt32) &&& (255 : Int32)) <<< ((24 : Int32) &&& 31)))])) rfl rfl (hb hby at_38)) ?_
  refine Done.of (T' := T3) (g' := (mkF m 49 #[.val (.int p1), .val (.ref b1), .val (.ref b3), .unset] [(.int (2 : Int32)), (.ref b3), (.int (((((((p1.toUInt32 >>> ((24 : Int32) &&& 31).toUInt32).toInt32).toInt8.toInt32).toInt8.toInt32) &&& (255 : Int32)) <<< ((24 : Int32) &&& 31)) ||| ((((((p1.toUInt32 >>> ((16 : Int32) &&& 31).toUInt32).toInt32).toInt8.toInt32).toInt8.toInt32) &&& (255 : Int32)) <<< ((16 : Int32) &&& 31))))])) (fun t k => ?_) ?_
  · show Steps p.tables e below (T3.setTop (mkF m 39 #[.val (.int p1), .val (.ref b1), .val (.ref b3), .unset] [(.int ((((p1.toUInt32 >>> ((16 : Int32) &&& 31).toUInt32).toInt32).toInt8.toInt32).toInt8.toInt32)), (.int ((((((p1.toUInt32 >>> ((24 : Int32) &&& 31).toUInt32).toInt32).toInt8.toInt32).toInt8.toInt32) &&& (255 : Int32)) <<< ((24 : Int32) &&& 31)))])) t
    refine XS.sipush X3.here hx rfl (hb hby at_39) ?_
    show Steps p.tables e below (T3.setTop (mkF m 42 #[.val (.int p1), .val (.ref b1), .val (.ref b3), .unset] [(.int (255 : Int32)), (.int ((((p1.toUInt32 >>> ((16 : Int32) &&& 31).toUInt32).toInt32).toInt8.toInt32).toInt8.toInt32)), (.int ((((((p1.toUInt32 >>> ((24 : Int32) &&& 31).toUInt32).toInt32).toInt8.toInt32).toInt8.toInt32) &&& (255 : Int32)) <<< ((24 : Int32) &&& 31)))])) t
    refine XS.iand X3.here hx rfl (hb hby at_42) rfl ?_
    show Steps p.tables e below (T3.setTop (mkF m 43 #[.val (.int p1), .val (.ref b1), .val (.ref b3), .unset] [(.int (((((p1.toUInt32 >>> ((16 : Int32) &&& 31).toUInt32).toInt32).toInt8.toInt32).toInt8.toInt32) &&& (255 : Int32))), (.int ((((((p1.toUInt32 >>> ((24 : Int32) &&& 31).toUInt32).toInt32).toInt8.toInt32).toInt8.toInt32) &&& (255 : Int32)) <<< ((24 : Int32) &&& 31)))])) t
    refine XS.bipush X3.here hx rfl (hb hby at_43) ?_
    show Steps p.tables e below (T3.setTop (mkF m 45 #[.val (.int p1), .val (.ref b1), .val (.ref b3), .unset] [(.int (16 : Int32)), (.int (((((p1.toUInt32 >>> ((16 : Int32) &&& 31).toUInt32).toInt32).toInt8.toInt32).toInt8.toInt32) &&& (255 : Int32))), (.int ((((((p1.toUInt32 >>> ((24 : Int32) &&& 31).toUInt32).toInt32).toInt8.toInt32).toInt8.toInt32) &&& (255 : Int32)) <<< ((24 : Int32) &&& 31)))])) t
    refine XS.ishl X3.here hx rfl (hb hby at_45) rfl ?_
    show Steps p.tables e below (T3.setTop (mkF m 46 #[.val (.int p1), .val (.ref b1), .val (.ref b3), .unset] [(.int ((((((p1.toUInt32 >>> ((16 : Int32) &&& 31).toUInt32).toInt32).toInt8.toInt32).toInt8.toInt32) &&& (255 : Int32)) <<< ((16 : Int32) &&& 31))), (.int ((((((p1.toUInt32 >>> ((24 : Int32) &&& 31).toUInt32).toInt32).toInt8.toInt32).toInt8.toInt32) &&& (255 : Int32)) <<< ((24 : Int32) &&& 31)))])) t
    refine XS.ior X3.here hx rfl (hb hby at_46) rfl ?_
    show Steps p.tables e below (T3.setTop (mkF m 47 #[.val (.int p1), .val (.ref b1), .val (.ref b3), .unset] [(.int (((((((p1.toUInt32 >>> ((24 : Int32) &&& 31).toUInt32).toInt32).toInt8.toInt32).toInt8.toInt32) &&& (255 : Int32)) <<< ((24 : Int32) &&& 31)) ||| ((((((p1.toUInt32 >>> ((16 : Int32) &&& 31).toUInt32).toInt32).toInt8.toInt32).toInt8.toInt32) &&& (255 : Int32)) <<< ((16 : Int32) &&& 31))))])) t
    refine XS.aloadN X3.here hx rfl (hb hby at_47) rfl rfl ?_
    show Steps p.tables e below (T3.setTop (mkF m 48 #[.val (.int p1), .val (.ref b1), .val (.ref b3), .unset] [(.ref b3), (.int (((((((p1.toUInt32 >>> ((24 : Int32) &&& 31).toUInt32).toInt32).toInt8.toInt32).toInt8.toInt32) &&& (255 : Int32)) <<< ((24 : Int32) &&& 31)) ||| ((((((p1.toUInt32 >>> ((16 : Int32) &&& 31).toUInt32).toInt32).toInt8.toInt32).toInt8.toInt32) &&& (255 : Int32)) <<< ((16 : Int32) &&& 31))))])) t
    refine XS.iconst X3.here hx rfl (hb hby at_48) ?_
    exact k
  obtain ⟨cl_o11, Ar_o11, q_o11, S_o11, Nn_o11, H_o11, G_o11⟩ := id V3
  have hin10 : ¬ ((2 : Int32) < 0 ∨ cl_o11.slots.size ≤ ((2 : Int32)).toNatClampNeg) := inb_of S_o11 ⟨by decide, by decide⟩
  have hat10 : cl_o11.slots[((2 : Int32)).toNatClampNeg]? = some (.int ((((p1.toUInt32 >>> ((8 : Int32) &&& 31).toUInt32).toInt32).toInt8.toInt32).toInt8.toInt32)) := H_o11 2 (by rw [S_o11]; decide)
  refine Done.of (g' := (mkF m 50 #[.val (.int p1), .val (.ref b1), .val (.ref b3), .unset] [(.int ((((p1.toUInt32 >>> ((8 : Int32) &&& 31).toUInt32).toInt32).toInt8.toInt32).toInt8.toInt32)), (.int (((((((p1.toUInt32 >>> ((24 : Int32) &&& 31).toUInt32).toInt32).toInt8.toInt32).toInt8.toInt32) &&& (255 : Int32)) <<< ((24 : Int32) &&& 31)) ||| ((((((p1.toUInt32 >>> ((16 : Int32) &&& 31).toUInt32).toInt32).toInt8.toInt32).toInt8.toInt32) &&& (255 : Int32)) <<< ((16 : Int32) &&& 31))))])) (X3.baloadBytes hx (j := (2 : Int32)) (v := (.int ((((p1.toUInt32 >>> ((8 : Int32) &&& 31).toUInt32).toInt32).toInt8.toInt32).toInt8.toInt32))) (by rw [e3]; exact Ar_o11.1) (State.isArrayOf_alike hZ.alike Ar_o11.2.1) Ar_o11.2.2 hin10 hat10 (g := (mkF m 49 #[.val (.int p1), .val (.ref b1), .val (.ref b3), .unset] [(.int (2 : Int32)), (.ref b3), (.int (((((((p1.toUInt32 >>> ((24 : Int32) &&& 31).toUInt32).toInt32).toInt8.toInt32).toInt8.toInt32) &&& (255 : Int32)) <<< ((24 : Int32) &&& 31)) ||| ((((((p1.toUInt32 >>> ((16 : Int32) &&& 31).toUInt32).toInt32).toInt8.toInt32).toInt8.toInt32) &&& (255 : Int32)) <<< ((16 : Int32) &&& 31))))])) rfl rfl (hb hby at_49)) ?_
  refine Done.of (T' := T3) (g' := (mkF m 60 #[.val (.int p1), .val (.ref b1), .val (.ref b3), .unset] [(.int (3 : Int32)), (.ref b3), (.int ((((((((p1.toUInt32 >>> ((24 : Int32) &&& 31).toUInt32).toInt32).toInt8.toInt32).toInt8.toInt32) &&& (255 : Int32)) <<< ((24 : Int32) &&& 31)) ||| ((((((p1.toUInt32 >>> ((16 : Int32) &&& 31).toUInt32).toInt32).toInt8.toInt32).toInt8.toInt32) &&& (255 : Int32)) <<< ((16 : Int32) &&& 31))) ||| ((((((p1.toUInt32 >>> ((8 : Int32) &&& 31).toUInt32).toInt32).toInt8.toInt32).toInt8.toInt32) &&& (255 : Int32)) <<< ((8 : Int32) &&& 31))))])) (fun t k => ?_) ?_
  · show Steps p.tables e below (T3.setTop (mkF m 50 #[.val (.int p1), .val (.ref b1), .val (.ref b3), .unset] [(.int ((((p1.toUInt32 >>> ((8 : Int32) &&& 31).toUInt32).toInt32).toInt8.toInt32).toInt8.toInt32)), (.int (((((((p1.toUInt32 >>> ((24 : Int32) &&& 31).toUInt32).toInt32).toInt8.toInt32).toInt8.toInt32) &&& (255 : Int32)) <<< ((24 : Int32) &&& 31)) ||| ((((((p1.toUInt32 >>> ((16 : Int32) &&& 31).toUInt32).toInt32).toInt8.toInt32).toInt8.toInt32) &&& (255 : Int32)) <<< ((16 : Int32) &&& 31))))])) t
    refine XS.sipush X3.here hx rfl (hb hby at_50) ?_
    show Steps p.tables e below (T3.setTop (mkF m 53 #[.val (.int p1), .val (.ref b1), .val (.ref b3), .unset] [(.int (255 : Int32)), (.int ((((p1.toUInt32 >>> ((8 : Int32) &&& 31).toUInt32).toInt32).toInt8.toInt32).toInt8.toInt32)), (.int (((((((p1.toUInt32 >>> ((24 : Int32) &&& 31).toUInt32).toInt32).toInt8.toInt32).toInt8.toInt32) &&& (255 : Int32)) <<< ((24 : Int32) &&& 31)) ||| ((((((p1.toUInt32 >>> ((16 : Int32) &&& 31).toUInt32).toInt32).toInt8.toInt32).toInt8.toInt32) &&& (255 : Int32)) <<< ((16 : Int32) &&& 31))))])) t
    refine XS.iand X3.here hx rfl (hb hby at_53) rfl ?_
    show Steps p.tables e below (T3.setTop (mkF m 54 #[.val (.int p1), .val (.ref b1), .val (.ref b3), .unset] [(.int (((((p1.toUInt32 >>> ((8 : Int32) &&& 31).toUInt32).toInt32).toInt8.toInt32).toInt8.toInt32) &&& (255 : Int32))), (.int (((((((p1.toUInt32 >>> ((24 : Int32) &&& 31).toUInt32).toInt32).toInt8.toInt32).toInt8.toInt32) &&& (255 : Int32)) <<< ((24 : Int32) &&& 31)) ||| ((((((p1.toUInt32 >>> ((16 : Int32) &&& 31).toUInt32).toInt32).toInt8.toInt32).toInt8.toInt32) &&& (255 : Int32)) <<< ((16 : Int32) &&& 31))))])) t
    refine XS.bipush X3.here hx rfl (hb hby at_54) ?_
    show Steps p.tables e below (T3.setTop (mkF m 56 #[.val (.int p1), .val (.ref b1), .val (.ref b3), .unset] [(.int (8 : Int32)), (.int (((((p1.toUInt32 >>> ((8 : Int32) &&& 31).toUInt32).toInt32).toInt8.toInt32).toInt8.toInt32) &&& (255 : Int32))), (.int (((((((p1.toUInt32 >>> ((24 : Int32) &&& 31).toUInt32).toInt32).toInt8.toInt32).toInt8.toInt32) &&& (255 : Int32)) <<< ((24 : Int32) &&& 31)) ||| ((((((p1.toUInt32 >>> ((16 : Int32) &&& 31).toUInt32).toInt32).toInt8.toInt32).toInt8.toInt32) &&& (255 : Int32)) <<< ((16 : Int32) &&& 31))))])) t
    refine XS.ishl X3.here hx rfl (hb hby at_56) rfl ?_
    show Steps p.tables e below (T3.setTop (mkF m 57 #[.val (.int p1), .val (.ref b1), .val (.ref b3), .unset] [(.int ((((((p1.toUInt32 >>> ((8 : Int32) &&& 31).toUInt32).toInt32).toInt8.toInt32).toInt8.toInt32) &&& (255 : Int32)) <<< ((8 : Int32) &&& 31))), (.int (((((((p1.toUInt32 >>> ((24 : Int32) &&& 31).toUInt32).toInt32).toInt8.toInt32).toInt8.toInt32) &&& (255 : Int32)) <<< ((24 : Int32) &&& 31)) ||| ((((((p1.toUInt32 >>> ((16 : Int32) &&& 31).toUInt32).toInt32).toInt8.toInt32).toInt8.toInt32) &&& (255 : Int32)) <<< ((16 : Int32) &&& 31))))])) t
    refine XS.ior X3.here hx rfl (hb hby at_57) rfl ?_
    show Steps p.tables e below (T3.setTop (mkF m 58 #[.val (.int p1), .val (.ref b1), .val (.ref b3), .unset] [(.int ((((((((p1.toUInt32 >>> ((24 : Int32) &&& 31).toUInt32).toInt32).toInt8.toInt32).toInt8.toInt32) &&& (255 : Int32)) <<< ((24 : Int32) &&& 31)) ||| ((((((p1.toUInt32 >>> ((16 : Int32) &&& 31).toUInt32).toInt32).toInt8.toInt32).toInt8.toInt32) &&& (255 : Int32)) <<< ((16 : Int32) &&& 31))) ||| ((((((p1.toUInt32 >>> ((8 : Int32) &&& 31).toUInt32).toInt32).toInt8.toInt32).toInt8.toInt32) &&& (255 : Int32)) <<< ((8 : Int32) &&& 31))))])) t
    refine XS.aloadN X3.here hx rfl (hb hby at_58) rfl rfl ?_
    show Steps p.tables e below (T3.setTop (mkF m 59 #[.val (.int p1), .val (.ref b1), .val (.ref b3), .unset] [(.ref b3), (.int ((((((((p1.toUInt32 >>> ((24 : Int32) &&& 31).toUInt32).toInt32).toInt8.toInt32).toInt8.toInt32) &&& (255 : Int32)) <<< ((24 : Int32) &&& 31)) ||| ((((((p1.toUInt32 >>> ((16 : Int32) &&& 31).toUInt32).toInt32).toInt8.toInt32).toInt8.toInt32) &&& (255 : Int32)) <<< ((16 : Int32) &&& 31))) ||| ((((((p1.toUInt32 >>> ((8 : Int32) &&& 31).toUInt32).toInt32).toInt8.toInt32).toInt8.toInt32) &&& (255 : Int32)) <<< ((8 : Int32) &&& 31))))])) t
    refine XS.iconst X3.here hx rfl (hb hby at_59) ?_
    exact k
  obtain ⟨cl_o13, Ar_o13, q_o13, S_o13, Nn_o13, H_o13, G_o13⟩ := id V3
  have hin12 : ¬ ((3 : Int32) < 0 ∨ cl_o13.slots.size ≤ ((3 : Int32)).toNatClampNeg) := inb_of S_o13 ⟨by decide, by decide⟩
  have hat12 : cl_o13.slots[((3 : Int32)).toNatClampNeg]? = some (.int ((p1.toInt8.toInt32).toInt8.toInt32)) := H_o13 3 (by rw [S_o13]; decide)
  refine Done.of (g' := (mkF m 61 #[.val (.int p1), .val (.ref b1), .val (.ref b3), .unset] [(.int ((p1.toInt8.toInt32).toInt8.toInt32)), (.int ((((((((p1.toUInt32 >>> ((24 : Int32) &&& 31).toUInt32).toInt32).toInt8.toInt32).toInt8.toInt32) &&& (255 : Int32)) <<< ((24 : Int32) &&& 31)) ||| ((((((p1.toUInt32 >>> ((16 : Int32) &&& 31).toUInt32).toInt32).toInt8.toInt32).toInt8.toInt32) &&& (255 : Int32)) <<< ((16 : Int32) &&& 31))) ||| ((((((p1.toUInt32 >>> ((8 : Int32) &&& 31).toUInt32).toInt32).toInt8.toInt32).toInt8.toInt32) &&& (255 : Int32)) <<< ((8 : Int32) &&& 31))))])) (X3.baloadBytes hx (j := (3 : Int32)) (v := (.int ((p1.toInt8.toInt32).toInt8.toInt32))) (by rw [e3]; exact Ar_o13.1) (State.isArrayOf_alike hZ.alike Ar_o13.2.1) Ar_o13.2.2 hin12 hat12 (g := (mkF m 60 #[.val (.int p1), .val (.ref b1), .val (.ref b3), .unset] [(.int (3 : Int32)), (.ref b3), (.int ((((((((p1.toUInt32 >>> ((24 : Int32) &&& 31).toUInt32).toInt32).toInt8.toInt32).toInt8.toInt32) &&& (255 : Int32)) <<< ((24 : Int32) &&& 31)) ||| ((((((p1.toUInt32 >>> ((16 : Int32) &&& 31).toUInt32).toInt32).toInt8.toInt32).toInt8.toInt32) &&& (255 : Int32)) <<< ((16 : Int32) &&& 31))) ||| ((((((p1.toUInt32 >>> ((8 : Int32) &&& 31).toUInt32).toInt32).toInt8.toInt32).toInt8.toInt32) &&& (255 : Int32)) <<< ((8 : Int32) &&& 31))))])) rfl rfl (hb hby at_60)) ?_
  refine Done.of (T' := T3) (g' := (mkF m 69 #[.val (.int p1), .val (.ref b1), .val (.ref b3), .val (.int (((((((((p1.toUInt32 >>> ((24 : Int32) &&& 31).toUInt32).toInt32).toInt8.toInt32).toInt8.toInt32) &&& (255 : Int32)) <<< ((24 : Int32) &&& 31)) ||| ((((((p1.toUInt32 >>> ((16 : Int32) &&& 31).toUInt32).toInt32).toInt8.toInt32).toInt8.toInt32) &&& (255 : Int32)) <<< ((16 : Int32) &&& 31))) ||| ((((((p1.toUInt32 >>> ((8 : Int32) &&& 31).toUInt32).toInt32).toInt8.toInt32).toInt8.toInt32) &&& (255 : Int32)) <<< ((8 : Int32) &&& 31))) ||| (((p1.toInt8.toInt32).toInt8.toInt32) &&& (255 : Int32))))] [(.int p1), (.int (((((((((p1.toUInt32 >>> ((24 : Int32) &&& 31).toUInt32).toInt32).toInt8.toInt32).toInt8.toInt32) &&& (255 : Int32)) <<< ((24 : Int32) &&& 31)) ||| ((((((p1.toUInt32 >>> ((16 : Int32) &&& 31).toUInt32).toInt32).toInt8.toInt32).toInt8.toInt32) &&& (255 : Int32)) <<< ((16 : Int32) &&& 31))) ||| ((((((p1.toUInt32 >>> ((8 : Int32) &&& 31).toUInt32).toInt32).toInt8.toInt32).toInt8.toInt32) &&& (255 : Int32)) <<< ((8 : Int32) &&& 31))) ||| (((p1.toInt8.toInt32).toInt8.toInt32) &&& (255 : Int32))))])) (fun t k => ?_) ?_
  · show Steps p.tables e below (T3.setTop (mkF m 61 #[.val (.int p1), .val (.ref b1), .val (.ref b3), .unset] [(.int ((p1.toInt8.toInt32).toInt8.toInt32)), (.int ((((((((p1.toUInt32 >>> ((24 : Int32) &&& 31).toUInt32).toInt32).toInt8.toInt32).toInt8.toInt32) &&& (255 : Int32)) <<< ((24 : Int32) &&& 31)) ||| ((((((p1.toUInt32 >>> ((16 : Int32) &&& 31).toUInt32).toInt32).toInt8.toInt32).toInt8.toInt32) &&& (255 : Int32)) <<< ((16 : Int32) &&& 31))) ||| ((((((p1.toUInt32 >>> ((8 : Int32) &&& 31).toUInt32).toInt32).toInt8.toInt32).toInt8.toInt32) &&& (255 : Int32)) <<< ((8 : Int32) &&& 31))))])) t
    refine XS.sipush X3.here hx rfl (hb hby at_61) ?_
    show Steps p.tables e below (T3.setTop (mkF m 64 #[.val (.int p1), .val (.ref b1), .val (.ref b3), .unset] [(.int (255 : Int32)), (.int ((p1.toInt8.toInt32).toInt8.toInt32)), (.int ((((((((p1.toUInt32 >>> ((24 : Int32) &&& 31).toUInt32).toInt32).toInt8.toInt32).toInt8.toInt32) &&& (255 : Int32)) <<< ((24 : Int32) &&& 31)) ||| ((((((p1.toUInt32 >>> ((16 : Int32) &&& 31).toUInt32).toInt32).toInt8.toInt32).toInt8.toInt32) &&& (255 : Int32)) <<< ((16 : Int32) &&& 31))) ||| ((((((p1.toUInt32 >>> ((8 : Int32) &&& 31).toUInt32).toInt32).toInt8.toInt32).toInt8.toInt32) &&& (255 : Int32)) <<< ((8 : Int32) &&& 31))))])) t
    refine XS.iand X3.here hx rfl (hb hby at_64) rfl ?_
    show Steps p.tables e below (T3.setTop (mkF m 65 #[.val (.int p1), .val (.ref b1), .val (.ref b3), .unset] [(.int (((p1.toInt8.toInt32).toInt8.toInt32) &&& (255 : Int32))), (.int ((((((((p1.toUInt32 >>> ((24 : Int32) &&& 31).toUInt32).toInt32).toInt8.toInt32).toInt8.toInt32) &&& (255 : Int32)) <<< ((24 : Int32) &&& 31)) ||| ((((((p1.toUInt32 >>> ((16 : Int32) &&& 31).toUInt32).toInt32).toInt8.toInt32).toInt8.toInt32) &&& (255 : Int32)) <<< ((16 : Int32) &&& 31))) ||| ((((((p1.toUInt32 >>> ((8 : Int32) &&& 31).toUInt32).toInt32).toInt8.toInt32).toInt8.toInt32) &&& (255 : Int32)) <<< ((8 : Int32) &&& 31))))])) t
    refine XS.ior X3.here hx rfl (hb hby at_65) rfl ?_
    show Steps p.tables e below (T3.setTop (mkF m 66 #[.val (.int p1), .val (.ref b1), .val (.ref b3), .unset] [(.int (((((((((p1.toUInt32 >>> ((24 : Int32) &&& 31).toUInt32).toInt32).toInt8.toInt32).toInt8.toInt32) &&& (255 : Int32)) <<< ((24 : Int32) &&& 31)) ||| ((((((p1.toUInt32 >>> ((16 : Int32) &&& 31).toUInt32).toInt32).toInt8.toInt32).toInt8.toInt32) &&& (255 : Int32)) <<< ((16 : Int32) &&& 31))) ||| ((((((p1.toUInt32 >>> ((8 : Int32) &&& 31).toUInt32).toInt32).toInt8.toInt32).toInt8.toInt32) &&& (255 : Int32)) <<< ((8 : Int32) &&& 31))) ||| (((p1.toInt8.toInt32).toInt8.toInt32) &&& (255 : Int32))))])) t
    refine XS.istoreN X3.here hx rfl (hb hby at_66) rfl (l' := #[.val (.int p1), .val (.ref b1), .val (.ref b3), .val (.int (((((((((p1.toUInt32 >>> ((24 : Int32) &&& 31).toUInt32).toInt32).toInt8.toInt32).toInt8.toInt32) &&& (255 : Int32)) <<< ((24 : Int32) &&& 31)) ||| ((((((p1.toUInt32 >>> ((16 : Int32) &&& 31).toUInt32).toInt32).toInt8.toInt32).toInt8.toInt32) &&& (255 : Int32)) <<< ((16 : Int32) &&& 31))) ||| ((((((p1.toUInt32 >>> ((8 : Int32) &&& 31).toUInt32).toInt32).toInt8.toInt32).toInt8.toInt32) &&& (255 : Int32)) <<< ((8 : Int32) &&& 31))) ||| (((p1.toInt8.toInt32).toInt8.toInt32) &&& (255 : Int32))))]) rfl ?_
    show Steps p.tables e below (T3.setTop (mkF m 67 #[.val (.int p1), .val (.ref b1), .val (.ref b3), .val (.int (((((((((p1.toUInt32 >>> ((24 : Int32) &&& 31).toUInt32).toInt32).toInt8.toInt32).toInt8.toInt32) &&& (255 : Int32)) <<< ((24 : Int32) &&& 31)) ||| ((((((p1.toUInt32 >>> ((16 : Int32) &&& 31).toUInt32).toInt32).toInt8.toInt32).toInt8.toInt32) &&& (255 : Int32)) <<< ((16 : Int32) &&& 31))) ||| ((((((p1.toUInt32 >>> ((8 : Int32) &&& 31).toUInt32).toInt32).toInt8.toInt32).toInt8.toInt32) &&& (255 : Int32)) <<< ((8 : Int32) &&& 31))) ||| (((p1.toInt8.toInt32).toInt8.toInt32) &&& (255 : Int32))))] [])) t
    refine XS.iloadN X3.here hx rfl (hb hby at_67) rfl ?_
    show Steps p.tables e below (T3.setTop (mkF m 68 #[.val (.int p1), .val (.ref b1), .val (.ref b3), .val (.int (((((((((p1.toUInt32 >>> ((24 : Int32) &&& 31).toUInt32).toInt32).toInt8.toInt32).toInt8.toInt32) &&& (255 : Int32)) <<< ((24 : Int32) &&& 31)) ||| ((((((p1.toUInt32 >>> ((16 : Int32) &&& 31).toUInt32).toInt32).toInt8.toInt32).toInt8.toInt32) &&& (255 : Int32)) <<< ((16 : Int32) &&& 31))) ||| ((((((p1.toUInt32 >>> ((8 : Int32) &&& 31).toUInt32).toInt32).toInt8.toInt32).toInt8.toInt32) &&& (255 : Int32)) <<< ((8 : Int32) &&& 31))) ||| (((p1.toInt8.toInt32).toInt8.toInt32) &&& (255 : Int32))))] [(.int (((((((((p1.toUInt32 >>> ((24 : Int32) &&& 31).toUInt32).toInt32).toInt8.toInt32).toInt8.toInt32) &&& (255 : Int32)) <<< ((24 : Int32) &&& 31)) ||| ((((((p1.toUInt32 >>> ((16 : Int32) &&& 31).toUInt32).toInt32).toInt8.toInt32).toInt8.toInt32) &&& (255 : Int32)) <<< ((16 : Int32) &&& 31))) ||| ((((((p1.toUInt32 >>> ((8 : Int32) &&& 31).toUInt32).toInt32).toInt8.toInt32).toInt8.toInt32) &&& (255 : Int32)) <<< ((8 : Int32) &&& 31))) ||| (((p1.toInt8.toInt32).toInt8.toInt32) &&& (255 : Int32))))])) t
    refine XS.iloadN X3.here hx rfl (hb hby at_68) rfl ?_
    exact k
  by_cases hc69_13 : (((((((((p1.toUInt32 >>> ((24 : Int32) &&& 31).toUInt32).toInt32).toInt8.toInt32).toInt8.toInt32) &&& (255 : Int32)) <<< ((24 : Int32) &&& 31)) ||| ((((((p1.toUInt32 >>> ((16 : Int32) &&& 31).toUInt32).toInt32).toInt8.toInt32).toInt8.toInt32) &&& (255 : Int32)) <<< ((16 : Int32) &&& 31))) ||| ((((((p1.toUInt32 >>> ((8 : Int32) &&& 31).toUInt32).toInt32).toInt8.toInt32).toInt8.toInt32) &&& (255 : Int32)) <<< ((8 : Int32) &&& 31))) ||| (((p1.toInt8.toInt32).toInt8.toInt32) &&& (255 : Int32))) = p1
  · rw [if_pos hc69_13]
    refine Done.of (T' := T3) (g' := (mkF m 77 #[.val (.int p1), .val (.ref b1), .val (.ref b3), .val (.int (((((((((p1.toUInt32 >>> ((24 : Int32) &&& 31).toUInt32).toInt32).toInt8.toInt32).toInt8.toInt32) &&& (255 : Int32)) <<< ((24 : Int32) &&& 31)) ||| ((((((p1.toUInt32 >>> ((16 : Int32) &&& 31).toUInt32).toInt32).toInt8.toInt32).toInt8.toInt32) &&& (255 : Int32)) <<< ((16 : Int32) &&& 31))) ||| ((((((p1.toUInt32 >>> ((8 : Int32) &&& 31).toUInt32).toInt32).toInt8.toInt32).toInt8.toInt32) &&& (255 : Int32)) <<< ((8 : Int32) &&& 31))) ||| (((p1.toInt8.toInt32).toInt8.toInt32) &&& (255 : Int32))))] [(.int (1 : Int32))])) (fun t k => ?_) ?_
    · show Steps p.tables e below (T3.setTop (mkF m 69 #[.val (.int p1), .val (.ref b1), .val (.ref b3), .val (.int (((((((((p1.toUInt32 >>> ((24 : Int32) &&& 31).toUInt32).toInt32).toInt8.toInt32).toInt8.toInt32) &&& (255 : Int32)) <<< ((24 : Int32) &&& 31)) ||| ((((((p1.toUInt32 >>> ((16 : Int32) &&& 31).toUInt32).toInt32).toInt8.toInt32).toInt8.toInt32) &&& (255 : Int32)) <<< ((16 : Int32) &&& 31))) ||| ((((((p1.toUInt32 >>> ((8 : Int32) &&& 31).toUInt32).toInt32).toInt8.toInt32).toInt8.toInt32) &&& (255 : Int32)) <<< ((8 : Int32) &&& 31))) ||| (((p1.toInt8.toInt32).toInt8.toInt32) &&& (255 : Int32))))] [(.int p1), (.int (((((((((p1.toUInt32 >>> ((24 : Int32) &&& 31).toUInt32).toInt32).toInt8.toInt32).toInt8.toInt32) &&& (255 : Int32)) <<< ((24 : Int32) &&& 31)) ||| ((((((p1.toUInt32 >>> ((16 : Int32) &&& 31).toUInt32).toInt32).toInt8.toInt32).toInt8.toInt32) &&& (255 : Int32)) <<< ((16 : Int32) &&& 31))) ||| ((((((p1.toUInt32 >>> ((8 : Int32) &&& 31).toUInt32).toInt32).toInt8.toInt32).toInt8.toInt32) &&& (255 : Int32)) <<< ((8 : Int32) &&& 31))) ||| (((p1.toInt8.toInt32).toInt8.toInt32) &&& (255 : Int32))))])) t
      refine XS.icmpNo X3.here hx rfl (hb hby at_69) rfl (teq hc69_13).2 ?_
      show Steps p.tables e below (T3.setTop (mkF m 72 #[.val (.int p1), .val (.ref b1), .val (.ref b3), .val (.int (((((((((p1.toUInt32 >>> ((24 : Int32) &&& 31).toUInt32).toInt32).toInt8.toInt32).toInt8.toInt32) &&& (255 : Int32)) <<< ((24 : Int32) &&& 31)) ||| ((((((p1.toUInt32 >>> ((16 : Int32) &&& 31).toUInt32).toInt32).toInt8.toInt32).toInt8.toInt32) &&& (255 : Int32)) <<< ((16 : Int32) &&& 31))) ||| ((((((p1.toUInt32 >>> ((8 : Int32) &&& 31).toUInt32).toInt32).toInt8.toInt32).toInt8.toInt32) &&& (255 : Int32)) <<< ((8 : Int32) &&& 31))) ||| (((p1.toInt8.toInt32).toInt8.toInt32) &&& (255 : Int32))))] [])) t
      refine XS.iconst X3.here hx rfl (hb hby at_72) ?_
      show Steps p.tables e below (T3.setTop (mkF m 73 #[.val (.int p1), .val (.ref b1), .val (.ref b3), .val (.int (((((((((p1.toUInt32 >>> ((24 : Int32) &&& 31).toUInt32).toInt32).toInt8.toInt32).toInt8.toInt32) &&& (255 : Int32)) <<< ((24 : Int32) &&& 31)) ||| ((((((p1.toUInt32 >>> ((16 : Int32) &&& 31).toUInt32).toInt32).toInt8.toInt32).toInt8.toInt32) &&& (255 : Int32)) <<< ((16 : Int32) &&& 31))) ||| ((((((p1.toUInt32 >>> ((8 : Int32) &&& 31).toUInt32).toInt32).toInt8.toInt32).toInt8.toInt32) &&& (255 : Int32)) <<< ((8 : Int32) &&& 31))) ||| (((p1.toInt8.toInt32).toInt8.toInt32) &&& (255 : Int32))))] [(.int (1 : Int32))])) t
      refine XS.goto X3.here hx rfl (pc0 := 73) (pc' := 77) rfl (hb hby at_73) (by decide) (by decide) ?_
      exact k
    exact doneN (t := .boolean) X3 (by simp) hx hret hlk (hb hby at_77) ⟨rfl, N3⟩ (by decide) (by decide)
  · rw [if_neg hc69_13]
    refine Done.of (T' := T3) (g' := (mkF m 77 #[.val (.int p1), .val (.ref b1), .val (.ref b3), .val (.int (((((((((p1.toUInt32 >>> ((24 : Int32) &&& 31).toUInt32).toInt32).toInt8.toInt32).toInt8.toInt32) &&& (255 : Int32)) <<< ((24 : Int32) &&& 31)) ||| ((((((p1.toUInt32 >>> ((16 : Int32) &&& 31).toUInt32).toInt32).toInt8.toInt32).toInt8.toInt32) &&& (255 : Int32)) <<< ((16 : Int32) &&& 31))) ||| ((((((p1.toUInt32 >>> ((8 : Int32) &&& 31).toUInt32).toInt32).toInt8.toInt32).toInt8.toInt32) &&& (255 : Int32)) <<< ((8 : Int32) &&& 31))) ||| (((p1.toInt8.toInt32).toInt8.toInt32) &&& (255 : Int32))))] [(.int (0 : Int32))])) (fun t k => ?_) ?_
    · show Steps p.tables e below (T3.setTop (mkF m 69 #[.val (.int p1), .val (.ref b1), .val (.ref b3), .val (.int (((((((((p1.toUInt32 >>> ((24 : Int32) &&& 31).toUInt32).toInt32).toInt8.toInt32).toInt8.toInt32) &&& (255 : Int32)) <<< ((24 : Int32) &&& 31)) ||| ((((((p1.toUInt32 >>> ((16 : Int32) &&& 31).toUInt32).toInt32).toInt8.toInt32).toInt8.toInt32) &&& (255 : Int32)) <<< ((16 : Int32) &&& 31))) ||| ((((((p1.toUInt32 >>> ((8 : Int32) &&& 31).toUInt32).toInt32).toInt8.toInt32).toInt8.toInt32) &&& (255 : Int32)) <<< ((8 : Int32) &&& 31))) ||| (((p1.toInt8.toInt32).toInt8.toInt32) &&& (255 : Int32))))] [(.int p1), (.int (((((((((p1.toUInt32 >>> ((24 : Int32) &&& 31).toUInt32).toInt32).toInt8.toInt32).toInt8.toInt32) &&& (255 : Int32)) <<< ((24 : Int32) &&& 31)) ||| ((((((p1.toUInt32 >>> ((16 : Int32) &&& 31).toUInt32).toInt32).toInt8.toInt32).toInt8.toInt32) &&& (255 : Int32)) <<< ((16 : Int32) &&& 31))) ||| ((((((p1.toUInt32 >>> ((8 : Int32) &&& 31).toUInt32).toInt32).toInt8.toInt32).toInt8.toInt32) &&& (255 : Int32)) <<< ((8 : Int32) &&& 31))) ||| (((p1.toInt8.toInt32).toInt8.toInt32) &&& (255 : Int32))))])) t
      refine XS.icmpYes X3.here hx rfl (pc0 := 69) (pc' := 76) rfl (hb hby at_69) rfl (feq hc69_13).2 (by decide) (by decide) ?_
      show Steps p.tables e below (T3.setTop (mkF m 76 #[.val (.int p1), .val (.ref b1), .val (.ref b3), .val (.int (((((((((p1.toUInt32 >>> ((24 : Int32) &&& 31).toUInt32).toInt32).toInt8.toInt32).toInt8.toInt32) &&& (255 : Int32)) <<< ((24 : Int32) &&& 31)) ||| ((((((p1.toUInt32 >>> ((16 : Int32) &&& 31).toUInt32).toInt32).toInt8.toInt32).toInt8.toInt32) &&& (255 : Int32)) <<< ((16 : Int32) &&& 31))) ||| ((((((p1.toUInt32 >>> ((8 : Int32) &&& 31).toUInt32).toInt32).toInt8.toInt32).toInt8.toInt32) &&& (255 : Int32)) <<< ((8 : Int32) &&& 31))) ||| (((p1.toInt8.toInt32).toInt8.toInt32) &&& (255 : Int32))))] [])) t
      refine XS.iconst X3.here hx rfl (hb hby at_76) ?_
      exact k
    exact doneN (t := .boolean) X3 (by simp) hx hret hlk (hb hby at_77) ⟨rfl, N3⟩ (by decide) (by decide)
theorem own_byte (x : Int32) : (((x.toInt8.toInt32).toInt8.toInt32) &&& (255 : Int32)).toInt = x.toInt % 256 := by
  have h1 := c_i2b x
  have h2 := c_i2b (x.toInt8.toInt32)
  have h3 := c_mask ((x.toInt8.toInt32).toInt8.toInt32) 255 8 (by decide) (by decide)
  rw [h3]; omega
theorem own_law (p1 : Int32) : F0_0 p1 = 1 := by
  have r := rng32 p1
  have u1 := c_iushr p1 24 24 (by decide) (by decide)
  have u2 := c_iushr p1 16 16 (by decide) (by decide)
  have u3 := c_iushr p1 8 8 (by decide) (by decide)
  have b1 := own_byte ((p1.toUInt32 >>> ((24 : Int32) &&& 31).toUInt32).toInt32)
  have b2 := own_byte ((p1.toUInt32 >>> ((16 : Int32) &&& 31).toUInt32).toInt32)
  have b3 := own_byte ((p1.toUInt32 >>> ((8 : Int32) &&& 31).toUInt32).toInt32)
  have b4 := own_byte p1
  unfold F0_0
  rw [u1] at b1
  rw [u2] at b2
  rw [u3] at b3
  generalize (((((p1.toUInt32 >>> ((24 : Int32) &&& 31).toUInt32).toInt32).toInt8.toInt32).toInt8.toInt32) &&& (255 : Int32)) = y1 at *
  generalize (((((p1.toUInt32 >>> ((16 : Int32) &&& 31).toUInt32).toInt32).toInt8.toInt32).toInt8.toInt32) &&& (255 : Int32)) = y2 at *
  generalize (((((p1.toUInt32 >>> ((8 : Int32) &&& 31).toUInt32).toInt32).toInt8.toInt32).toInt8.toInt32) &&& (255 : Int32)) = y3 at *
  generalize (((p1.toInt8.toInt32).toInt8.toInt32) &&& (255 : Int32)) = y4 at *
  have s1 := c_ishl y1 24 24 (by decide)
  have s2 := c_ishl y2 16 16 (by decide)
  have s3 := c_ishl y3 8 8 (by decide)
  generalize y1 <<< ((24 : Int32) &&& 31) = z1 at *
  generalize y2 <<< ((16 : Int32) &&& 31) = z2 at *
  generalize y3 <<< ((8 : Int32) &&& 31) = z3 at *
  have e1 := rng32 z1
  have e2 := rng32 z2
  have e3 := rng32 z3
  have o1 := c_or z1 z2 24 (by decide) 16777216 (by decide) (by omega) (by omega) (by omega)
  generalize z1 ||| z2 = t1 at *
  have f1 := rng32 t1
  have o2 := c_or t1 z3 16 (by decide) 65536 (by decide) (by omega) (by omega) (by omega)
  generalize t1 ||| z3 = t2 at *
  have f2 := rng32 t2
  have o3 := c_or t2 y4 8 (by decide) 256 (by decide) (by omega) (by omega) (by omega)
  generalize t2 ||| y4 = t3 at *
  have f3 := rng32 t3
  rw [if_pos]
  rw [← Int32.toInt_inj]; omega
theorem ef_0 (m : MethodId) (p1 : Int32) : entryFrame m #[(.int p1)] maxLocals = mkF m 0 #[.val (.int p1), .unset, .unset, .unset] [] := by first | (simp [entryFrame, mkF, argsToLocals, Value.category, maxLocals]; done) | rfl
theorem pn_0 : plainName "com/example/tetherd/tetherd/core/ipv4/Ipv4AddressOctetsPinLaw" = true := by first | (simp [plainName, overriddenIn]; done) | decide +kernel
set_option maxRecDepth 65536 in
set_option maxHeartbeats 40000000 in
theorem rm0 (l : Launch) (Z : State) (a0 : Array Value) (hw : ∀ d ∈ tables_1, d.before a0 Z = true) (ws : List Jvm.Cond) (p1 : Int32) (h0 : Heap) (n0 : Nat) (Z0 : n0 ≤ h0.size) :
    MetFree l x (head1 (Jvm.Cond.code x code maxLocals ret :: ws) room_1) (fun a U => a = #[(.int p1)] ∧ Z.Warmed39 U.vm ∧ U.heap = h0) (fun _ _ _ _ _ => True) (fun _ U o U' => ∃ v L, o = .returned v ∧ (Ql n0 (.int 1)) v U'.heap L ∧ FrameEnd U o U' L room_1.cells room_1.slots) := by
  refine MetFree.of_bodySF (plainFor_of_name pn_0) hisR ?_
  intro p e s m args below meth c s₁ Bd hml0 hP hK
  obtain ⟨rfl, hZ, hh⟩ := hP
  have hown : s.vm.findClass "com/example/tetherd/tetherd/core/ipv4/Ipv4AddressOctetsPinLaw" = some m.cls := findClass_of_methodNamed Bd.named
  have hnm := (name_of_methodNamed Bd.named Bd.method).1
  have X0 : Stand p l e room_1 s m #[(.int p1)] below meth c s₁ [] 0 0 := Stand.of_body Bd
  have e0 : s₁.heap = h0 := by rw [← hh, Bd.state]; rfl
  have d := bk0_0 (n0 := n0) Bd.exec hZ hw Bd.bytes hml0 hown hnm Bd.returns (BodyLoose.notSynchronized Bd) X0 (Fr.nil n0) e0 p1 Z0
  rw [own_law p1] at d
  have d2 : Done p e below s room_1 (Ql n0 (.int 1)) s₁ (entryFrame m #[(.int p1)] maxLocals) := by rw [ef_0]; exact d
  exact d2
set_option maxRecDepth 65536 in
set_option maxHeartbeats 40000000 in
theorem comes_1 {Post : Tables → Env → Array Value → State → Outcome → State → Prop} (hpost : ∀ tb e args s v u, (limb_1_1.after args s (.returned v) u = true ∧ limb_1_2.after args s (.returned v) u = true ∧ True) → FrameEnd s (.returned v) u (Jvm.fieldLocs frame_1_writes args s ++ Jvm.arrayLocs frame_1_arrays args s ++ Jvm.staticLocs frame_1_statics s) 16 128 → Post tb e args s (.returned v) u) :
    ArmFor flags0 classFile x code maxLocals ret World_1 tables_1 room_1 Calls_1 rest_1 Pre_1 Post := by
  intro l hfl _ _ p e ha hc hk s m args below hf hA hF happ hP
  obtain ⟨hcalls, hrest, hpre⟩ := hP
  obtain ⟨-, -, -, hnamed, -, -, -, hat⟩ := (Spec.applies_iff hf).mp happ
  obtain ⟨hg, hn⟩ := and_e (Cond.before_iff.mp (show (Jvm.Cond.and given_1 narrow_1).before args s = true from hpre))
  obtain ⟨g0, r0⟩ := and_e hg
  obtain ⟨w0, rfl⟩ : ∃ w0 : Value, args = #[w0] := by
    have hs : args.size = 1 := by simpa [Cond.value, given_1] using g0
    obtain ⟨L⟩ := args
    match L, hs with
    | [w0], _ => exact ⟨w0, rfl⟩
  have hw := fun d (hd : d ∈ tables_1) => atoms_spec (ws := Jvm.Cond.code x code maxLocals ret :: tables_1) hat d (List.mem_cons_of_mem _ hd)
  obtain ⟨i0, ei0⟩ := is_v r0
  obtain rfl : w0 = (.int i0) := Option.some.inj ei0
  obtain ⟨n, o, h1, h2, h3, _, L, rfl, ⟨rfl, N⟩, hq⟩ := rm0 l s _ hw tables_1 i0 s.heap s.heap.size (Nat.le_refl _) p e ha hc hk s m _ below hf ((Spec.applies_iff_loose hf).mp happ).1 ⟨rfl, State.Warmed39.refl s, rfl⟩ trivial
  refine ⟨n, _, h1, h2, h3, hpost _ _ _ _ _ _ ⟨Cond.after_iff.mpr rfl, Cond.after_iff.mpr (eq_i res_at (Term.int_eval (1)) rfl), trivial⟩ ⟨hq.1, hq.2.1, (hq.2.2.sift fun y hy => Or.inr (N y hy)).mono (by decide) (by decide)⟩⟩
theorem main_1_1 : Claimed_1_1 := comes_1 fun _ _ _ _ _ _ h hF => ⟨h.1, hF⟩
theorem main_1_2 : Claimed_1_2 := comes_1 fun _ _ _ _ _ _ h hF => ⟨h.2.1, hF⟩
end Jvm.Pilot.@@N@@
namespace Jvm.Pilot.@@N@@
open Jvm Jvm.ClassFile Sem Op Lib Jvm.Free Jvm.Stand Jvm.Pilot.@@N@@.Jvm.D
/-! MADE BY PROGRAM (witnessworld.py) out of the Statement's table words and the real class files: 12 classes; the members and pool entries that the words name. The judged class is class 1, her method 1. -/
namespace start1
open Jvm.ClassFile
def u (s : String) : CpInfo := .utf8 (stringToUtf16 s)
/-- a pool by its gaps: so many unusable entries, then the entry; so many at the end -/
def gap : Nat → List CpInfo → List CpInfo
  | 0, r => r
  | n + 1, r => .unusable :: gap n r
def poolList (es : List (Nat × CpInfo)) (last : Nat) : List CpInfo := es.foldr (fun e r => gap e.1 (e.2 :: r)) (gap last [])
def pool (es : List (Nat × CpInfo)) (last : Nat) : Array CpInfo := ⟨poolList es last⟩
def fileOf (pool : Array CpInfo) (this : Nat) (attrs : Array Attribute := #[]) (ms : Array MethodInfo := #[]) (fl : Nat := 33) (sup : Nat := 0) (ifs : Array Nat := #[]) (fds : Array FieldInfo := #[]) : ClassFile where
  minorVersion := 0
  majorVersion := 65
  constantPool := pool
  accessFlags := fl
  thisClass := this
  superClass := sup
  interfaces := ifs
  fields := fds
  methods := ms
  attributes := attrs
def plain (name : String) (sup : Option ClassId) : Class where
  name := name
  kind := .ordinary
  loader := none
  accessFlags := 33
  super := sup
  interfaces := #[]
  cf := none
  fields := #[]
  methods := #[]
  instanceTypes := #[]
  staticTypes := #[]
  resolved := #[]
  callSites := []
  init := .initialized
  statics := none
  mirror := none

def pool0 : Array CpInfo := pool [(5, u "<init>"), (0, u "()V"), (1, .class_ 10), (1, u "java/lang/Object")] 113

def k0c0 : Code := { maxStack := 0, maxLocals := 1, code := object_method_1_code, exceptionTable := #[], attributes := #[] }
def k0m0 : Method := { name := "<init>", desc := "()V", sig := { parameters := [], returnType := none }, accessFlags := 1, code := some k0c0 }
/-- java/lang/Object -/
def k0 : Class := { plain "java/lang/Object" none with
  accessFlags := 33
  interfaces := #[]
  cf := some (fileOf pool0 8 #[] #[{ accessFlags := 1, nameIndex := 5, descriptorIndex := 6, attributes := #[] }] 33 0 #[] #[])
  fields := #[]
  methods := #[k0m0]
  instanceTypes := #[]
  staticTypes := #[]
  resolved := Array.replicate 124 none
  statics := none }

def pool1 : Array CpInfo := pool [(2, .class_ 4), (1, u "java/lang/Object"), (0, u "<init>"), (0, u "()V"), (0, .class_ 8), (0, u "com/example/tetherd/tetherd/core/ipv4/Ipv4Address"), (0, .methodref 7 10), (0, .nameAndType 5 11), (0, u "(I)V"), (0, .methodref 7 13), (0, .nameAndType 14 15), (0, u "octets"), (0, u "()[B"), (0, .class_ 17), (0, u "com/example/tetherd/tetherd/core/ipv4/Ipv4AddressOctetsPinLaw"), (2, u "law"), (0, u "(I)Z")] 5

def k1m0 : Method := { name := "<init>", desc := "()V", sig := { parameters := [], returnType := none }, accessFlags := 2, code := none }
def k1c1 : Code := { maxStack := 3, maxLocals := 4, code := code, exceptionTable := #[], attributes := #[] }
def k1m1 : Method := { name := "law", desc := "(I)Z", sig := { parameters := [.int], returnType := some .boolean }, accessFlags := 9, code := some k1c1 }
/-- com/example/tetherd/tetherd/core/ipv4/Ipv4AddressOctetsPinLaw -/
def k1 : Class := { plain "com/example/tetherd/tetherd/core/ipv4/Ipv4AddressOctetsPinLaw" (some 0) with
  accessFlags := 49
  interfaces := #[]
  cf := some (fileOf pool1 16 #[] #[{ accessFlags := 2, nameIndex := 5, descriptorIndex := 6, attributes := #[] }, { accessFlags := 9, nameIndex := 20, descriptorIndex := 21, attributes := #[] }] 49 2 #[] #[])
  fields := #[]
  methods := #[k1m0, k1m1]
  instanceTypes := #[]
  staticTypes := #[]
  resolved := Array.replicate 27 none
  statics := none }

def pool2 : Array CpInfo := pool [(1, .methodref 2 3), (0, .class_ 4), (0, .nameAndType 5 6), (0, u "java/lang/Object"), (0, u "<init>"), (0, u "()V"), (0, .class_ 8), (0, u "java/lang/Record")] 13

def k2c0 : Code := { maxStack := 1, maxLocals := 1, code := jdk_30_method_1_code, exceptionTable := #[], attributes := #[] }
def k2m0 : Method := { name := "<init>", desc := "()V", sig := { parameters := [], returnType := none }, accessFlags := 4, code := some k2c0 }
/-- java/lang/Record -/
def k2 : Class := { plain "java/lang/Record" (some 0) with
  accessFlags := 1057
  interfaces := #[]
  cf := some (fileOf pool2 7 #[] #[{ accessFlags := 4, nameIndex := 5, descriptorIndex := 6, attributes := #[] }] 1057 2 #[] #[])
  fields := #[]
  methods := #[k2m0]
  instanceTypes := #[]
  staticTypes := #[]
  resolved := Array.replicate 22 none
  statics := none }

def pool3 : Array CpInfo := pool [(1, .class_ 2), (0, u "com/example/tetherd/tetherd/core/ip/IpAddress"), (0, .class_ 4), (0, u "java/lang/Object")] 4

/-- com/example/tetherd/tetherd/core/ip/IpAddress -/
def k3 : Class := { plain "com/example/tetherd/tetherd/core/ip/IpAddress" (some 0) with
  accessFlags := 1537
  interfaces := #[]
  cf := some (fileOf pool3 1 #[] #[] 1537 3 #[] #[])
  fields := #[]
  methods := #[]
  instanceTypes := #[]
  staticTypes := #[]
  resolved := Array.replicate 9 none
  statics := none }

def pool4 : Array CpInfo := pool [(1, .class_ 2), (0, u "java/lang/Comparable"), (0, .class_ 4), (0, u "java/lang/Object")] 7

/-- java/lang/Comparable -/
def k4 : Class := { plain "java/lang/Comparable" (some 0) with
  accessFlags := 1537
  interfaces := #[]
  cf := some (fileOf pool4 1 #[] #[] 1537 3 #[] #[])
  fields := #[]
  methods := #[]
  instanceTypes := #[]
  staticTypes := #[]
  resolved := Array.replicate 12 none
  statics := none }

def pool5 : Array CpInfo := pool [(1, .methodref 2 3), (0, .class_ 4), (0, .nameAndType 5 6), (0, u "java/lang/Record"), (0, u "<init>"), (0, u "()V"), (0, .fieldref 8 9), (0, .class_ 10), (0, .nameAndType 11 12), (0, u "com/example/tetherd/tetherd/core/ipv4/Ipv4Address"), (0, u "bits"), (0, u "I"), (2, u "DOTTED_QUAD"), (0, u "Ljava/util/regex/Pattern;"), (30, u "(I)V"), (29, .class_ 78), (0, u "com/example/tetherd/tetherd/core/ip/IpAddress"), (0, .class_ 80), (0, u "java/lang/Comparable"), (8, u "octets"), (0, u "()[B")] 34

def k5c0 : Code := { maxStack := 2, maxLocals := 2, code := prog_17_method_1_code, exceptionTable := #[], attributes := #[] }
def k5m0 : Method := { name := "<init>", desc := "(I)V", sig := { parameters := [.int], returnType := none }, accessFlags := 1, code := some k5c0 }
def k5c1 : Code := { maxStack := 5, maxLocals := 1, code := prog_17_method_3_code, exceptionTable := #[], attributes := #[] }
def k5m1 : Method := { name := "octets", desc := "()[B", sig := { parameters := [], returnType := some (.array .byte) }, accessFlags := 1, code := some k5c1 }
/-- com/example/tetherd/tetherd/core/ipv4/Ipv4Address -/
def k5 : Class := { plain "com/example/tetherd/tetherd/core/ipv4/Ipv4Address" (some 2) with
  accessFlags := 49
  interfaces := #[3, 4]
  cf := some (fileOf pool5 8 #[] #[{ accessFlags := 1, nameIndex := 5, descriptorIndex := 47, attributes := #[] }, { accessFlags := 1, nameIndex := 89, descriptorIndex := 90, attributes := #[] }] 49 2 #[77, 79] #[{ accessFlags := 18, nameIndex := 11, descriptorIndex := 12, attributes := #[] }, { accessFlags := 26, nameIndex := 15, descriptorIndex := 16, attributes := #[] }])
  fields := #[{ name := "bits", type := .int, accessFlags := 18, slot := 0, constantValue := 0 }, { name := "DOTTED_QUAD", type := (.object "java/util/regex/Pattern"), accessFlags := 26, slot := 0, constantValue := 0 }]
  methods := #[k5m0, k5m1]
  instanceTypes := #[.int]
  staticTypes := #[(.object "java/util/regex/Pattern")]
  resolved := Array.replicate 125 none
  statics := none }

def pool6 : Array CpInfo := pool [(1, u "java/lang/Cloneable"), (0, .class_ 1), (0, u "java/lang/Object"), (0, .class_ 3)] 3

/-- java/lang/Cloneable -/
def k6 : Class := { plain "java/lang/Cloneable" (some 0) with
  accessFlags := 1537
  interfaces := #[]
  cf := some (fileOf pool6 2 #[] #[] 1537 4 #[] #[])
  fields := #[]
  methods := #[]
  instanceTypes := #[]
  staticTypes := #[]
  resolved := Array.replicate 8 none
  statics := none }

def pool7 : Array CpInfo := pool [(1, u "java/io/Serializable"), (0, .class_ 1), (0, u "java/lang/Object"), (0, .class_ 3)] 3

/-- java/io/Serializable -/
def k7 : Class := { plain "java/io/Serializable" (some 0) with
  accessFlags := 1537
  interfaces := #[]
  cf := some (fileOf pool7 2 #[] #[] 1537 4 #[] #[])
  fields := #[]
  methods := #[]
  instanceTypes := #[]
  staticTypes := #[]
  resolved := Array.replicate 8 none
  statics := none }

/-- the primitive byte -/
def k8 : Class := { plain "byte" none with kind := .primitive 'B', accessFlags := 0x411 }
/-- [B -/
def k9 : Class := { plain "[B" (some 0) with kind := .array 8 .byte, interfaces := #[6, 7], accessFlags := 1041 }

/-- the primitive int -/
def k10 : Class := { plain "int" none with kind := .primitive 'I', accessFlags := 0x411 }
/-- [I -/
def k11 : Class := { plain "[I" (some 0) with kind := .array 10 .int, interfaces := #[6, 7], accessFlags := 1041 }

def heap : Heap := #[]
def classes : Array Class := #[k0, k1, k2, k3, k4, k5, k6, k7, k8, k9, k10, k11]
def interned : List (Array UInt16 × Addr) := []
def slotsUsed : Nat := 0
def theMethod : MethodId := ⟨1, 1⟩
def args0 : Array Value := #[.int 5]
def aboutOver (below : List Frame) : State where
  vm := { classes := classes, interned := interned.toArray }
  heap := heap
  slotsUsed := slotsUsed
  threads := #[{ frames := .invoking theMethod args0 :: below }]
def below0 : List Frame := [.native { method := ⟨0, 0⟩, args := #[] }]
def about1 : State := aboutOver below0
def p0 : Program := .bare "" "" ""
def e0 : Env := launch0.env 0 0 0
theorem w_frames : about1.frames = Frame.invoking theMethod args0 :: below0 := rfl
set_option maxRecDepth 65536 in
theorem w_args : argsFit about1.vm theMethod args0 = true := by decide +kernel
set_option maxRecDepth 65536 in
theorem w_heap : heapFits about1 = true := by decide +kernel
set_option maxRecDepth 65536 in
theorem w_runnable : about1.curStatus? = some .runnable := by decide +kernel
set_option maxRecDepth 65536 in
theorem w_alone : about1.alone = true := by decide +kernel
set_option maxRecDepth 65536 in
theorem w_named : about1.methodNamed? x = some theMethod := by decide +kernel
set_option maxRecDepth 65536 in
theorem w_hears : about1.hears theMethod below0 = true := by decide +kernel
set_option maxRecDepth 65536 in
theorem w_ripe : about1.ripe theMethod args0 below0 = true := by decide +kernel
theorem w_running : about1.status = .running := rfl
set_option maxRecDepth 65536 in
theorem w_room : about1.hasRoom e0.platform room_1 = true :=
  launch0.hasRoom_least _ room_1 (by decide +kernel) (by decide +kernel) (by decide +kernel) (by decide +kernel) (by decide +kernel) (by decide +kernel)
theorem allAtoms_all (ts : List Jvm.Cond) (a : Array Jvm.Value) (st : Jvm.State) : (allAtoms ts).before a st = ts.all (fun c => c.before a st) := by
  induction ts with
  | nil => rfl
  | cons c t ih =>
    show (Jvm.Cond.and c (allAtoms t)).before a st = _
    rw [Jvm.Cond.before_and, ih, List.all_cons]
def words1 : List Jvm.Cond := Jvm.Cond.code x code maxLocals ret :: tables_1
/-- a 'code' word, met by the world's own term for the bytes: nothing is compared byte by byte -/
theorem code_word {y : MethodName} {bytes : ByteArray} {mx : Nat} {rt : Option FieldType} {a : Array Value} {s : State} {m : MethodId} {meth : Method} {c : Code} (h1 : s.methodNamed? y = some m) (h2 : s.vm.method? m = some meth) (h3 : meth.code = some c) (h4 : c.code = bytes)
    (h5 : (c.maxLocals == mx && c.exceptionTable.isEmpty && decide (c.maxStack ≤ mostOperands) && decide (meth.sig.returnType = rt) && !meth.locks && decide (parseMethodDescriptor y.desc = some meth.sig)) = true) : (Jvm.Cond.code y bytes mx rt).before a s = true := by
  simp only [Bool.and_eq_true, beq_iff_eq, Bool.not_eq_true', decide_eq_true_eq] at h5
  obtain ⟨⟨⟨⟨⟨g1, g2⟩, g3⟩, g4⟩, g5⟩, g6⟩ := h5
  simp [Cond.before, Cond.holds, Cond.value, h1, h2, h3, h4, g1, g2, g3, g4, g5, g6]
def isCode : Jvm.Cond → Bool
  | .code _ _ _ _ => true
  | _ => false
theorem all_split {L : List Jvm.Cond} {P : Jvm.Cond → Bool} (h1 : L.all (fun c => isCode c || P c) = true) (h2 : ∀ c ∈ L.filter isCode, P c = true) : L.all P = true := by
  refine List.all_eq_true.mpr fun c hc => ?_
  have h := List.all_eq_true.mp h1 c hc
  rcases Bool.eq_false_or_eq_true (isCode c) with hi | hi
  · exact h2 c (List.mem_filter.mpr ⟨hc, hi⟩)
  · simpa [hi] using h
set_option maxRecDepth 65536 in
theorem w_c0 : (Jvm.Cond.code x code maxLocals ret).before args0 about1 = true := code_word (m := ⟨1, 1⟩) (meth := k1m1) (c := k1c1) (by decide +kernel) rfl rfl rfl (by decide +kernel)
set_option maxRecDepth 65536 in
theorem w_c1 : (Jvm.Cond.code ({ cls := "com/example/tetherd/tetherd/core/ipv4/Ipv4Address", name := "<init>", desc := "(I)V" } : Jvm.MethodName) prog_17_method_1_code (2 : Nat) (Option.none : Option Jvm.ClassFile.FieldType)).before args0 about1 = true := code_word (m := ⟨5, 0⟩) (meth := k5m0) (c := k5c0) (by decide +kernel) rfl rfl rfl (by decide +kernel)
set_option maxRecDepth 65536 in
theorem w_c2 : (Jvm.Cond.code ({ cls := "java/lang/Record", name := "<init>", desc := "()V" } : Jvm.MethodName) jdk_30_method_1_code (1 : Nat) (Option.none : Option Jvm.ClassFile.FieldType)).before args0 about1 = true := code_word (m := ⟨2, 0⟩) (meth := k2m0) (c := k2c0) (by decide +kernel) rfl rfl rfl (by decide +kernel)
set_option maxRecDepth 65536 in
theorem w_c3 : (Jvm.Cond.code ({ cls := "java/lang/Object", name := "<init>", desc := "()V" } : Jvm.MethodName) object_method_1_code (1 : Nat) (Option.none : Option Jvm.ClassFile.FieldType)).before args0 about1 = true := code_word (m := ⟨0, 0⟩) (meth := k0m0) (c := k0c0) (by decide +kernel) rfl rfl rfl (by decide +kernel)
set_option maxRecDepth 65536 in
theorem w_c4 : (Jvm.Cond.code ({ cls := "com/example/tetherd/tetherd/core/ipv4/Ipv4Address", name := "octets", desc := "()[B" } : Jvm.MethodName) prog_17_method_3_code (1 : Nat) (Option.some (Jvm.ClassFile.FieldType.array Jvm.ClassFile.FieldType.byte))).before args0 about1 = true := code_word (m := ⟨5, 1⟩) (meth := k5m1) (c := k5c1) (by decide +kernel) rfl rfl rfl (by decide +kernel)
def codes1 : List Jvm.Cond := [Jvm.Cond.code x code maxLocals ret, Jvm.Cond.code ({ cls := "com/example/tetherd/tetherd/core/ipv4/Ipv4Address", name := "<init>", desc := "(I)V" } : Jvm.MethodName) prog_17_method_1_code (2 : Nat) (Option.none : Option Jvm.ClassFile.FieldType), Jvm.Cond.code ({ cls := "java/lang/Record", name := "<init>", desc := "()V" } : Jvm.MethodName) jdk_30_method_1_code (1 : Nat) (Option.none : Option Jvm.ClassFile.FieldType), Jvm.Cond.code ({ cls := "java/lang/Object", name := "<init>", desc := "()V" } : Jvm.MethodName) object_method_1_code (1 : Nat) (Option.none : Option Jvm.ClassFile.FieldType), Jvm.Cond.code ({ cls := "com/example/tetherd/tetherd/core/ipv4/Ipv4Address", name := "octets", desc := "()[B" } : Jvm.MethodName) prog_17_method_3_code (1 : Nat) (Option.some (Jvm.ClassFile.FieldType.array Jvm.ClassFile.FieldType.byte))]
set_option maxRecDepth 65536 in
theorem codes_eq : words1.filter isCode = codes1 := rfl
theorem w_codes : ∀ c ∈ words1.filter isCode, c.before args0 about1 = true := by
  rw [codes_eq]
  intro c hc
  simp only [codes1, List.mem_cons, List.not_mem_nil, or_false] at hc
  rcases hc with rfl | rfl | rfl | rfl | rfl
  · exact w_c0
  · exact w_c1
  · exact w_c2
  · exact w_c3
  · exact w_c4
set_option maxRecDepth 65536 in
theorem w_t1 : words1.all (fun c => isCode c || c.before args0 about1) = true := by decide +kernel
theorem w_tables : (allAtoms (Jvm.Cond.code x code maxLocals ret :: tables_1)).before args0 about1 = true := by
  rw [allAtoms_all]
  show words1.all (fun c => c.before args0 about1) = true
  refine all_split ?_ w_codes
  rw [w_t1]
set_option maxRecDepth 65536 in
theorem w_case : (Jvm.Cond.and given_1 narrow_1).before args0 about1 = true := by decide +kernel
theorem w_applies : (headSpec (Jvm.Cond.code x code maxLocals ret :: tables_1) room_1).applies x e0.platform about1 = true :=
  (Spec.applies_iff w_frames).mpr ⟨w_running, w_runnable, w_alone, w_named, w_hears, w_ripe, w_room, w_tables⟩
theorem atStart : AtStart classFile x code maxLocals ret World_1 tables_1 room_1 Calls_1 rest_1 Pre_1 launch0 p0 e0 about1 theMethod args0 below0 :=
  ⟨lists_1, trivial, launch0.admits_env _ _ _, launch0.least_env, fairChoices_fair.cas, fairChoices_fair.clock, w_frames, w_args, w_heap, w_applies, trivial, trivial, w_case⟩
end start1
theorem witness_1 : WitnessClaimed_1 := ⟨start1.p0, start1.e0, start1.about1, start1.theMethod, start1.args0, start1.below0, start1.atStart⟩
end Jvm.Pilot.@@N@@
