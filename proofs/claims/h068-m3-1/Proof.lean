import JvmDerived
import JvmDerived.Pilot.@@N@@Statement
import JvmDerived.Pilot.@@N@@Code
set_option linter.unusedVariables false
set_option linter.unusedSimpArgs false
namespace Jvm.RoadKit
open Sem ClassFile Op Lib Jvm.Stand Jvm.Free Jvm.LawKit
section New
variable {p : Program} {l : Launch} {e : Env} {R : Room} {s : State} {m : MethodId} {args : Array Value} {below : List Frame} {meth : Method} {c : Code} {T : State} {locs : List Loc} {cells slots : Nat}
theorem retI (X : Stand p l e R s m args below meth c T locs cells slots) (hx : p.tables.exec = Jvm.exec) {pc : Nat} {Ls : Array Slot} {z : Int32} {rest : List Value} (hret : meth.sig.returnType = some .int) (hd : decode c.code pc = .ok (.ireturn, 1)) {fs : List Frame}
    (hl : ∀ (f : JFrame) (acts : List Action), f.method = m → f.locked = none → f.entered = [] → (doReturn e (T.setTop f) acts (some (.int z))).1 = T.setFrames fs) : Steps p.tables e below (T.setTop (mkF m pc Ls (.int z :: rest))) (T.setFrames fs) := by
  have hm' : T.vm.method? m = some meth := X.method'
  have hn : narrow .int (.int z) = .int z := rfl
  show Steps p.tables e below (T.setTop { method := m, pc := pc, locals := Ls, stack := _ :: rest, locked := none }) _
  jvm_step X.here [X.here.top, hx, hd, hm', hret, hn]
  first | (intro acts; rw [hl _ acts rfl rfl rfl]) | rw [hl _ _ rfl rfl rfl]
  exact Steps.refl _
theorem retA (X : Stand p l e R s m args below meth c T locs cells slots) (hx : p.tables.exec = Jvm.exec) {pc : Nat} {Ls : Array Slot} {z : Addr} {rest : List Value} {t : FieldType} (hret : meth.sig.returnType = some t) (ht : t.isReference = true) (hd : decode c.code pc = .ok (.areturn, 1)) {fs : List Frame}
    (hl : ∀ (f : JFrame) (acts : List Action), f.method = m → f.locked = none → f.entered = [] → (doReturn e (T.setTop f) acts (some (.ref z))).1 = T.setFrames fs) : Steps p.tables e below (T.setTop (mkF m pc Ls (.ref z :: rest))) (T.setFrames fs) := by
  have hm' : T.vm.method? m = some meth := X.method'
  show Steps p.tables e below (T.setTop { method := m, pc := pc, locals := Ls, stack := _ :: rest, locked := none }) _
  jvm_step X.here [X.here.top, hx, hd, hm', hret, ht, Value.isRef]
  first | (intro acts; rw [hl _ acts rfl rfl rfl]) | rw [hl _ _ rfl rfl rfl]
  exact Steps.refl _
theorem retJ (X : Stand p l e R s m args below meth c T locs cells slots) (hx : p.tables.exec = Jvm.exec) {pc : Nat} {Ls : Array Slot} {z : Int64} {rest : List Value} (hret : meth.sig.returnType = some .long) (hd : decode c.code pc = .ok (.lreturn, 1)) {fs : List Frame}
    (hl : ∀ (f : JFrame) (acts : List Action), f.method = m → f.locked = none → f.entered = [] → (doReturn e (T.setTop f) acts (some (.long z))).1 = T.setFrames fs) : Steps p.tables e below (T.setTop (mkF m pc Ls (.long z :: rest))) (T.setFrames fs) := by
  have hm' : T.vm.method? m = some meth := X.method'
  show Steps p.tables e below (T.setTop { method := m, pc := pc, locals := Ls, stack := _ :: rest, locked := none }) _
  jvm_step X.here [X.here.top, hx, hd, hm', hret]
  first | (intro acts; rw [hl _ acts rfl rfl rfl]) | rw [hl _ _ rfl rfl rfl]
  exact Steps.refl _
end New
end Jvm.RoadKit
namespace Jvm.Pilot.@@N@@
open Jvm Jvm.ClassFile Sem Op Lib Jvm.Free Jvm.Stand Jvm.LawKit Jvm.RoadKit Bundle Jvm.Pilot.@@N@@.Jvm.D
/-! My own frame of a walk: 'Done' says: from this frame the run ends, and Q holds of what came back, of the heap, and of the places written. -/
def Done (p : Program) (e : Env) (below : List Frame) (s : State) (R : Room) (Q : Option Value → Heap → List Loc → Prop) (T : State) (g : JFrame) : Prop :=
  ∃ s₂ o, Steps p.tables e below (T.setTop g) s₂ ∧ s₂.status = .running ∧ Ended s₂ below o ∧ ∃ v L, o = .returned v ∧ Q v s₂.heap L ∧ FrameEnd s o s₂ L R.cells R.slots
def Qp (h0 : Heap) (n0 : Nat) (z : Value) (v : Option Value) (h : Heap) (L : List Loc) : Prop := v = some z ∧ Fr n0 L ∧ h = h0
def Qv (h0 : Heap) (n0 : Nat) (v : Option Value) (h : Heap) (L : List Loc) : Prop := v = none ∧ Fr n0 L ∧ h = h0
def Ql (n0 : Nat) (z : Value) (v : Option Value) (h : Heap) (L : List Loc) : Prop := v = some z ∧ Fr n0 L
theorem Done.of {p : Program} {e : Env} {below : List Frame} {s : State} {R : Room} {Q : Option Value → Heap → List Loc → Prop} {T T' : State} {g g' : JFrame}
    (st : ∀ t, Steps p.tables e below (T'.setTop g') t → Steps p.tables e below (T.setTop g) t) (d : Done p e below s R Q T' g') : Done p e below s R Q T g := by
  obtain ⟨s₂, o, h1, h2⟩ := d
  exact ⟨s₂, o, st _ h1, h2⟩
section Ends
variable {p : Program} {l : Launch} {e : Env} {R : Room} {s : State} {m : MethodId} {args : Array Value} {below : List Frame} {meth : Method} {c : Code} {T : State} {locs : List Loc} {cells slots : Nat} {Q : Option Value → Heap → List Loc → Prop}
theorem doneI (X : Stand p l e R s m args below meth c T locs cells slots) (hx : p.tables.exec = Jvm.exec) {pc : Nat} {Ls : Array Slot} {z : Int32} {rest : List Value} (hret : meth.sig.returnType = some .int) (hlk : meth.locks = false) (hd : decode c.code pc = .ok (.ireturn, 1))
    (hQ : Q (some (.int z)) T.heap locs) (hc : cells ≤ R.cells) (hs : slots ≤ R.slots) : Done p e below s R Q T (mkF m pc Ls (.int z :: rest)) := by
  obtain ⟨fs, hr, hrun, hended, hW, hsame⟩ := X.leave (v := some (.int z)) (fun h => by rw [hret] at h; cases h) hlk
  exact ⟨_, _, retI X hx hret hd hr, hrun, hended, _, _, rfl, hQ, ⟨_, rfl⟩, hW, hsame.mono hc hs⟩
theorem doneN (t : FieldType) (X : Stand p l e R s m args below meth c T locs cells slots) (ht : t = .boolean ∨ t = .byte ∨ t = .char ∨ t = .short) (hx : p.tables.exec = Jvm.exec) {pc : Nat} {Ls : Array Slot} {z : Int32} {rest : List Value} (hret : meth.sig.returnType = some t) (hlk : meth.locks = false) (hd : decode c.code pc = .ok (.ireturn, 1))
    (hQ : Q (some (.int (nar t z))) T.heap locs) (hc : cells ≤ R.cells) (hs : slots ≤ R.slots) : Done p e below s R Q T (mkF m pc Ls (.int z :: rest)) := by
  obtain ⟨fs, hr, hrun, hended, hW, hsame⟩ := X.leave (v := some (.int (nar t z))) (fun h => by rw [hret] at h; cases h) hlk
  exact ⟨_, _, retN X hx hret ht hd hr, hrun, hended, _, _, rfl, hQ, ⟨_, rfl⟩, hW, hsame.mono hc hs⟩
theorem doneJ (X : Stand p l e R s m args below meth c T locs cells slots) (hx : p.tables.exec = Jvm.exec) {pc : Nat} {Ls : Array Slot} {z : Int64} {rest : List Value} (hret : meth.sig.returnType = some .long) (hlk : meth.locks = false) (hd : decode c.code pc = .ok (.lreturn, 1))
    (hQ : Q (some (.long z)) T.heap locs) (hc : cells ≤ R.cells) (hs : slots ≤ R.slots) : Done p e below s R Q T (mkF m pc Ls (.long z :: rest)) := by
  obtain ⟨fs, hr, hrun, hended, hW, hsame⟩ := X.leave (v := some (.long z)) (fun h => by rw [hret] at h; cases h) hlk
  exact ⟨_, _, retJ X hx hret hd hr, hrun, hended, _, _, rfl, hQ, ⟨_, rfl⟩, hW, hsame.mono hc hs⟩
theorem doneA (X : Stand p l e R s m args below meth c T locs cells slots) (hx : p.tables.exec = Jvm.exec) {pc : Nat} {Ls : Array Slot} {z : Addr} {rest : List Value} {t : FieldType} (hret : meth.sig.returnType = some t) (ht : t.isReference = true) (hlk : meth.locks = false) (hd : decode c.code pc = .ok (.areturn, 1))
    (hQ : Q (some (.ref z)) T.heap locs) (hc : cells ≤ R.cells) (hs : slots ≤ R.slots) : Done p e below s R Q T (mkF m pc Ls (.ref z :: rest)) := by
  obtain ⟨fs, hr, hrun, hended, hW, hsame⟩ := X.leave (v := some (.ref z)) (fun h => by rw [hret] at h; cases h) hlk
  exact ⟨_, _, retA X hx hret ht hd hr, hrun, hended, _, _, rfl, hQ, ⟨_, rfl⟩, hW, hsame.mono hc hs⟩
theorem doneV (X : Stand p l e R s m args below meth c T locs cells slots) (hx : p.tables.exec = Jvm.exec) {pc : Nat} {Ls : Array Slot} (hret : meth.sig.returnType = none) (hlk : meth.locks = false) (hd : decode c.code pc = .ok (.return_, 1))
    (hQ : Q none T.heap locs) (hc : cells ≤ R.cells) (hs : slots ≤ R.slots) : Done p e below s R Q T (mkF m pc Ls []) := by
  obtain ⟨fs, hr, hrun, hended, hW, hsame⟩ := X.leave (v := none) (fun _ => rfl) hlk
  exact ⟨_, _, X.returnOut hx hret hd hr, hrun, hended, _, _, rfl, hQ, ⟨_, rfl⟩, hW, hsame.mono hc hs⟩
end Ends
theorem lcLt_t {x y : Int64} (h : x < y) : ifCond.holds .lt (lcmpW x y) = true ∧ ifCond.holds .ge (lcmpW x y) = false := ⟨(if0 _ _).trans (tlt ((lw_lt x y).mpr h)).1, (if0 _ _).trans (tlt ((lw_lt x y).mpr h)).2.1⟩
theorem lcLt_f {x y : Int64} (h : ¬ x < y) : ifCond.holds .lt (lcmpW x y) = false ∧ ifCond.holds .ge (lcmpW x y) = true := ⟨(if0 _ _).trans (flt (fun q => h ((lw_lt x y).mp q))).1, (if0 _ _).trans (flt (fun q => h ((lw_lt x y).mp q))).2.1⟩
theorem lcGt_t {x y : Int64} (h : y < x) : ifCond.holds .gt (lcmpW x y) = true ∧ ifCond.holds .le (lcmpW x y) = false := ⟨(if0 _ _).trans (tlt ((lw_gt x y).mpr h)).2.2.1, (if0 _ _).trans (tlt ((lw_gt x y).mpr h)).2.2.2⟩
theorem lcGt_f {x y : Int64} (h : ¬ y < x) : ifCond.holds .gt (lcmpW x y) = false ∧ ifCond.holds .le (lcmpW x y) = true := ⟨(if0 _ _).trans (flt (fun q => h ((lw_gt x y).mp q))).2.2.1, (if0 _ _).trans (flt (fun q => h ((lw_gt x y).mp q))).2.2.2⟩
theorem lcEq_t {x y : Int64} (h : x = y) : ifCond.holds .eq (lcmpW x y) = true ∧ ifCond.holds .ne (lcmpW x y) = false := ⟨(if0 _ _).trans (teq ((lw_eq x y).mpr h)).1, (if0 _ _).trans (teq ((lw_eq x y).mpr h)).2⟩
theorem lcEq_f {x y : Int64} (h : ¬ x = y) : ifCond.holds .eq (lcmpW x y) = false ∧ ifCond.holds .ne (lcmpW x y) = true := ⟨(if0 _ _).trans (feq (fun q => h ((lw_eq x y).mp q))).1, (if0 _ _).trans (feq (fun q => h ((lw_eq x y).mp q))).2⟩
theorem own_selP {s : State} {args : Array Value} {y : MethodName} {n : Nat} (hins : (Cond.instantiable y.cls n).before args s = true) (hpriv : (Cond.privateMethod y).before args s = true) (hinst : (Cond.instanceMethod y).before args s = true) (hy : y.cls ≠ "java/lang/invoke/MethodHandle" ∧ y.cls ≠ "java/lang/invoke/VarHandle") :
    (Cond.selects y.cls y y).before args s = true := by
  obtain ⟨c, k, hc, hk, -, hniab, -, -⟩ := Cond.instantiable_spec hins
  exact selects_self_of_private hc hk (Bool.or_eq_false_iff.mp hniab).1 (Cond.privateMethod_at hpriv) hinst hy
theorem own_hat {c : Cell} {vs : List Int32} {j : Int32} (H : Has c (vs.map Value.int) (.int (0 : Int32))) (hin : ¬ (j < 0 ∨ c.slots.size ≤ j.toNatClampNeg)) : c.slots[j.toNatClampNeg]? = some (.int (vs.getD j.toNatClampNeg 0)) := by
  rw [H j.toNatClampNeg (Nat.lt_of_not_le fun q => hin (Or.inr q))]
  simp only [List.getD_eq_getElem?_getD, List.getElem?_map]
  cases vs[j.toNatClampNeg]? <;> rfl
theorem own_fin {n : Nat} (c : Int32) (h0 : 0 ≤ c.toInt) (h1 : c.toInt < n) : ∃ i : Fin n, c = Int32.ofInt (i.1 : Int) :=
  ⟨⟨c.toInt.toNat, by omega⟩, by show c = Int32.ofInt ((c.toInt.toNat : Nat) : Int); rw [Int.toNat_of_nonneg h0]; exact (Int32.ofInt_toInt c).symm⟩
theorem own_set (N i : Nat) (f : Nat → Int32) (v : Int32) : ((List.range N).map fun j => Value.int (f j)).set i (.int v) = (List.range N).map fun j => Value.int (if j = i then v else f j) := by
  apply List.ext_getElem
  · simp
  · intro k h1 h2
    rw [List.getElem_set]
    simp only [List.getElem_map, List.getElem_range]
    by_cases q : i = k
    · rw [if_pos q, if_pos q.symm]
    · rw [if_neg q, if_neg (Ne.symm q)]
theorem own_setA {Z : State} {h : Heap} {a : Addr} {k : ClassId} {ty : FieldType} {z : Int32} {N i : Nat} {f : Nat → Int32} {v : Int32} {dv : Value} (A : Arv Z h a k ty z (((List.range N).map fun j => Value.int (f j)).set i (.int v)) dv) :
    Arv Z h a k ty z ((List.range N).map fun j => Value.int (if j = i then v else f j)) dv := by rw [← own_set]; exact A
theorem own_hatF {c : Cell} {N : Nat} {f : Nat → Int32} {j : Int32} {d : Value} (H : Has c ((List.range N).map fun j => Value.int (f j)) d) (hN : c.slots.size = N) (hin : ¬ (j < 0 ∨ c.slots.size ≤ j.toNatClampNeg)) : c.slots[j.toNatClampNeg]? = some (.int (f j.toNatClampNeg)) := by
  have hl : j.toNatClampNeg < c.slots.size := Nat.lt_of_not_le fun q => hin (Or.inr q)
  rw [H j.toNatClampNeg hl, List.getD_eq_getElem?_getD, List.getElem?_map, List.getElem?_range (by omega)]
  rfl
theorem own_sz {c : Cell} {z : Int32} {N : Nat} (S : c.slots.size = z.toNatClampNeg) (h : z.toNatClampNeg = N := by decide) : c.slots.size = N := S.trans h
theorem own_len {c : Cell} {z j : Int32} {N : Nat} {f : Nat → Int32} (S : c.slots.size = z.toNatClampNeg) (hin : ¬ (j < 0 ∨ c.slots.size ≤ j.toNatClampNeg)) (h : z.toNatClampNeg = N := by decide) : j.toNatClampNeg < ((List.range N).map fun j => Value.int (f j)).length := by
  have : j.toNatClampNeg < c.slots.size := Nat.lt_of_not_le fun q => hin (Or.inr q)
  rw [List.length_map, List.length_range]; omega
theorem d2_0 : decode jdk_30_method_1_code 0 = .ok (.aload_n 0, 1) := by decide +kernel
theorem d2_1 : decode jdk_30_method_1_code 1 = .ok (.invokespecial 1, 3) := by decide +kernel
theorem d2_4 : decode jdk_30_method_1_code 4 = .ok (.return_, 1) := by decide +kernel
set_option maxRecDepth 65536 in
set_option maxHeartbeats 40000000 in
theorem bk2_0 {p : Program} {l : Launch} {e : Env} {s : State} {m : MethodId} {args : Array Value} {below : List Frame} {meth : Method} {c : Code} {T0 : State} {locs : List Loc} {Z : State} {a0 : Array Value} {h0 : Heap} {n0 : Nat}
    (hx : p.tables.exec = Jvm.exec) (hZ : Z.Warmed39 s.vm) (hw : ∀ d ∈ tables_1, d.before a0 Z = true) (hby : c.code = jdk_30_method_1_code) (hml : c.maxLocals = 1) (hown : s.vm.findClass "java/lang/Record" = some m.cls) (hnm : meth.name = "<init>") (hret : meth.sig.returnType = none) (hlk : meth.locks = false)
    (X0 : Stand p l e ({ frames := 1, cells := 0, slots := 0, locals := 12 } : Room) s m args below meth c T0 locs 0 0) (N0 : Fr n0 locs) (e0 : T0.heap = h0) (a1 : Addr) :
    Done p e below s ({ frames := 1, cells := 0, slots := 0, locals := 12 } : Room) (Qv h0 n0) T0 (mkF m 0 #[.val (.ref a1)] []) := by
  refine Done.of (T' := T0) (g' := (mkF m 1 #[.val (.ref a1)] [(.ref a1)])) (fun t k => ?_) ?_
  · show Steps p.tables e below (T0.setTop (mkF m 0 #[.val (.ref a1)] [])) t
    refine XS.aloadN X0.here hx rfl (hb hby d2_0) rfl rfl ?_
    exact k
  obtain ⟨T1, X1, e1, st1⟩ := initO X0 hx hZ hown (hw _ (List.mem_of_getElem? (i := 11) rfl)) (hw _ (List.mem_of_getElem? (i := 12) rfl)) (hw _ (List.mem_of_getElem? (i := 13) rfl)) e0 (g := (mkF m 1 #[.val (.ref a1)] [(.ref a1)])) rfl (by rw [hml]; rfl) rfl (hb hby d2_1) (by decide) (W := 0) (by show 2 * 0 + _ ≤ _; exact Nat.le_of_eq rfl) (by decide)
  refine Done.of (g' := (mkF m 4 #[.val (.ref a1)] [])) st1 ?_
  exact doneV X1 hx hret hlk (hb hby d2_4) ⟨rfl, N0, e1⟩ (by decide) (by decide)
theorem ef_2 (m : MethodId) (a1 : Addr) : entryFrame m #[(.ref a1)] 1 = mkF m 0 #[.val (.ref a1)] [] := by first | (simp [entryFrame, mkF, argsToLocals, Value.category, maxLocals]; done) | rfl
theorem pn_2 : plainFor (⟨"java/lang/Record", "<init>", "()V"⟩ : MethodName) = true := by decide +kernel
set_option maxRecDepth 65536 in
set_option maxHeartbeats 40000000 in
theorem rm2 (l : Launch) (Z : State) (a0 : Array Value) (hw : ∀ d ∈ tables_1, d.before a0 Z = true) (ws : List Jvm.Cond) (a1 : Addr) (h0 : Heap) (n0 : Nat) :
    MetFree l (⟨"java/lang/Record", "<init>", "()V"⟩ : MethodName) (head1 (Jvm.Cond.code (⟨"java/lang/Record", "<init>", "()V"⟩ : MethodName) jdk_30_method_1_code 1 none :: ws) ({ frames := 1, cells := 0, slots := 0, locals := 12 } : Room)) (fun a U => a = #[(.ref a1)] ∧ Z.Warmed39 U.vm ∧ U.heap = h0) (fun _ _ _ _ _ => True) (fun _ U o U' => ∃ v L, o = .returned v ∧ (Qv h0 n0) v U'.heap L ∧ FrameEnd U o U' L ({ frames := 1, cells := 0, slots := 0, locals := 12 } : Room).cells ({ frames := 1, cells := 0, slots := 0, locals := 12 } : Room).slots) := by
  refine MetFree.of_bodySF pn_2 hisR ?_
  intro p e s m args below meth c s₁ Bd hml0 hP hK
  obtain ⟨rfl, hZ, hh⟩ := hP
  have hown : s.vm.findClass "java/lang/Record" = some m.cls := findClass_of_methodNamed Bd.named
  have hnm := (name_of_methodNamed Bd.named Bd.method).1
  have X0 : Stand p l e ({ frames := 1, cells := 0, slots := 0, locals := 12 } : Room) s m #[(.ref a1)] below meth c s₁ [] 0 0 := Stand.of_body Bd
  have e0 : s₁.heap = h0 := by rw [← hh, Bd.state]; rfl
  have d := bk2_0 (n0 := n0) Bd.exec hZ hw Bd.bytes hml0 hown hnm Bd.returns (BodyLoose.notSynchronized Bd) X0 (Fr.nil n0) e0 a1
  have d2 : Done p e below s ({ frames := 1, cells := 0, slots := 0, locals := 12 } : Room) (Qv h0 n0) s₁ (entryFrame m #[(.ref a1)] 1) := by rw [ef_2]; exact d
  exact d2
theorem pd_0 : parseMethodDescriptor "()V" = some ⟨[], none⟩ := by decide +kernel
theorem d1_0 : decode prog_56_method_1_code 0 = .ok (.aload_n 0, 1) := by decide +kernel
theorem d1_1 : decode prog_56_method_1_code 1 = .ok (.invokespecial 1, 3) := by decide +kernel
theorem d1_4 : decode prog_56_method_1_code 4 = .ok (.aload_n 0, 1) := by decide +kernel
theorem d1_5 : decode prog_56_method_1_code 5 = .ok (.iload_n 1, 1) := by decide +kernel
theorem d1_6 : decode prog_56_method_1_code 6 = .ok (.putfield 7, 3) := by decide +kernel
theorem d1_9 : decode prog_56_method_1_code 9 = .ok (.aload_n 0, 1) := by decide +kernel
theorem d1_10 : decode prog_56_method_1_code 10 = .ok (.iload_n 2, 1) := by decide +kernel
theorem d1_11 : decode prog_56_method_1_code 11 = .ok (.putfield 13, 3) := by decide +kernel
theorem d1_14 : decode prog_56_method_1_code 14 = .ok (.aload_n 0, 1) := by decide +kernel
theorem d1_15 : decode prog_56_method_1_code 15 = .ok (.lload_n 3, 1) := by decide +kernel
theorem d1_16 : decode prog_56_method_1_code 16 = .ok (.putfield 16, 3) := by decide +kernel
theorem d1_19 : decode prog_56_method_1_code 19 = .ok (.return_, 1) := by decide +kernel
set_option maxRecDepth 65536 in
set_option maxHeartbeats 40000000 in
theorem bk1_0 {p : Program} {l : Launch} {e : Env} {s : State} {m : MethodId} {args : Array Value} {below : List Frame} {meth : Method} {c : Code} {T0 : State} {locs : List Loc} {Z : State} {a0 : Array Value} {h0 : Heap} {n0 : Nat}
    (hx : p.tables.exec = Jvm.exec) (hZ : Z.Warmed39 s.vm) (hw : ∀ d ∈ tables_1, d.before a0 Z = true) (hby : c.code = prog_56_method_1_code) (hml : c.maxLocals = 5) (hown : s.vm.findClass "com/example/fidwalk/fidwalk/Qid" = some m.cls) (hnm : meth.name = "<init>") (hret : meth.sig.returnType = none) (hlk : meth.locks = false)
    (X0 : Stand p l e ({ frames := 2, cells := 0, slots := 0, locals := 24 } : Room) s m args below meth c T0 locs 0 0) (N0 : Fr n0 locs) (e0 : T0.heap = h0) (a1 : Addr) (p2 : Int32) (p3 : Int32) (q4 : Int64) (u_type : Value) (u_version : Value) (u_path : Value) (E_a1 : Exa Z h0 a1 "com/example/fidwalk/fidwalk/Qid") (F_type_a1 : Fld Z h0 a1 "com/example/fidwalk/fidwalk/Qid" "type" "I" u_type) (F_version_a1 : Fld Z h0 a1 "com/example/fidwalk/fidwalk/Qid" "version" "I" u_version) (F_path_a1 : Fld Z h0 a1 "com/example/fidwalk/fidwalk/Qid" "path" "J" u_path) (g_a1 : n0 ≤ a1) :
    Done p e below s ({ frames := 2, cells := 0, slots := 0, locals := 24 } : Room) (fun v h L => v = none ∧ Fr n0 L ∧ Keep h0 h [a1] ∧ Exa Z h a1 "com/example/fidwalk/fidwalk/Qid" ∧ Fld Z h a1 "com/example/fidwalk/fidwalk/Qid" "type" "I" (.int p2) ∧ Fld Z h a1 "com/example/fidwalk/fidwalk/Qid" "version" "I" (.int p3) ∧ Fld Z h a1 "com/example/fidwalk/fidwalk/Qid" "path" "J" (.long q4)) T0 (mkF m 0 #[.val (.ref a1), .val (.int p2), .val (.int p3), .val (.long q4), .second] []) := by
  refine Done.of (T' := T0) (g' := (mkF m 1 #[.val (.ref a1), .val (.int p2), .val (.int p3), .val (.long q4), .second] [(.ref a1)])) (fun t k => ?_) ?_
  · show Steps p.tables e below (T0.setTop (mkF m 0 #[.val (.ref a1), .val (.int p2), .val (.int p3), .val (.long q4), .second] [])) t
    refine XS.aloadN X0.here hx rfl (hb hby d1_0) rfl rfl ?_
    exact k
  obtain ⟨_, _, ⟨T1, L1, k1, n1⟩, -, X1, ⟨Lc1, hQ1, l1, y1, z1⟩, st1⟩ := X0.specialBack hx (y := (⟨"java/lang/Record", "<init>", "()V"⟩ : MethodName)) rfl hown (mvT hZ (hw _ (List.mem_of_getElem? (i := 6) rfl))) (mvT hZ (hw _ (List.mem_of_getElem? (i := 7) rfl))) (mvT hZ (hw _ (List.mem_of_getElem? (i := 10) rfl))) (by decide) (backOf (W := 0) (rm2 l Z a0 hw [] a1 h0 n0) hZ (hw _ (List.mem_of_getElem? (i := 10) rfl)) (hw _ (List.mem_of_getElem? (i := 9) rfl)) (by decide) (by decide)) (g := (mkF m 1 #[.val (.ref a1), .val (.int p2), .val (.int p3), .val (.long q4), .second] [(.ref a1)])) rfl (by rw [hml]; rfl) (Steps.refl _) (a := a1) (argsL := []) (rest := []) (lenOf pd_0 rfl) rfl (by show 2 * 0 + _ ≤ _; exact Nat.le_of_eq rfl) (hb hby d1_1) (fun _ _ => ⟨rfl, e0, (by decide : 0 + 0 ≤ _), (by decide : 0 + 0 ≤ _)⟩)
  dsimp only [Pt.U, Pt.locs, Pt.cells, Pt.slots] at X1 l1 y1 z1 st1 hQ1
  subst l1 y1 z1
  obtain ⟨rfl, N1q, e1⟩ := hQ1
  have N1 := Fr.app N0 N1q
  replace X1 : Stand p l e ({ frames := 2, cells := 0, slots := 0, locals := 24 } : Room) s m args below meth c T1 _ 0 0 := X1
  refine Done.of (g' := (mkF m 4 #[.val (.ref a1), .val (.int p2), .val (.int p3), .val (.long q4), .second] [])) (fun t k => st1.trans k) ?_
  refine Done.of (T' := T1) (g' := (mkF m 6 #[.val (.ref a1), .val (.int p2), .val (.int p3), .val (.long q4), .second] [(.int p2), (.ref a1)])) (fun t k => ?_) ?_
  · show Steps p.tables e below (T1.setTop (mkF m 4 #[.val (.ref a1), .val (.int p2), .val (.int p3), .val (.long q4), .second] [])) t
    refine XS.aloadN X1.here hx rfl (hb hby d1_4) rfl rfl ?_
    show Steps p.tables e below (T1.setTop (mkF m 5 #[.val (.ref a1), .val (.int p2), .val (.int p3), .val (.long q4), .second] [(.ref a1)])) t
    refine XS.iloadN X1.here hx rfl (hb hby d1_5) rfl ?_
    exact k
  obtain ⟨T2, h2, X2, e2, W2, st2⟩ := putF X1 hx hZ hown (host := "") (Or.inl (hw _ (List.mem_of_getElem? (i := 14) rfl))) Via.refl e1 F_type_a1 E_a1 (Or.inr ⟨(hw _ (List.mem_of_getElem? (i := 15) rfl)), rfl, hnm⟩) (hw _ (List.mem_of_getElem? (i := 1) rfl)) (ty := .int) (by decide) rfl rfl (g := (mkF m 6 #[.val (.ref a1), .val (.int p2), .val (.int p3), .val (.long q4), .second] [(.int p2), (.ref a1)])) rfl rfl (hb hby d1_6)
  have Fw2 := F_type_a1.same W2
  have f1 := E_a1.wr W2
  have f2 := F_version_a1.other W2 (Or.inr (slot_ne (Or.inr (hw _ (List.mem_of_getElem? (i := 17) rfl))) (Or.inr (hw _ (List.mem_of_getElem? (i := 15) rfl))) (by decide) (t := .int) (t' := .int) (by decide) (by decide)))
  have f3 := F_path_a1.other W2 (Or.inr (slot_ne (Or.inr (hw _ (List.mem_of_getElem? (i := 19) rfl))) (Or.inr (hw _ (List.mem_of_getElem? (i := 15) rfl))) (by decide) (t := .long) (t' := .int) (by decide) (by decide)))
  have N2 := Fr.snoc X2 N1 g_a1
  have K2 : Keep h0 h2 [a1] := (Keep.refl h0 [a1]).wr W2 (Or.inl (List.mem_of_getElem? (i := 0) rfl))
  refine Done.of (g' := (mkF m 9 #[.val (.ref a1), .val (.int p2), .val (.int p3), .val (.long q4), .second] [])) st2 ?_
  refine Done.of (T' := T2) (g' := (mkF m 11 #[.val (.ref a1), .val (.int p2), .val (.int p3), .val (.long q4), .second] [(.int p3), (.ref a1)])) (fun t k => ?_) ?_
  · show Steps p.tables e below (T2.setTop (mkF m 9 #[.val (.ref a1), .val (.int p2), .val (.int p3), .val (.long q4), .second] [])) t
    refine XS.aloadN X2.here hx rfl (hb hby d1_9) rfl rfl ?_
    show Steps p.tables e below (T2.setTop (mkF m 10 #[.val (.ref a1), .val (.int p2), .val (.int p3), .val (.long q4), .second] [(.ref a1)])) t
    refine XS.iloadN X2.here hx rfl (hb hby d1_10) rfl ?_
    exact k
  obtain ⟨T3, h3, X3, e3, W3, st3⟩ := putF X2 hx hZ hown (host := "") (Or.inl (hw _ (List.mem_of_getElem? (i := 16) rfl))) Via.refl e2 f2 f1 (Or.inr ⟨(hw _ (List.mem_of_getElem? (i := 17) rfl)), rfl, hnm⟩) (hw _ (List.mem_of_getElem? (i := 1) rfl)) (ty := .int) (by decide) rfl rfl (g := (mkF m 11 #[.val (.ref a1), .val (.int p2), .val (.int p3), .val (.long q4), .second] [(.int p3), (.ref a1)])) rfl rfl (hb hby d1_11)
  have Fw3 := f2.same W3
  have f4 := f1.wr W3
  have f5 := Fw2.other W3 (Or.inr (slot_ne (Or.inr (hw _ (List.mem_of_getElem? (i := 15) rfl))) (Or.inr (hw _ (List.mem_of_getElem? (i := 17) rfl))) (by decide) (t := .int) (t' := .int) (by decide) (by decide)))
  have f6 := f3.other W3 (Or.inr (slot_ne (Or.inr (hw _ (List.mem_of_getElem? (i := 19) rfl))) (Or.inr (hw _ (List.mem_of_getElem? (i := 17) rfl))) (by decide) (t := .long) (t' := .int) (by decide) (by decide)))
  have N3 := Fr.snoc X3 N2 g_a1
  have K3 : Keep h0 h3 [a1] := K2.wr W3 (Or.inl (List.mem_of_getElem? (i := 0) rfl))
  refine Done.of (g' := (mkF m 14 #[.val (.ref a1), .val (.int p2), .val (.int p3), .val (.long q4), .second] [])) st3 ?_
  refine Done.of (T' := T3) (g' := (mkF m 16 #[.val (.ref a1), .val (.int p2), .val (.int p3), .val (.long q4), .second] [(.long q4), (.ref a1)])) (fun t k => ?_) ?_
  · show Steps p.tables e below (T3.setTop (mkF m 14 #[.val (.ref a1), .val (.int p2), .val (.int p3), .val (.long q4), .second] [])) t
    refine XS.aloadN X3.here hx rfl (hb hby d1_14) rfl rfl ?_
    show Steps p.tables e below (T3.setTop (mkF m 15 #[.val (.ref a1), .val (.int p2), .val (.int p3), .val (.long q4), .second] [(.ref a1)])) t
    refine XS.lloadN X3.here hx rfl (hb hby d1_15) rfl ?_
    exact k
  obtain ⟨T4, h4, X4, e4, W4, st4⟩ := putF X3 hx hZ hown (host := "") (Or.inl (hw _ (List.mem_of_getElem? (i := 18) rfl))) Via.refl e3 f6 f4 (Or.inr ⟨(hw _ (List.mem_of_getElem? (i := 19) rfl)), rfl, hnm⟩) (hw _ (List.mem_of_getElem? (i := 1) rfl)) (ty := .long) (by decide) rfl rfl (g := (mkF m 16 #[.val (.ref a1), .val (.int p2), .val (.int p3), .val (.long q4), .second] [(.long q4), (.ref a1)])) rfl rfl (hb hby d1_16)
  have Fw4 := f6.same W4
  have f7 := f4.wr W4
  have f8 := f5.other W4 (Or.inr (slot_ne (Or.inr (hw _ (List.mem_of_getElem? (i := 15) rfl))) (Or.inr (hw _ (List.mem_of_getElem? (i := 19) rfl))) (by decide) (t := .int) (t' := .long) (by decide) (by decide)))
  have f9 := Fw3.other W4 (Or.inr (slot_ne (Or.inr (hw _ (List.mem_of_getElem? (i := 17) rfl))) (Or.inr (hw _ (List.mem_of_getElem? (i := 19) rfl))) (by decide) (t := .int) (t' := .long) (by decide) (by decide)))
  have N4 := Fr.snoc X4 N3 g_a1
  have K4 : Keep h0 h4 [a1] := K3.wr W4 (Or.inl (List.mem_of_getElem? (i := 0) rfl))
  refine Done.of (g' := (mkF m 19 #[.val (.ref a1), .val (.int p2), .val (.int p3), .val (.long q4), .second] [])) st4 ?_
  exact doneV X4 hx hret hlk (hb hby d1_19) (by show _ ∧ _; rw [e4]; exact ⟨rfl, N4, K4, f7, f8, f9, Fw4⟩) (by decide) (by decide)
theorem ef_1 (m : MethodId) (a1 : Addr) (p2 : Int32) (p3 : Int32) (q4 : Int64) : entryFrame m #[(.ref a1), (.int p2), (.int p3), (.long q4)] 5 = mkF m 0 #[.val (.ref a1), .val (.int p2), .val (.int p3), .val (.long q4), .second] [] := by first | (simp [entryFrame, mkF, argsToLocals, Value.category, maxLocals]; done) | rfl
theorem pn_1 : plainName "com/example/fidwalk/fidwalk/Qid" = true := by first | (simp [plainName, overriddenIn]; done) | decide +kernel
def Q1 (Z : State) (a1 : Addr) (p2 : Int32) (p3 : Int32) (q4 : Int64) (h0 : Heap) (n0 : Nat) (u_type : Value) (u_version : Value) (u_path : Value) (v : Option Value) (h : Heap) (L : List Loc) : Prop := v = none ∧ Fr n0 L ∧ Keep h0 h [a1] ∧ Exa Z h a1 "com/example/fidwalk/fidwalk/Qid" ∧ Fld Z h a1 "com/example/fidwalk/fidwalk/Qid" "type" "I" (.int p2) ∧ Fld Z h a1 "com/example/fidwalk/fidwalk/Qid" "version" "I" (.int p3) ∧ Fld Z h a1 "com/example/fidwalk/fidwalk/Qid" "path" "J" (.long q4)
set_option maxRecDepth 65536 in
set_option maxHeartbeats 40000000 in
theorem rm1 (l : Launch) (Z : State) (a0 : Array Value) (hw : ∀ d ∈ tables_1, d.before a0 Z = true) (ws : List Jvm.Cond) (a1 : Addr) (p2 : Int32) (p3 : Int32) (q4 : Int64) (h0 : Heap) (n0 : Nat) (u_type : Value) (u_version : Value) (u_path : Value) (E_a1 : Exa Z h0 a1 "com/example/fidwalk/fidwalk/Qid") (F_type_a1 : Fld Z h0 a1 "com/example/fidwalk/fidwalk/Qid" "type" "I" u_type) (F_version_a1 : Fld Z h0 a1 "com/example/fidwalk/fidwalk/Qid" "version" "I" u_version) (F_path_a1 : Fld Z h0 a1 "com/example/fidwalk/fidwalk/Qid" "path" "J" u_path) (g_a1 : n0 ≤ a1) :
    MetFree l (⟨"com/example/fidwalk/fidwalk/Qid", "<init>", "(IIJ)V"⟩ : MethodName) (head1 (Jvm.Cond.code (⟨"com/example/fidwalk/fidwalk/Qid", "<init>", "(IIJ)V"⟩ : MethodName) prog_56_method_1_code 5 none :: ws) ({ frames := 2, cells := 0, slots := 0, locals := 24 } : Room)) (fun a U => a = #[(.ref a1), (.int p2), (.int p3), (.long q4)] ∧ Z.Warmed39 U.vm ∧ U.heap = h0) (fun _ _ _ _ _ => True) (fun _ U o U' => ∃ v L, o = .returned v ∧ (Q1 Z a1 p2 p3 q4 h0 n0 u_type u_version u_path) v U'.heap L ∧ FrameEnd U o U' L ({ frames := 2, cells := 0, slots := 0, locals := 24 } : Room).cells ({ frames := 2, cells := 0, slots := 0, locals := 24 } : Room).slots) := by
  refine MetFree.of_bodySF (plainFor_of_name pn_1) hisR ?_
  intro p e s m args below meth c s₁ Bd hml0 hP hK
  obtain ⟨rfl, hZ, hh⟩ := hP
  have hown : s.vm.findClass "com/example/fidwalk/fidwalk/Qid" = some m.cls := findClass_of_methodNamed Bd.named
  have hnm := (name_of_methodNamed Bd.named Bd.method).1
  have X0 : Stand p l e ({ frames := 2, cells := 0, slots := 0, locals := 24 } : Room) s m #[(.ref a1), (.int p2), (.int p3), (.long q4)] below meth c s₁ [] 0 0 := Stand.of_body Bd
  have e0 : s₁.heap = h0 := by rw [← hh, Bd.state]; rfl
  have d := bk1_0 (n0 := n0) Bd.exec hZ hw Bd.bytes hml0 hown hnm Bd.returns (BodyLoose.notSynchronized Bd) X0 (Fr.nil n0) e0 a1 p2 p3 q4 u_type u_version u_path E_a1 F_type_a1 F_version_a1 F_path_a1 g_a1
  have d2 : Done p e below s ({ frames := 2, cells := 0, slots := 0, locals := 24 } : Room) (Q1 Z a1 p2 p3 q4 h0 n0 u_type u_version u_path) s₁ (entryFrame m #[(.ref a1), (.int p2), (.int p3), (.long q4)] 5) := by rw [ef_1]; exact d
  exact d2
theorem d4_0 : decode prog_56_method_2_code 0 = .ok (.aload_n 0, 1) := by decide +kernel
theorem d4_1 : decode prog_56_method_2_code 1 = .ok (.getfield 7, 3) := by decide +kernel
theorem d4_4 : decode prog_56_method_2_code 4 = .ok (.sipush 128, 3) := by decide +kernel
theorem d4_7 : decode prog_56_method_2_code 7 = .ok (.iand, 1) := by decide +kernel
theorem d4_8 : decode prog_56_method_2_code 8 = .ok (.ifCond .eq 7, 3) := by decide +kernel
theorem d4_11 : decode prog_56_method_2_code 11 = .ok (.iconst 1, 1) := by decide +kernel
theorem d4_12 : decode prog_56_method_2_code 12 = .ok (.goto 4, 3) := by decide +kernel
theorem d4_15 : decode prog_56_method_2_code 15 = .ok (.iconst 0, 1) := by decide +kernel
theorem d4_16 : decode prog_56_method_2_code 16 = .ok (.ireturn, 1) := by decide +kernel
def F4_0 (w1 : Int32) : Int32 := (if (w1 &&& (128 : Int32)) = (0 : Int32) then (0 : Int32) else (1 : Int32))
set_option maxRecDepth 65536 in
set_option maxHeartbeats 40000000 in
theorem bk4_0 {p : Program} {l : Launch} {e : Env} {s : State} {m : MethodId} {args : Array Value} {below : List Frame} {meth : Method} {c : Code} {T0 : State} {locs : List Loc} {Z : State} {a0 : Array Value} {h0 : Heap} {n0 : Nat}
    (hx : p.tables.exec = Jvm.exec) (hZ : Z.Warmed39 s.vm) (hw : ∀ d ∈ tables_1, d.before a0 Z = true) (hby : c.code = prog_56_method_2_code) (hml : c.maxLocals = 1) (hown : s.vm.findClass "com/example/fidwalk/fidwalk/Qid" = some m.cls) (hnm : meth.name = "isDirectory") (hret : meth.sig.returnType = some .boolean) (hlk : meth.locks = false)
    (X0 : Stand p l e ({ frames := 0, cells := 0, slots := 0, locals := 0 } : Room) s m args below meth c T0 locs 0 0) (N0 : Fr n0 locs) (e0 : T0.heap = h0) (a1 : Addr) (w1 : Int32) (F_type_a1 : Fld Z h0 a1 "com/example/fidwalk/fidwalk/Qid" "type" "I" (.int w1)) :
    Done p e below s ({ frames := 0, cells := 0, slots := 0, locals := 0 } : Room) (Qp h0 n0 (.int (F4_0 w1))) T0 (mkF m 0 #[.val (.ref a1)] []) := by
  unfold F4_0
  refine Done.of (T' := T0) (g' := (mkF m 1 #[.val (.ref a1)] [(.ref a1)])) (fun t k => ?_) ?_
  · show Steps p.tables e below (T0.setTop (mkF m 0 #[.val (.ref a1)] [])) t
    refine XS.aloadN X0.here hx rfl (hb hby d4_0) rfl rfl ?_
    exact k
  obtain ⟨T1, X1, e1, st1⟩ := getF X0 hx hZ hown (host := "") (Or.inl (hw _ (List.mem_of_getElem? (i := 14) rfl))) Via.refl e0 F_type_a1 (g := (mkF m 1 #[.val (.ref a1)] [(.ref a1)])) rfl rfl (hb hby d4_1)
  refine Done.of (g' := (mkF m 4 #[.val (.ref a1)] [(.int w1)])) st1 ?_
  refine Done.of (T' := T1) (g' := (mkF m 8 #[.val (.ref a1)] [(.int (w1 &&& (128 : Int32)))])) (fun t k => ?_) ?_
  · show Steps p.tables e below (T1.setTop (mkF m 4 #[.val (.ref a1)] [(.int w1)])) t
    refine XS.sipush X1.here hx rfl (hb hby d4_4) ?_
    show Steps p.tables e below (T1.setTop (mkF m 7 #[.val (.ref a1)] [(.int (128 : Int32)), (.int w1)])) t
    refine XS.iand X1.here hx rfl (hb hby d4_7) rfl ?_
    exact k
  by_cases hc8_1 : (w1 &&& (128 : Int32)) = (0 : Int32)
  · rw [if_pos hc8_1]
    refine Done.of (T' := T1) (g' := (mkF m 16 #[.val (.ref a1)] [(.int (0 : Int32))])) (fun t k => ?_) ?_
    · show Steps p.tables e below (T1.setTop (mkF m 8 #[.val (.ref a1)] [(.int (w1 &&& (128 : Int32)))])) t
      refine XS.ifYes X1.here hx rfl (pc0 := 8) (pc' := 15) rfl (hb hby d4_8) rfl ((if0 _ _).trans (teq hc8_1).1) (by decide) (by decide) ?_
      show Steps p.tables e below (T1.setTop (mkF m 15 #[.val (.ref a1)] [])) t
      refine XS.iconst X1.here hx rfl (hb hby d4_15) ?_
      exact k
    exact doneN (t := .boolean) X1 (by simp) hx hret hlk (hb hby d4_16) ⟨rfl, N0, e1⟩ (by decide) (by decide)
  · rw [if_neg hc8_1]
    refine Done.of (T' := T1) (g' := (mkF m 16 #[.val (.ref a1)] [(.int (1 : Int32))])) (fun t k => ?_) ?_
    · show Steps p.tables e below (T1.setTop (mkF m 8 #[.val (.ref a1)] [(.int (w1 &&& (128 : Int32)))])) t
      refine XS.ifNo X1.here hx rfl (hb hby d4_8) rfl ((if0 _ _).trans (feq hc8_1).1) ?_
      show Steps p.tables e below (T1.setTop (mkF m 11 #[.val (.ref a1)] [])) t
      refine XS.iconst X1.here hx rfl (hb hby d4_11) ?_
      show Steps p.tables e below (T1.setTop (mkF m 12 #[.val (.ref a1)] [(.int (1 : Int32))])) t
      refine XS.goto X1.here hx rfl (pc0 := 12) (pc' := 16) rfl (hb hby d4_12) (by decide) (by decide) ?_
      exact k
    exact doneN (t := .boolean) X1 (by simp) hx hret hlk (hb hby d4_16) ⟨rfl, N0, e1⟩ (by decide) (by decide)
theorem ef_4 (m : MethodId) (a1 : Addr) : entryFrame m #[(.ref a1)] 1 = mkF m 0 #[.val (.ref a1)] [] := by first | (simp [entryFrame, mkF, argsToLocals, Value.category, maxLocals]; done) | rfl
theorem pn_4 : plainName "com/example/fidwalk/fidwalk/Qid" = true := by first | (simp [plainName, overriddenIn]; done) | decide +kernel
set_option maxRecDepth 65536 in
set_option maxHeartbeats 40000000 in
theorem rm4 (l : Launch) (Z : State) (a0 : Array Value) (hw : ∀ d ∈ tables_1, d.before a0 Z = true) (ws : List Jvm.Cond) (a1 : Addr) (h0 : Heap) (n0 : Nat) (w1 : Int32) (F_type_a1 : Fld Z h0 a1 "com/example/fidwalk/fidwalk/Qid" "type" "I" (.int w1)) :
    MetFree l (⟨"com/example/fidwalk/fidwalk/Qid", "isDirectory", "()Z"⟩ : MethodName) (head1 (Jvm.Cond.code (⟨"com/example/fidwalk/fidwalk/Qid", "isDirectory", "()Z"⟩ : MethodName) prog_56_method_2_code 1 (some .boolean) :: ws) ({ frames := 0, cells := 0, slots := 0, locals := 0 } : Room)) (fun a U => a = #[(.ref a1)] ∧ Z.Warmed39 U.vm ∧ U.heap = h0) (fun _ _ _ _ _ => True) (fun _ U o U' => ∃ v L, o = .returned v ∧ (Qp h0 n0 (.int (F4_0 w1))) v U'.heap L ∧ FrameEnd U o U' L ({ frames := 0, cells := 0, slots := 0, locals := 0 } : Room).cells ({ frames := 0, cells := 0, slots := 0, locals := 0 } : Room).slots) := by
  refine MetFree.of_bodySF (plainFor_of_name pn_4) hisR ?_
  intro p e s m args below meth c s₁ Bd hml0 hP hK
  obtain ⟨rfl, hZ, hh⟩ := hP
  have hown : s.vm.findClass "com/example/fidwalk/fidwalk/Qid" = some m.cls := findClass_of_methodNamed Bd.named
  have hnm := (name_of_methodNamed Bd.named Bd.method).1
  have X0 : Stand p l e ({ frames := 0, cells := 0, slots := 0, locals := 0 } : Room) s m #[(.ref a1)] below meth c s₁ [] 0 0 := Stand.of_body Bd
  have e0 : s₁.heap = h0 := by rw [← hh, Bd.state]; rfl
  have d := bk4_0 (n0 := n0) Bd.exec hZ hw Bd.bytes hml0 hown hnm Bd.returns (BodyLoose.notSynchronized Bd) X0 (Fr.nil n0) e0 a1 w1 F_type_a1
  have d2 : Done p e below s ({ frames := 0, cells := 0, slots := 0, locals := 0 } : Room) (Qp h0 n0 (.int (F4_0 w1))) s₁ (entryFrame m #[(.ref a1)] 1) := by rw [ef_4]; exact d
  exact d2
theorem pd_1 : parseMethodDescriptor "(IIJ)V" = some ⟨[.int, .int, .long], none⟩ := by decide +kernel
theorem pd_2 : parseMethodDescriptor "()Z" = some ⟨[], some .boolean⟩ := by decide +kernel
def F0_15 (i0 : Int32) (i1 : Int32) (j2 : Int64) (i4 : Int32) (j5 : Int64) (x0 : Int32) : Int32 := (if (F4_0 i0) = x0 then (if (F4_0 i0) = x0 then (if (F4_0 (i0 ||| (128 : Int32))) = (0 : Int32) then (0 : Int32) else (if (F4_0 (i0 &&& (-129 : Int32))) = (0 : Int32) then (1 : Int32) else (0 : Int32))) else (0 : Int32)) else (0 : Int32))
set_option maxRecDepth 65536 in
set_option maxHeartbeats 40000000 in
theorem bk0_15 {p : Program} {l : Launch} {e : Env} {s : State} {m : MethodId} {args : Array Value} {below : List Frame} {meth : Method} {c : Code} {T0 : State} {locs : List Loc} {Z : State} {a0 : Array Value} {h0 : Heap} {n0 : Nat}
    (hx : p.tables.exec = Jvm.exec) (hZ : Z.Warmed39 s.vm) (hw : ∀ d ∈ tables_1, d.before a0 Z = true) (hby : c.code = code) (hml : c.maxLocals = 16) (hown : s.vm.findClass "com/example/fidwalk/fidwalk/QidIsDirectoryPinLaw" = some m.cls) (hnm : meth.name = "law") (hret : meth.sig.returnType = some .boolean) (hlk : meth.locks = false)
    (X0 : Stand p l e room_1 s m args below meth c T0 locs 0 0) (N0 : Fr n0 locs) (e0 : T0.heap = h0) (i0 : Int32) (i1 : Int32) (j2 : Int64) (i4 : Int32) (j5 : Int64) (x0 : Int32) (Z0 : n0 ≤ h0.size) :
    Done p e below s room_1 (Ql n0 (.int (F0_15 i0 i1 j2 i4 j5 x0))) T0 (mkF m 15 #[.val (.int i0), .val (.int i1), .val (.long j2), .second, .val (.int i4), .val (.long j5), .second, .unset, .unset, .unset, .unset, .unset, .unset, .unset, .unset, .unset] [(.int x0)]) := by
  unfold F0_15
  refine Done.of (T' := T0) (g' := (mkF m 17 #[.val (.int i0), .val (.int i1), .val (.long j2), .second, .val (.int i4), .val (.long j5), .second, .val (.int x0), .unset, .unset, .unset, .unset, .unset, .unset, .unset, .unset] [])) (fun t k => ?_) ?_
  · show Steps p.tables e below (T0.setTop (mkF m 15 #[.val (.int i0), .val (.int i1), .val (.long j2), .second, .val (.int i4), .val (.long j5), .second, .unset, .unset, .unset, .unset, .unset, .unset, .unset, .unset, .unset] [(.int x0)])) t
    refine XS.istore X0.here hx rfl (hb hby at_15) rfl (l' := #[.val (.int i0), .val (.int i1), .val (.long j2), .second, .val (.int i4), .val (.long j5), .second, .val (.int x0), .unset, .unset, .unset, .unset, .unset, .unset, .unset, .unset]) rfl ?_
    exact k
  obtain ⟨T1, h1, X1, e1, E1, A1, D1, -, st1⟩ := newO X0 hx hZ hown (hw _ (List.mem_of_getElem? (i := 0) rfl)) (hw _ (List.mem_of_getElem? (i := 1) rfl)) (hw _ (List.mem_of_getElem? (i := 2) rfl)) e0 (g := (mkF m 17 #[.val (.int i0), .val (.int i1), .val (.long j2), .second, .val (.int i4), .val (.long j5), .second, .val (.int x0), .unset, .unset, .unset, .unset, .unset, .unset, .unset, .unset] [])) rfl (hb hby at_17) (by decide) (by decide)
  obtain ⟨b1, g1⟩ : ∃ z, z = h0.size := ⟨_, rfl⟩
  rw [← g1] at A1 D1 st1
  have g_b1 : n0 ≤ b1 := Nat.le_trans Z0 (Nat.le_of_eq g1.symm)
  have F1_type : Fld Z h1 b1 "com/example/fidwalk/fidwalk/Qid" "type" "I" (.int (0 : Int32)) := D1 (Or.inr (hw _ (List.mem_of_getElem? (i := 15) rfl))) (ty := .int) (by decide)
  have F1_version : Fld Z h1 b1 "com/example/fidwalk/fidwalk/Qid" "version" "I" (.int (0 : Int32)) := D1 (Or.inr (hw _ (List.mem_of_getElem? (i := 17) rfl))) (ty := .int) (by decide)
  have F1_path : Fld Z h1 b1 "com/example/fidwalk/fidwalk/Qid" "path" "J" (.long (0 : Int64)) := D1 (Or.inr (hw _ (List.mem_of_getElem? (i := 19) rfl))) (ty := .long) (by decide)
  refine Done.of (g' := (mkF m 20 #[.val (.int i0), .val (.int i1), .val (.long j2), .second, .val (.int i4), .val (.long j5), .second, .val (.int x0), .unset, .unset, .unset, .unset, .unset, .unset, .unset, .unset] [(.ref b1)])) st1 ?_
  refine Done.of (T' := T1) (g' := (mkF m 24 #[.val (.int i0), .val (.int i1), .val (.long j2), .second, .val (.int i4), .val (.long j5), .second, .val (.int x0), .unset, .unset, .unset, .unset, .unset, .unset, .unset, .unset] [(.long j2), (.int i1), (.int i0), (.ref b1), (.ref b1)])) (fun t k => ?_) ?_
  · show Steps p.tables e below (T1.setTop (mkF m 20 #[.val (.int i0), .val (.int i1), .val (.long j2), .second, .val (.int i4), .val (.long j5), .second, .val (.int x0), .unset, .unset, .unset, .unset, .unset, .unset, .unset, .unset] [(.ref b1)])) t
    refine XS.dup X1.here hx rfl (hb hby at_20) rfl rfl ?_
    show Steps p.tables e below (T1.setTop (mkF m 21 #[.val (.int i0), .val (.int i1), .val (.long j2), .second, .val (.int i4), .val (.long j5), .second, .val (.int x0), .unset, .unset, .unset, .unset, .unset, .unset, .unset, .unset] [(.ref b1), (.ref b1)])) t
    refine XS.iloadN X1.here hx rfl (hb hby at_21) rfl ?_
    show Steps p.tables e below (T1.setTop (mkF m 22 #[.val (.int i0), .val (.int i1), .val (.long j2), .second, .val (.int i4), .val (.long j5), .second, .val (.int x0), .unset, .unset, .unset, .unset, .unset, .unset, .unset, .unset] [(.int i0), (.ref b1), (.ref b1)])) t
    refine XS.iloadN X1.here hx rfl (hb hby at_22) rfl ?_
    show Steps p.tables e below (T1.setTop (mkF m 23 #[.val (.int i0), .val (.int i1), .val (.long j2), .second, .val (.int i4), .val (.long j5), .second, .val (.int x0), .unset, .unset, .unset, .unset, .unset, .unset, .unset, .unset] [(.int i1), (.int i0), (.ref b1), (.ref b1)])) t
    refine XS.lloadN X1.here hx rfl (hb hby at_23) rfl ?_
    exact k
  obtain ⟨_, _, ⟨T2, L2, k2, n2⟩, -, X2, ⟨Lc2, hQ2, l2, y2, z2⟩, st2⟩ := X1.specialBack hx (y := (⟨"com/example/fidwalk/fidwalk/Qid", "<init>", "(IIJ)V"⟩ : MethodName)) rfl hown (mvT hZ (hw _ (List.mem_of_getElem? (i := 3) rfl))) (mvT hZ (hw _ (List.mem_of_getElem? (i := 4) rfl))) (mvT hZ (hw _ (List.mem_of_getElem? (i := 5) rfl))) (by decide) (backOf (W := 1) (rm1 l Z a0 hw [] b1 i0 i1 j2 h1 n0 ((.int (0 : Int32))) ((.int (0 : Int32))) ((.long (0 : Int64))) A1 F1_type F1_version F1_path g_b1) hZ (hw _ (List.mem_of_getElem? (i := 5) rfl)) (hw _ (List.mem_of_getElem? (i := 2) rfl)) (by decide) (by decide)) (g := (mkF m 24 #[.val (.int i0), .val (.int i1), .val (.long j2), .second, .val (.int i4), .val (.long j5), .second, .val (.int x0), .unset, .unset, .unset, .unset, .unset, .unset, .unset, .unset] [(.long j2), (.int i1), (.int i0), (.ref b1), (.ref b1)])) rfl (by rw [hml]; rfl) (Steps.refl _) (a := b1) (argsL := [(.int i0), (.int i1), (.long j2)]) (rest := [(.ref b1)]) (lenOf pd_1 rfl) rfl (by show 2 * 0 + _ ≤ _; exact Nat.le_of_eq rfl) (hb hby at_24) (fun _ _ => ⟨rfl, e1, (by decide : 1 + 0 ≤ _), (by decide : 3 + 0 ≤ _)⟩)
  dsimp only [Pt.U, Pt.locs, Pt.cells, Pt.slots] at X2 l2 y2 z2 st2 hQ2
  subst l2 y2 z2
  obtain ⟨h2, e2⟩ : ∃ z, T2.heap = z := ⟨_, rfl⟩
  rw [e2] at hQ2
  obtain ⟨rfl, N2q, K2, E2, F2_type, F2_version, F2_path⟩ := hQ2
  have N2 := Fr.app N0 N2q
  replace X2 : Stand p l e room_1 s m args below meth c T2 _ 1 3 := X2
  refine Done.of (g' := (mkF m 27 #[.val (.int i0), .val (.int i1), .val (.long j2), .second, .val (.int i4), .val (.long j5), .second, .val (.int x0), .unset, .unset, .unset, .unset, .unset, .unset, .unset, .unset] [(.ref b1)])) (fun t k => st2.trans k) ?_
  refine Done.of (T' := T2) (g' := (mkF m 29 #[.val (.int i0), .val (.int i1), .val (.long j2), .second, .val (.int i4), .val (.long j5), .second, .val (.int x0), .val (.ref b1), .unset, .unset, .unset, .unset, .unset, .unset, .unset] [])) (fun t k => ?_) ?_
  · show Steps p.tables e below (T2.setTop (mkF m 27 #[.val (.int i0), .val (.int i1), .val (.long j2), .second, .val (.int i4), .val (.long j5), .second, .val (.int x0), .unset, .unset, .unset, .unset, .unset, .unset, .unset, .unset] [(.ref b1)])) t
    refine XS.astore X2.here hx rfl (hb hby at_27) rfl rfl (l' := #[.val (.int i0), .val (.int i1), .val (.long j2), .second, .val (.int i4), .val (.long j5), .second, .val (.int x0), .val (.ref b1), .unset, .unset, .unset, .unset, .unset, .unset, .unset]) rfl ?_
    exact k
  obtain ⟨T3, h3, X3, e3, E3, A3, D3, -, st3⟩ := newO X2 hx hZ hown (hw _ (List.mem_of_getElem? (i := 0) rfl)) (hw _ (List.mem_of_getElem? (i := 1) rfl)) (hw _ (List.mem_of_getElem? (i := 2) rfl)) e2 (g := (mkF m 29 #[.val (.int i0), .val (.int i1), .val (.long j2), .second, .val (.int i4), .val (.long j5), .second, .val (.int x0), .val (.ref b1), .unset, .unset, .unset, .unset, .unset, .unset, .unset] [])) rfl (hb hby at_29) (by decide) (by decide)
  obtain ⟨b3, g3⟩ : ∃ z, z = h2.size := ⟨_, rfl⟩
  rw [← g3] at A3 D3 st3
  have ne4 : b1 ≠ b3 := Nat.ne_of_lt (Nat.lt_of_lt_of_le E2.lt (Nat.le_of_eq g3.symm))
  have g_b3 : n0 ≤ b3 := Nat.le_trans (Nat.le_trans (Nat.le_trans Z0 E1.1) K2.1) (Nat.le_of_eq g3.symm)
  have f1 := E2.ext E3
  have f2 := F2_type.ext E3
  have f3 := F2_version.ext E3
  have f4 := F2_path.ext E3
  have F3_type : Fld Z h3 b3 "com/example/fidwalk/fidwalk/Qid" "type" "I" (.int (0 : Int32)) := D3 (Or.inr (hw _ (List.mem_of_getElem? (i := 15) rfl))) (ty := .int) (by decide)
  have F3_version : Fld Z h3 b3 "com/example/fidwalk/fidwalk/Qid" "version" "I" (.int (0 : Int32)) := D3 (Or.inr (hw _ (List.mem_of_getElem? (i := 17) rfl))) (ty := .int) (by decide)
  have F3_path : Fld Z h3 b3 "com/example/fidwalk/fidwalk/Qid" "path" "J" (.long (0 : Int64)) := D3 (Or.inr (hw _ (List.mem_of_getElem? (i := 19) rfl))) (ty := .long) (by decide)
  refine Done.of (g' := (mkF m 32 #[.val (.int i0), .val (.int i1), .val (.long j2), .second, .val (.int i4), .val (.long j5), .second, .val (.int x0), .val (.ref b1), .unset, .unset, .unset, .unset, .unset, .unset, .unset] [(.ref b3)])) st3 ?_
  refine Done.of (T' := T3) (g' := (mkF m 38 #[.val (.int i0), .val (.int i1), .val (.long j2), .second, .val (.int i4), .val (.long j5), .second, .val (.int x0), .val (.ref b1), .unset, .unset, .unset, .unset, .unset, .unset, .unset] [(.long j5), (.int i4), (.int i0), (.ref b3), (.ref b3)])) (fun t k => ?_) ?_
  · show Steps p.tables e below (T3.setTop (mkF m 32 #[.val (.int i0), .val (.int i1), .val (.long j2), .second, .val (.int i4), .val (.long j5), .second, .val (.int x0), .val (.ref b1), .unset, .unset, .unset, .unset, .unset, .unset, .unset] [(.ref b3)])) t
    refine XS.dup X3.here hx rfl (hb hby at_32) rfl rfl ?_
    show Steps p.tables e below (T3.setTop (mkF m 33 #[.val (.int i0), .val (.int i1), .val (.long j2), .second, .val (.int i4), .val (.long j5), .second, .val (.int x0), .val (.ref b1), .unset, .unset, .unset, .unset, .unset, .unset, .unset] [(.ref b3), (.ref b3)])) t
    refine XS.iloadN X3.here hx rfl (hb hby at_33) rfl ?_
    show Steps p.tables e below (T3.setTop (mkF m 34 #[.val (.int i0), .val (.int i1), .val (.long j2), .second, .val (.int i4), .val (.long j5), .second, .val (.int x0), .val (.ref b1), .unset, .unset, .unset, .unset, .unset, .unset, .unset] [(.int i0), (.ref b3), (.ref b3)])) t
    refine XS.iload X3.here hx rfl (hb hby at_34) rfl ?_
    show Steps p.tables e below (T3.setTop (mkF m 36 #[.val (.int i0), .val (.int i1), .val (.long j2), .second, .val (.int i4), .val (.long j5), .second, .val (.int x0), .val (.ref b1), .unset, .unset, .unset, .unset, .unset, .unset, .unset] [(.int i4), (.int i0), (.ref b3), (.ref b3)])) t
    refine XS.lload X3.here hx rfl (hb hby at_36) rfl ?_
    exact k
  obtain ⟨_, _, ⟨T5, L5, k5, n5⟩, -, X5, ⟨Lc5, hQ5, l5, y5, z5⟩, st5⟩ := X3.specialBack hx (y := (⟨"com/example/fidwalk/fidwalk/Qid", "<init>", "(IIJ)V"⟩ : MethodName)) rfl hown (mvT hZ (hw _ (List.mem_of_getElem? (i := 3) rfl))) (mvT hZ (hw _ (List.mem_of_getElem? (i := 4) rfl))) (mvT hZ (hw _ (List.mem_of_getElem? (i := 5) rfl))) (by decide) (backOf (W := 1) (rm1 l Z a0 hw [] b3 i0 i4 j5 h3 n0 ((.int (0 : Int32))) ((.int (0 : Int32))) ((.long (0 : Int64))) A3 F3_type F3_version F3_path g_b3) hZ (hw _ (List.mem_of_getElem? (i := 5) rfl)) (hw _ (List.mem_of_getElem? (i := 2) rfl)) (by decide) (by decide)) (g := (mkF m 38 #[.val (.int i0), .val (.int i1), .val (.long j2), .second, .val (.int i4), .val (.long j5), .second, .val (.int x0), .val (.ref b1), .unset, .unset, .unset, .unset, .unset, .unset, .unset] [(.long j5), (.int i4), (.int i0), (.ref b3), (.ref b3)])) rfl (by rw [hml]; rfl) (Steps.refl _) (a := b3) (argsL := [(.int i0), (.int i4), (.long j5)]) (rest := [(.ref b3)]) (lenOf pd_1 rfl) rfl (by show 2 * 0 + _ ≤ _; exact Nat.le_of_eq rfl) (hb hby at_38) (fun _ _ => ⟨rfl, e3, (by decide : 2 + 0 ≤ _), (by decide : 6 + 0 ≤ _)⟩)
  dsimp only [Pt.U, Pt.locs, Pt.cells, Pt.slots] at X5 l5 y5 z5 st5 hQ5
  subst l5 y5 z5
  obtain ⟨h5, e5⟩ : ∃ z, T5.heap = z := ⟨_, rfl⟩
  rw [e5] at hQ5
  obtain ⟨rfl, N5q, K5, E5, F5_type, F5_version, F5_path⟩ := hQ5
  have f5 := f1.keep K5
  have f6 := f2.keep K5 (by simp only [List.mem_cons, List.not_mem_nil, or_false]; exact ne4)
  have f7 := f3.keep K5 (by simp only [List.mem_cons, List.not_mem_nil, or_false]; exact ne4)
  have f8 := f4.keep K5 (by simp only [List.mem_cons, List.not_mem_nil, or_false]; exact ne4)
  have N5 := Fr.app N2 N5q
  replace X5 : Stand p l e room_1 s m args below meth c T5 _ 2 6 := X5
  refine Done.of (g' := (mkF m 41 #[.val (.int i0), .val (.int i1), .val (.long j2), .second, .val (.int i4), .val (.long j5), .second, .val (.int x0), .val (.ref b1), .unset, .unset, .unset, .unset, .unset, .unset, .unset] [(.ref b3)])) (fun t k => st5.trans k) ?_
  refine Done.of (T' := T5) (g' := (mkF m 43 #[.val (.int i0), .val (.int i1), .val (.long j2), .second, .val (.int i4), .val (.long j5), .second, .val (.int x0), .val (.ref b1), .val (.ref b3), .unset, .unset, .unset, .unset, .unset, .unset] [])) (fun t k => ?_) ?_
  · show Steps p.tables e below (T5.setTop (mkF m 41 #[.val (.int i0), .val (.int i1), .val (.long j2), .second, .val (.int i4), .val (.long j5), .second, .val (.int x0), .val (.ref b1), .unset, .unset, .unset, .unset, .unset, .unset, .unset] [(.ref b3)])) t
    refine XS.astore X5.here hx rfl (hb hby at_41) rfl rfl (l' := #[.val (.int i0), .val (.int i1), .val (.long j2), .second, .val (.int i4), .val (.long j5), .second, .val (.int x0), .val (.ref b1), .val (.ref b3), .unset, .unset, .unset, .unset, .unset, .unset]) rfl ?_
    exact k
  obtain ⟨T6, h6, X6, e6, E6, A6, D6, -, st6⟩ := newO X5 hx hZ hown (hw _ (List.mem_of_getElem? (i := 0) rfl)) (hw _ (List.mem_of_getElem? (i := 1) rfl)) (hw _ (List.mem_of_getElem? (i := 2) rfl)) e5 (g := (mkF m 43 #[.val (.int i0), .val (.int i1), .val (.long j2), .second, .val (.int i4), .val (.long j5), .second, .val (.int x0), .val (.ref b1), .val (.ref b3), .unset, .unset, .unset, .unset, .unset, .unset] [])) rfl (hb hby at_43) (by decide) (by decide)
  obtain ⟨b6, g6⟩ : ∃ z, z = h5.size := ⟨_, rfl⟩
  rw [← g6] at A6 D6 st6
  have ne7 : b1 ≠ b6 := Nat.ne_of_lt (Nat.lt_of_lt_of_le f5.lt (Nat.le_of_eq g6.symm))
  have ne8 : b3 ≠ b6 := Nat.ne_of_lt (Nat.lt_of_lt_of_le E5.lt (Nat.le_of_eq g6.symm))
  have g_b6 : n0 ≤ b6 := Nat.le_trans (Nat.le_trans (Nat.le_trans (Nat.le_trans (Nat.le_trans Z0 E1.1) K2.1) E3.1) K5.1) (Nat.le_of_eq g6.symm)
  have f9 := f5.ext E6
  have f10 := f6.ext E6
  have f11 := f7.ext E6
  have f12 := f8.ext E6
  have f13 := E5.ext E6
  have f14 := F5_type.ext E6
  have f15 := F5_version.ext E6
  have f16 := F5_path.ext E6
  have F6_type : Fld Z h6 b6 "com/example/fidwalk/fidwalk/Qid" "type" "I" (.int (0 : Int32)) := D6 (Or.inr (hw _ (List.mem_of_getElem? (i := 15) rfl))) (ty := .int) (by decide)
  have F6_version : Fld Z h6 b6 "com/example/fidwalk/fidwalk/Qid" "version" "I" (.int (0 : Int32)) := D6 (Or.inr (hw _ (List.mem_of_getElem? (i := 17) rfl))) (ty := .int) (by decide)
  have F6_path : Fld Z h6 b6 "com/example/fidwalk/fidwalk/Qid" "path" "J" (.long (0 : Int64)) := D6 (Or.inr (hw _ (List.mem_of_getElem? (i := 19) rfl))) (ty := .long) (by decide)
  refine Done.of (g' := (mkF m 46 #[.val (.int i0), .val (.int i1), .val (.long j2), .second, .val (.int i4), .val (.long j5), .second, .val (.int x0), .val (.ref b1), .val (.ref b3), .unset, .unset, .unset, .unset, .unset, .unset] [(.ref b6)])) st6 ?_
  refine Done.of (T' := T6) (g' := (mkF m 54 #[.val (.int i0), .val (.int i1), .val (.long j2), .second, .val (.int i4), .val (.long j5), .second, .val (.int x0), .val (.ref b1), .val (.ref b3), .unset, .unset, .unset, .unset, .unset, .unset] [(.long j2), (.int i1), (.int (i0 ||| (128 : Int32))), (.ref b6), (.ref b6)])) (fun t k => ?_) ?_
  · show Steps p.tables e below (T6.setTop (mkF m 46 #[.val (.int i0), .val (.int i1), .val (.long j2), .second, .val (.int i4), .val (.long j5), .second, .val (.int x0), .val (.ref b1), .val (.ref b3), .unset, .unset, .unset, .unset, .unset, .unset] [(.ref b6)])) t
    refine XS.dup X6.here hx rfl (hb hby at_46) rfl rfl ?_
    show Steps p.tables e below (T6.setTop (mkF m 47 #[.val (.int i0), .val (.int i1), .val (.long j2), .second, .val (.int i4), .val (.long j5), .second, .val (.int x0), .val (.ref b1), .val (.ref b3), .unset, .unset, .unset, .unset, .unset, .unset] [(.ref b6), (.ref b6)])) t
    refine XS.iloadN X6.here hx rfl (hb hby at_47) rfl ?_
    show Steps p.tables e below (T6.setTop (mkF m 48 #[.val (.int i0), .val (.int i1), .val (.long j2), .second, .val (.int i4), .val (.long j5), .second, .val (.int x0), .val (.ref b1), .val (.ref b3), .unset, .unset, .unset, .unset, .unset, .unset] [(.int i0), (.ref b6), (.ref b6)])) t
    refine XS.sipush X6.here hx rfl (hb hby at_48) ?_
    show Steps p.tables e below (T6.setTop (mkF m 51 #[.val (.int i0), .val (.int i1), .val (.long j2), .second, .val (.int i4), .val (.long j5), .second, .val (.int x0), .val (.ref b1), .val (.ref b3), .unset, .unset, .unset, .unset, .unset, .unset] [(.int (128 : Int32)), (.int i0), (.ref b6), (.ref b6)])) t
    refine XS.ior X6.here hx rfl (hb hby at_51) rfl ?_
    show Steps p.tables e below (T6.setTop (mkF m 52 #[.val (.int i0), .val (.int i1), .val (.long j2), .second, .val (.int i4), .val (.long j5), .second, .val (.int x0), .val (.ref b1), .val (.ref b3), .unset, .unset, .unset, .unset, .unset, .unset] [(.int (i0 ||| (128 : Int32))), (.ref b6), (.ref b6)])) t
    refine XS.iloadN X6.here hx rfl (hb hby at_52) rfl ?_
    show Steps p.tables e below (T6.setTop (mkF m 53 #[.val (.int i0), .val (.int i1), .val (.long j2), .second, .val (.int i4), .val (.long j5), .second, .val (.int x0), .val (.ref b1), .val (.ref b3), .unset, .unset, .unset, .unset, .unset, .unset] [(.int i1), (.int (i0 ||| (128 : Int32))), (.ref b6), (.ref b6)])) t
    refine XS.lloadN X6.here hx rfl (hb hby at_53) rfl ?_
    exact k
  obtain ⟨_, _, ⟨T9, L9, k9, n9⟩, -, X9, ⟨Lc9, hQ9, l9, y9, z9⟩, st9⟩ := X6.specialBack hx (y := (⟨"com/example/fidwalk/fidwalk/Qid", "<init>", "(IIJ)V"⟩ : MethodName)) rfl hown (mvT hZ (hw _ (List.mem_of_getElem? (i := 3) rfl))) (mvT hZ (hw _ (List.mem_of_getElem? (i := 4) rfl))) (mvT hZ (hw _ (List.mem_of_getElem? (i := 5) rfl))) (by decide) (backOf (W := 1) (rm1 l Z a0 hw [] b6 (i0 ||| (128 : Int32)) i1 j2 h6 n0 ((.int (0 : Int32))) ((.int (0 : Int32))) ((.long (0 : Int64))) A6 F6_type F6_version F6_path g_b6) hZ (hw _ (List.mem_of_getElem? (i := 5) rfl)) (hw _ (List.mem_of_getElem? (i := 2) rfl)) (by decide) (by decide)) (g := (mkF m 54 #[.val (.int i0), .val (.int i1), .val (.long j2), .second, .val (.int i4), .val (.long j5), .second, .val (.int x0), .val (.ref b1), .val (.ref b3), .unset, .unset, .unset, .unset, .unset, .unset] [(.long j2), (.int i1), (.int (i0 ||| (128 : Int32))), (.ref b6), (.ref b6)])) rfl (by rw [hml]; rfl) (Steps.refl _) (a := b6) (argsL := [(.int (i0 ||| (128 : Int32))), (.int i1), (.long j2)]) (rest := [(.ref b6)]) (lenOf pd_1 rfl) rfl (by show 2 * 0 + _ ≤ _; exact Nat.le_of_eq rfl) (hb hby at_54) (fun _ _ => ⟨rfl, e6, (by decide : 3 + 0 ≤ _), (by decide : 9 + 0 ≤ _)⟩)
  dsimp only [Pt.U, Pt.locs, Pt.cells, Pt.slots] at X9 l9 y9 z9 st9 hQ9
  subst l9 y9 z9
  obtain ⟨h9, e9⟩ : ∃ z, T9.heap = z := ⟨_, rfl⟩
  rw [e9] at hQ9
  obtain ⟨rfl, N9q, K9, E9, F9_type, F9_version, F9_path⟩ := hQ9
  have f17 := f9.keep K9
  have f18 := f10.keep K9 (by simp only [List.mem_cons, List.not_mem_nil, or_false]; exact ne7)
  have f19 := f11.keep K9 (by simp only [List.mem_cons, List.not_mem_nil, or_false]; exact ne7)
  have f20 := f12.keep K9 (by simp only [List.mem_cons, List.not_mem_nil, or_false]; exact ne7)
  have f21 := f13.keep K9
  have f22 := f14.keep K9 (by simp only [List.mem_cons, List.not_mem_nil, or_false]; exact ne8)
  have f23 := f15.keep K9 (by simp only [List.mem_cons, List.not_mem_nil, or_false]; exact ne8)
  have f24 := f16.keep K9 (by simp only [List.mem_cons, List.not_mem_nil, or_false]; exact ne8)
  have N9 := Fr.app N5 N9q
  replace X9 : Stand p l e room_1 s m args below meth c T9 _ 3 9 := X9
  refine Done.of (g' := (mkF m 57 #[.val (.int i0), .val (.int i1), .val (.long j2), .second, .val (.int i4), .val (.long j5), .second, .val (.int x0), .val (.ref b1), .val (.ref b3), .unset, .unset, .unset, .unset, .unset, .unset] [(.ref b6)])) (fun t k => st9.trans k) ?_
  refine Done.of (T' := T9) (g' := (mkF m 59 #[.val (.int i0), .val (.int i1), .val (.long j2), .second, .val (.int i4), .val (.long j5), .second, .val (.int x0), .val (.ref b1), .val (.ref b3), .val (.ref b6), .unset, .unset, .unset, .unset, .unset] [])) (fun t k => ?_) ?_
  · show Steps p.tables e below (T9.setTop (mkF m 57 #[.val (.int i0), .val (.int i1), .val (.long j2), .second, .val (.int i4), .val (.long j5), .second, .val (.int x0), .val (.ref b1), .val (.ref b3), .unset, .unset, .unset, .unset, .unset, .unset] [(.ref b6)])) t
    refine XS.astore X9.here hx rfl (hb hby at_57) rfl rfl (l' := #[.val (.int i0), .val (.int i1), .val (.long j2), .second, .val (.int i4), .val (.long j5), .second, .val (.int x0), .val (.ref b1), .val (.ref b3), .val (.ref b6), .unset, .unset, .unset, .unset, .unset]) rfl ?_
    exact k
  obtain ⟨T10, h10, X10, e10, E10, A10, D10, -, st10⟩ := newO X9 hx hZ hown (hw _ (List.mem_of_getElem? (i := 0) rfl)) (hw _ (List.mem_of_getElem? (i := 1) rfl)) (hw _ (List.mem_of_getElem? (i := 2) rfl)) e9 (g := (mkF m 59 #[.val (.int i0), .val (.int i1), .val (.long j2), .second, .val (.int i4), .val (.long j5), .second, .val (.int x0), .val (.ref b1), .val (.ref b3), .val (.ref b6), .unset, .unset, .unset, .unset, .unset] [])) rfl (hb hby at_59) (by decide) (by decide)
  obtain ⟨b10, g10⟩ : ∃ z, z = h9.size := ⟨_, rfl⟩
  rw [← g10] at A10 D10 st10
  have ne11 : b1 ≠ b10 := Nat.ne_of_lt (Nat.lt_of_lt_of_le f17.lt (Nat.le_of_eq g10.symm))
  have ne12 : b3 ≠ b10 := Nat.ne_of_lt (Nat.lt_of_lt_of_le f21.lt (Nat.le_of_eq g10.symm))
  have ne13 : b6 ≠ b10 := Nat.ne_of_lt (Nat.lt_of_lt_of_le E9.lt (Nat.le_of_eq g10.symm))
  have g_b10 : n0 ≤ b10 := Nat.le_trans (Nat.le_trans (Nat.le_trans (Nat.le_trans (Nat.le_trans (Nat.le_trans (Nat.le_trans Z0 E1.1) K2.1) E3.1) K5.1) E6.1) K9.1) (Nat.le_of_eq g10.symm)
  have f25 := f17.ext E10
  have f26 := f18.ext E10
  have f27 := f19.ext E10
  have f28 := f20.ext E10
  have f29 := f21.ext E10
  have f30 := f22.ext E10
  have f31 := f23.ext E10
  have f32 := f24.ext E10
  have f33 := E9.ext E10
  have f34 := F9_type.ext E10
  have f35 := F9_version.ext E10
  have f36 := F9_path.ext E10
  have F10_type : Fld Z h10 b10 "com/example/fidwalk/fidwalk/Qid" "type" "I" (.int (0 : Int32)) := D10 (Or.inr (hw _ (List.mem_of_getElem? (i := 15) rfl))) (ty := .int) (by decide)
  have F10_version : Fld Z h10 b10 "com/example/fidwalk/fidwalk/Qid" "version" "I" (.int (0 : Int32)) := D10 (Or.inr (hw _ (List.mem_of_getElem? (i := 17) rfl))) (ty := .int) (by decide)
  have F10_path : Fld Z h10 b10 "com/example/fidwalk/fidwalk/Qid" "path" "J" (.long (0 : Int64)) := D10 (Or.inr (hw _ (List.mem_of_getElem? (i := 19) rfl))) (ty := .long) (by decide)
  refine Done.of (g' := (mkF m 62 #[.val (.int i0), .val (.int i1), .val (.long j2), .second, .val (.int i4), .val (.long j5), .second, .val (.int x0), .val (.ref b1), .val (.ref b3), .val (.ref b6), .unset, .unset, .unset, .unset, .unset] [(.ref b10)])) st10 ?_
  refine Done.of (T' := T10) (g' := (mkF m 72 #[.val (.int i0), .val (.int i1), .val (.long j2), .second, .val (.int i4), .val (.long j5), .second, .val (.int x0), .val (.ref b1), .val (.ref b3), .val (.ref b6), .unset, .unset, .unset, .unset, .unset] [(.long j5), (.int i4), (.int (i0 &&& (-129 : Int32))), (.ref b10), (.ref b10)])) (fun t k => ?_) ?_
  · show Steps p.tables e below (T10.setTop (mkF m 62 #[.val (.int i0), .val (.int i1), .val (.long j2), .second, .val (.int i4), .val (.long j5), .second, .val (.int x0), .val (.ref b1), .val (.ref b3), .val (.ref b6), .unset, .unset, .unset, .unset, .unset] [(.ref b10)])) t
    refine XS.dup X10.here hx rfl (hb hby at_62) rfl rfl ?_
    show Steps p.tables e below (T10.setTop (mkF m 63 #[.val (.int i0), .val (.int i1), .val (.long j2), .second, .val (.int i4), .val (.long j5), .second, .val (.int x0), .val (.ref b1), .val (.ref b3), .val (.ref b6), .unset, .unset, .unset, .unset, .unset] [(.ref b10), (.ref b10)])) t
    refine XS.iloadN X10.here hx rfl (hb hby at_63) rfl ?_
    show Steps p.tables e below (T10.setTop (mkF m 64 #[.val (.int i0), .val (.int i1), .val (.long j2), .second, .val (.int i4), .val (.long j5), .second, .val (.int x0), .val (.ref b1), .val (.ref b3), .val (.ref b6), .unset, .unset, .unset, .unset, .unset] [(.int i0), (.ref b10), (.ref b10)])) t
    refine XS.sipush X10.here hx rfl (hb hby at_64) ?_
    show Steps p.tables e below (T10.setTop (mkF m 67 #[.val (.int i0), .val (.int i1), .val (.long j2), .second, .val (.int i4), .val (.long j5), .second, .val (.int x0), .val (.ref b1), .val (.ref b3), .val (.ref b6), .unset, .unset, .unset, .unset, .unset] [(.int (-129 : Int32)), (.int i0), (.ref b10), (.ref b10)])) t
    refine XS.iand X10.here hx rfl (hb hby at_67) rfl ?_
    show Steps p.tables e below (T10.setTop (mkF m 68 #[.val (.int i0), .val (.int i1), .val (.long j2), .second, .val (.int i4), .val (.long j5), .second, .val (.int x0), .val (.ref b1), .val (.ref b3), .val (.ref b6), .unset, .unset, .unset, .unset, .unset] [(.int (i0 &&& (-129 : Int32))), (.ref b10), (.ref b10)])) t
    refine XS.iload X10.here hx rfl (hb hby at_68) rfl ?_
    show Steps p.tables e below (T10.setTop (mkF m 70 #[.val (.int i0), .val (.int i1), .val (.long j2), .second, .val (.int i4), .val (.long j5), .second, .val (.int x0), .val (.ref b1), .val (.ref b3), .val (.ref b6), .unset, .unset, .unset, .unset, .unset] [(.int i4), (.int (i0 &&& (-129 : Int32))), (.ref b10), (.ref b10)])) t
    refine XS.lload X10.here hx rfl (hb hby at_70) rfl ?_
    exact k
  obtain ⟨_, _, ⟨T14, L14, k14, n14⟩, -, X14, ⟨Lc14, hQ14, l14, y14, z14⟩, st14⟩ := X10.specialBack hx (y := (⟨"com/example/fidwalk/fidwalk/Qid", "<init>", "(IIJ)V"⟩ : MethodName)) rfl hown (mvT hZ (hw _ (List.mem_of_getElem? (i := 3) rfl))) (mvT hZ (hw _ (List.mem_of_getElem? (i := 4) rfl))) (mvT hZ (hw _ (List.mem_of_getElem? (i := 5) rfl))) (by decide) (backOf (W := 1) (rm1 l Z a0 hw [] b10 (i0 &&& (-129 : Int32)) i4 j5 h10 n0 ((.int (0 : Int32))) ((.int (0 : Int32))) ((.long (0 : Int64))) A10 F10_type F10_version F10_path g_b10) hZ (hw _ (List.mem_of_getElem? (i := 5) rfl)) (hw _ (List.mem_of_getElem? (i := 2) rfl)) (by decide) (by decide)) (g := (mkF m 72 #[.val (.int i0), .val (.int i1), .val (.long j2), .second, .val (.int i4), .val (.long j5), .second, .val (.int x0), .val (.ref b1), .val (.ref b3), .val (.ref b6), .unset, .unset, .unset, .unset, .unset] [(.long j5), (.int i4), (.int (i0 &&& (-129 : Int32))), (.ref b10), (.ref b10)])) rfl (by rw [hml]; rfl) (Steps.refl _) (a := b10) (argsL := [(.int (i0 &&& (-129 : Int32))), (.int i4), (.long j5)]) (rest := [(.ref b10)]) (lenOf pd_1 rfl) rfl (by show 2 * 0 + _ ≤ _; exact Nat.le_of_eq rfl) (hb hby at_72) (fun _ _ => ⟨rfl, e10, (by decide : 4 + 0 ≤ _), (by decide : 12 + 0 ≤ _)⟩)
  dsimp only [Pt.U, Pt.locs, Pt.cells, Pt.slots] at X14 l14 y14 z14 st14 hQ14
  subst l14 y14 z14
  obtain ⟨h14, e14⟩ : ∃ z, T14.heap = z := ⟨_, rfl⟩
  rw [e14] at hQ14
  obtain ⟨rfl, N14q, K14, E14, F14_type, F14_version, F14_path⟩ := hQ14
  have f37 := f25.keep K14
  have f38 := f26.keep K14 (by simp only [List.mem_cons, List.not_mem_nil, or_false]; exact ne11)
  have f39 := f27.keep K14 (by simp only [List.mem_cons, List.not_mem_nil, or_false]; exact ne11)
  have f40 := f28.keep K14 (by simp only [List.mem_cons, List.not_mem_nil, or_false]; exact ne11)
  have f41 := f29.keep K14
  have f42 := f30.keep K14 (by simp only [List.mem_cons, List.not_mem_nil, or_false]; exact ne12)
  have f43 := f31.keep K14 (by simp only [List.mem_cons, List.not_mem_nil, or_false]; exact ne12)
  have f44 := f32.keep K14 (by simp only [List.mem_cons, List.not_mem_nil, or_false]; exact ne12)
  have f45 := f33.keep K14
  have f46 := f34.keep K14 (by simp only [List.mem_cons, List.not_mem_nil, or_false]; exact ne13)
  have f47 := f35.keep K14 (by simp only [List.mem_cons, List.not_mem_nil, or_false]; exact ne13)
  have f48 := f36.keep K14 (by simp only [List.mem_cons, List.not_mem_nil, or_false]; exact ne13)
  have N14 := Fr.app N9 N14q
  replace X14 : Stand p l e room_1 s m args below meth c T14 _ 4 12 := X14
  refine Done.of (g' := (mkF m 75 #[.val (.int i0), .val (.int i1), .val (.long j2), .second, .val (.int i4), .val (.long j5), .second, .val (.int x0), .val (.ref b1), .val (.ref b3), .val (.ref b6), .unset, .unset, .unset, .unset, .unset] [(.ref b10)])) (fun t k => st14.trans k) ?_
  refine Done.of (T' := T14) (g' := (mkF m 79 #[.val (.int i0), .val (.int i1), .val (.long j2), .second, .val (.int i4), .val (.long j5), .second, .val (.int x0), .val (.ref b1), .val (.ref b3), .val (.ref b6), .val (.ref b10), .unset, .unset, .unset, .unset] [(.ref b1)])) (fun t k => ?_) ?_
  · show Steps p.tables e below (T14.setTop (mkF m 75 #[.val (.int i0), .val (.int i1), .val (.long j2), .second, .val (.int i4), .val (.long j5), .second, .val (.int x0), .val (.ref b1), .val (.ref b3), .val (.ref b6), .unset, .unset, .unset, .unset, .unset] [(.ref b10)])) t
    refine XS.astore X14.here hx rfl (hb hby at_75) rfl rfl (l' := #[.val (.int i0), .val (.int i1), .val (.long j2), .second, .val (.int i4), .val (.long j5), .second, .val (.int x0), .val (.ref b1), .val (.ref b3), .val (.ref b6), .val (.ref b10), .unset, .unset, .unset, .unset]) rfl ?_
    show Steps p.tables e below (T14.setTop (mkF m 77 #[.val (.int i0), .val (.int i1), .val (.long j2), .second, .val (.int i4), .val (.long j5), .second, .val (.int x0), .val (.ref b1), .val (.ref b3), .val (.ref b6), .val (.ref b10), .unset, .unset, .unset, .unset] [])) t
    refine XS.aload X14.here hx rfl (hb hby at_77) rfl rfl ?_
    exact k
  obtain ⟨cq15, kq15, q15a, q15b, q15c⟩ := isOf hZ e14 f37
  obtain ⟨_, _, ⟨T15, L15, k15, n15⟩, -, X15, ⟨Lc15, hQ15, l15, y15, z15⟩, st15⟩ := X14.virtualBack hx (y := (⟨"com/example/fidwalk/fidwalk/Qid", "isDirectory", "()Z"⟩ : MethodName)) (z := (⟨"com/example/fidwalk/fidwalk/Qid", "isDirectory", "()Z"⟩ : MethodName)) hown (mvT hZ (hw _ (List.mem_of_getElem? (i := 20) rfl))) (mvT hZ (hw _ (List.mem_of_getElem? (i := 21) rfl))) (notFace_of_selects (args := #[]) (mvT hZ (hw _ (List.mem_of_getElem? (i := 23) rfl)))) (mvT hZ (hw _ (List.mem_of_getElem? (i := 23) rfl))) (mvT hZ (hw _ (List.mem_of_getElem? (i := 22) rfl))) (by decide) (backOf (W := 0) (rm4 l Z a0 hw [] b1 h14 n0 i0 f38) hZ (hw _ (List.mem_of_getElem? (i := 24) rfl)) (hw _ (List.mem_of_getElem? (i := 2) rfl)) (by decide) (by decide)) q15a q15c (g := (mkF m 79 #[.val (.int i0), .val (.int i1), .val (.long j2), .second, .val (.int i4), .val (.long j5), .second, .val (.int x0), .val (.ref b1), .val (.ref b3), .val (.ref b6), .val (.ref b10), .unset, .unset, .unset, .unset] [(.ref b1)])) rfl (by rw [hml]; rfl) (Steps.refl _) (argsL := []) (rest := []) (lenOf pd_2 rfl) rfl (by show 2 * 0 + _ ≤ _; exact Nat.le_of_eq rfl) (hb hby at_79) (fun _ _ => ⟨rfl, e14, (by decide : 4 + 0 ≤ _), (by decide : 12 + 0 ≤ _)⟩)
  dsimp only [Pt.U, Pt.locs, Pt.cells, Pt.slots] at X15 l15 y15 z15 st15 hQ15
  subst l15 y15 z15
  obtain ⟨rfl, N15q, e15⟩ := hQ15
  have N15 := Fr.app N14 N15q
  replace X15 : Stand p l e room_1 s m args below meth c T15 _ 4 12 := X15
  refine Done.of (g' := (mkF m 82 #[.val (.int i0), .val (.int i1), .val (.long j2), .second, .val (.int i4), .val (.long j5), .second, .val (.int x0), .val (.ref b1), .val (.ref b3), .val (.ref b6), .val (.ref b10), .unset, .unset, .unset, .unset] [(.int (F4_0 i0))])) (fun t k => st15.trans k) ?_
  refine Done.of (T' := T15) (g' := (mkF m 86 #[.val (.int i0), .val (.int i1), .val (.long j2), .second, .val (.int i4), .val (.long j5), .second, .val (.int x0), .val (.ref b1), .val (.ref b3), .val (.ref b6), .val (.ref b10), .val (.int (F4_0 i0)), .unset, .unset, .unset] [(.ref b3)])) (fun t k => ?_) ?_
  · show Steps p.tables e below (T15.setTop (mkF m 82 #[.val (.int i0), .val (.int i1), .val (.long j2), .second, .val (.int i4), .val (.long j5), .second, .val (.int x0), .val (.ref b1), .val (.ref b3), .val (.ref b6), .val (.ref b10), .unset, .unset, .unset, .unset] [(.int (F4_0 i0))])) t
    refine XS.istore X15.here hx rfl (hb hby at_82) rfl (l' := #[.val (.int i0), .val (.int i1), .val (.long j2), .second, .val (.int i4), .val (.long j5), .second, .val (.int x0), .val (.ref b1), .val (.ref b3), .val (.ref b6), .val (.ref b10), .val (.int (F4_0 i0)), .unset, .unset, .unset]) rfl ?_
    show Steps p.tables e below (T15.setTop (mkF m 84 #[.val (.int i0), .val (.int i1), .val (.long j2), .second, .val (.int i4), .val (.long j5), .second, .val (.int x0), .val (.ref b1), .val (.ref b3), .val (.ref b6), .val (.ref b10), .val (.int (F4_0 i0)), .unset, .unset, .unset] [])) t
    refine XS.aload X15.here hx rfl (hb hby at_84) rfl rfl ?_
    exact k
  obtain ⟨cq16, kq16, q16a, q16b, q16c⟩ := isOf hZ e15 f41
  obtain ⟨_, _, ⟨T16, L16, k16, n16⟩, -, X16, ⟨Lc16, hQ16, l16, y16, z16⟩, st16⟩ := X15.virtualBack hx (y := (⟨"com/example/fidwalk/fidwalk/Qid", "isDirectory", "()Z"⟩ : MethodName)) (z := (⟨"com/example/fidwalk/fidwalk/Qid", "isDirectory", "()Z"⟩ : MethodName)) hown (mvT hZ (hw _ (List.mem_of_getElem? (i := 20) rfl))) (mvT hZ (hw _ (List.mem_of_getElem? (i := 21) rfl))) (notFace_of_selects (args := #[]) (mvT hZ (hw _ (List.mem_of_getElem? (i := 23) rfl)))) (mvT hZ (hw _ (List.mem_of_getElem? (i := 23) rfl))) (mvT hZ (hw _ (List.mem_of_getElem? (i := 22) rfl))) (by decide) (backOf (W := 0) (rm4 l Z a0 hw [] b3 h14 n0 i0 f42) hZ (hw _ (List.mem_of_getElem? (i := 24) rfl)) (hw _ (List.mem_of_getElem? (i := 2) rfl)) (by decide) (by decide)) q16a q16c (g := (mkF m 86 #[.val (.int i0), .val (.int i1), .val (.long j2), .second, .val (.int i4), .val (.long j5), .second, .val (.int x0), .val (.ref b1), .val (.ref b3), .val (.ref b6), .val (.ref b10), .val (.int (F4_0 i0)), .unset, .unset, .unset] [(.ref b3)])) rfl (by rw [hml]; rfl) (Steps.refl _) (argsL := []) (rest := []) (lenOf pd_2 rfl) rfl (by show 2 * 0 + _ ≤ _; exact Nat.le_of_eq rfl) (hb hby at_86) (fun _ _ => ⟨rfl, e15, (by decide : 4 + 0 ≤ _), (by decide : 12 + 0 ≤ _)⟩)
  dsimp only [Pt.U, Pt.locs, Pt.cells, Pt.slots] at X16 l16 y16 z16 st16 hQ16
  subst l16 y16 z16
  obtain ⟨rfl, N16q, e16⟩ := hQ16
  have N16 := Fr.app N15 N16q
  replace X16 : Stand p l e room_1 s m args below meth c T16 _ 4 12 := X16
  refine Done.of (g' := (mkF m 89 #[.val (.int i0), .val (.int i1), .val (.long j2), .second, .val (.int i4), .val (.long j5), .second, .val (.int x0), .val (.ref b1), .val (.ref b3), .val (.ref b6), .val (.ref b10), .val (.int (F4_0 i0)), .unset, .unset, .unset] [(.int (F4_0 i0))])) (fun t k => st16.trans k) ?_
  refine Done.of (T' := T16) (g' := (mkF m 93 #[.val (.int i0), .val (.int i1), .val (.long j2), .second, .val (.int i4), .val (.long j5), .second, .val (.int x0), .val (.ref b1), .val (.ref b3), .val (.ref b6), .val (.ref b10), .val (.int (F4_0 i0)), .val (.int (F4_0 i0)), .unset, .unset] [(.ref b6)])) (fun t k => ?_) ?_
  · show Steps p.tables e below (T16.setTop (mkF m 89 #[.val (.int i0), .val (.int i1), .val (.long j2), .second, .val (.int i4), .val (.long j5), .second, .val (.int x0), .val (.ref b1), .val (.ref b3), .val (.ref b6), .val (.ref b10), .val (.int (F4_0 i0)), .unset, .unset, .unset] [(.int (F4_0 i0))])) t
    refine XS.istore X16.here hx rfl (hb hby at_89) rfl (l' := #[.val (.int i0), .val (.int i1), .val (.long j2), .second, .val (.int i4), .val (.long j5), .second, .val (.int x0), .val (.ref b1), .val (.ref b3), .val (.ref b6), .val (.ref b10), .val (.int (F4_0 i0)), .val (.int (F4_0 i0)), .unset, .unset]) rfl ?_
    show Steps p.tables e below (T16.setTop (mkF m 91 #[.val (.int i0), .val (.int i1), .val (.long j2), .second, .val (.int i4), .val (.long j5), .second, .val (.int x0), .val (.ref b1), .val (.ref b3), .val (.ref b6), .val (.ref b10), .val (.int (F4_0 i0)), .val (.int (F4_0 i0)), .unset, .unset] [])) t
    refine XS.aload X16.here hx rfl (hb hby at_91) rfl rfl ?_
    exact k
  obtain ⟨cq17, kq17, q17a, q17b, q17c⟩ := isOf hZ e16 f45
  obtain ⟨_, _, ⟨T17, L17, k17, n17⟩, -, X17, ⟨Lc17, hQ17, l17, y17, z17⟩, st17⟩ := X16.virtualBack hx (y := (⟨"com/example/fidwalk/fidwalk/Qid", "isDirectory", "()Z"⟩ : MethodName)) (z := (⟨"com/example/fidwalk/fidwalk/Qid", "isDirectory", "()Z"⟩ : MethodName)) hown (mvT hZ (hw _ (List.mem_of_getElem? (i := 20) rfl))) (mvT hZ (hw _ (List.mem_of_getElem? (i := 21) rfl))) (notFace_of_selects (args := #[]) (mvT hZ (hw _ (List.mem_of_getElem? (i := 23) rfl)))) (mvT hZ (hw _ (List.mem_of_getElem? (i := 23) rfl))) (mvT hZ (hw _ (List.mem_of_getElem? (i := 22) rfl))) (by decide) (backOf (W := 0) (rm4 l Z a0 hw [] b6 h14 n0 (i0 ||| (128 : Int32)) f46) hZ (hw _ (List.mem_of_getElem? (i := 24) rfl)) (hw _ (List.mem_of_getElem? (i := 2) rfl)) (by decide) (by decide)) q17a q17c (g := (mkF m 93 #[.val (.int i0), .val (.int i1), .val (.long j2), .second, .val (.int i4), .val (.long j5), .second, .val (.int x0), .val (.ref b1), .val (.ref b3), .val (.ref b6), .val (.ref b10), .val (.int (F4_0 i0)), .val (.int (F4_0 i0)), .unset, .unset] [(.ref b6)])) rfl (by rw [hml]; rfl) (Steps.refl _) (argsL := []) (rest := []) (lenOf pd_2 rfl) rfl (by show 2 * 0 + _ ≤ _; exact Nat.le_of_eq rfl) (hb hby at_93) (fun _ _ => ⟨rfl, e16, (by decide : 4 + 0 ≤ _), (by decide : 12 + 0 ≤ _)⟩)
  dsimp only [Pt.U, Pt.locs, Pt.cells, Pt.slots] at X17 l17 y17 z17 st17 hQ17
  subst l17 y17 z17
  obtain ⟨rfl, N17q, e17⟩ := hQ17
  have N17 := Fr.app N16 N17q
  replace X17 : Stand p l e room_1 s m args below meth c T17 _ 4 12 := X17
  refine Done.of (g' := (mkF m 96 #[.val (.int i0), .val (.int i1), .val (.long j2), .second, .val (.int i4), .val (.long j5), .second, .val (.int x0), .val (.ref b1), .val (.ref b3), .val (.ref b6), .val (.ref b10), .val (.int (F4_0 i0)), .val (.int (F4_0 i0)), .unset, .unset] [(.int (F4_0 (i0 ||| (128 : Int32))))])) (fun t k => st17.trans k) ?_
  refine Done.of (T' := T17) (g' := (mkF m 100 #[.val (.int i0), .val (.int i1), .val (.long j2), .second, .val (.int i4), .val (.long j5), .second, .val (.int x0), .val (.ref b1), .val (.ref b3), .val (.ref b6), .val (.ref b10), .val (.int (F4_0 i0)), .val (.int (F4_0 i0)), .val (.int (F4_0 (i0 ||| (128 : Int32)))), .unset] [(.ref b10)])) (fun t k => ?_) ?_
  · show Steps p.tables e below (T17.setTop (mkF m 96 #[.val (.int i0), .val (.int i1), .val (.long j2), .second, .val (.int i4), .val (.long j5), .second, .val (.int x0), .val (.ref b1), .val (.ref b3), .val (.ref b6), .val (.ref b10), .val (.int (F4_0 i0)), .val (.int (F4_0 i0)), .unset, .unset] [(.int (F4_0 (i0 ||| (128 : Int32))))])) t
    refine XS.istore X17.here hx rfl (hb hby at_96) rfl (l' := #[.val (.int i0), .val (.int i1), .val (.long j2), .second, .val (.int i4), .val (.long j5), .second, .val (.int x0), .val (.ref b1), .val (.ref b3), .val (.ref b6), .val (.ref b10), .val (.int (F4_0 i0)), .val (.int (F4_0 i0)), .val (.int (F4_0 (i0 ||| (128 : Int32)))), .unset]) rfl ?_
    show Steps p.tables e below (T17.setTop (mkF m 98 #[.val (.int i0), .val (.int i1), .val (.long j2), .second, .val (.int i4), .val (.long j5), .second, .val (.int x0), .val (.ref b1), .val (.ref b3), .val (.ref b6), .val (.ref b10), .val (.int (F4_0 i0)), .val (.int (F4_0 i0)), .val (.int (F4_0 (i0 ||| (128 : Int32)))), .unset] [])) t
    refine XS.aload X17.here hx rfl (hb hby at_98) rfl rfl ?_
    exact k
  obtain ⟨cq18, kq18, q18a, q18b, q18c⟩ := isOf hZ e17 E14
  obtain ⟨_, _, ⟨T18, L18, k18, n18⟩, -, X18, ⟨Lc18, hQ18, l18, y18, z18⟩, st18⟩ := X17.virtualBack hx (y := (⟨"com/example/fidwalk/fidwalk/Qid", "isDirectory", "()Z"⟩ : MethodName)) (z := (⟨"com/example/fidwalk/fidwalk/Qid", "isDirectory", "()Z"⟩ : MethodName)) hown (mvT hZ (hw _ (List.mem_of_getElem? (i := 20) rfl))) (mvT hZ (hw _ (List.mem_of_getElem? (i := 21) rfl))) (notFace_of_selects (args := #[]) (mvT hZ (hw _ (List.mem_of_getElem? (i := 23) rfl)))) (mvT hZ (hw _ (List.mem_of_getElem? (i := 23) rfl))) (mvT hZ (hw _ (List.mem_of_getElem? (i := 22) rfl))) (by decide) (backOf (W := 0) (rm4 l Z a0 hw [] b10 h14 n0 (i0 &&& (-129 : Int32)) F14_type) hZ (hw _ (List.mem_of_getElem? (i := 24) rfl)) (hw _ (List.mem_of_getElem? (i := 2) rfl)) (by decide) (by decide)) q18a q18c (g := (mkF m 100 #[.val (.int i0), .val (.int i1), .val (.long j2), .second, .val (.int i4), .val (.long j5), .second, .val (.int x0), .val (.ref b1), .val (.ref b3), .val (.ref b6), .val (.ref b10), .val (.int (F4_0 i0)), .val (.int (F4_0 i0)), .val (.int (F4_0 (i0 ||| (128 : Int32)))), .unset] [(.ref b10)])) rfl (by rw [hml]; rfl) (Steps.refl _) (argsL := []) (rest := []) (lenOf pd_2 rfl) rfl (by show 2 * 0 + _ ≤ _; exact Nat.le_of_eq rfl) (hb hby at_100) (fun _ _ => ⟨rfl, e17, (by decide : 4 + 0 ≤ _), (by decide : 12 + 0 ≤ _)⟩)
  dsimp only [Pt.U, Pt.locs, Pt.cells, Pt.slots] at X18 l18 y18 z18 st18 hQ18
  subst l18 y18 z18
  obtain ⟨rfl, N18q, e18⟩ := hQ18
  have N18 := Fr.app N17 N18q
  replace X18 : Stand p l e room_1 s m args below meth c T18 _ 4 12 := X18
  refine Done.of (g' := (mkF m 103 #[.val (.int i0), .val (.int i1), .val (.long j2), .second, .val (.int i4), .val (.long j5), .second, .val (.int x0), .val (.ref b1), .val (.ref b3), .val (.ref b6), .val (.ref b10), .val (.int (F4_0 i0)), .val (.int (F4_0 i0)), .val (.int (F4_0 (i0 ||| (128 : Int32)))), .unset] [(.int (F4_0 (i0 &&& (-129 : Int32))))])) (fun t k => st18.trans k) ?_
  refine Done.of (T' := T18) (g' := (mkF m 109 #[.val (.int i0), .val (.int i1), .val (.long j2), .second, .val (.int i4), .val (.long j5), .second, .val (.int x0), .val (.ref b1), .val (.ref b3), .val (.ref b6), .val (.ref b10), .val (.int (F4_0 i0)), .val (.int (F4_0 i0)), .val (.int (F4_0 (i0 ||| (128 : Int32)))), .val (.int (F4_0 (i0 &&& (-129 : Int32))))] [(.int x0), (.int (F4_0 i0))])) (fun t k => ?_) ?_
  · show Steps p.tables e below (T18.setTop (mkF m 103 #[.val (.int i0), .val (.int i1), .val (.long j2), .second, .val (.int i4), .val (.long j5), .second, .val (.int x0), .val (.ref b1), .val (.ref b3), .val (.ref b6), .val (.ref b10), .val (.int (F4_0 i0)), .val (.int (F4_0 i0)), .val (.int (F4_0 (i0 ||| (128 : Int32)))), .unset] [(.int (F4_0 (i0 &&& (-129 : Int32))))])) t
    refine XS.istore X18.here hx rfl (hb hby at_103) rfl (l' := #[.val (.int i0), .val (.int i1), .val (.long j2), .second, .val (.int i4), .val (.long j5), .second, .val (.int x0), .val (.ref b1), .val (.ref b3), .val (.ref b6), .val (.ref b10), .val (.int (F4_0 i0)), .val (.int (F4_0 i0)), .val (.int (F4_0 (i0 ||| (128 : Int32)))), .val (.int (F4_0 (i0 &&& (-129 : Int32))))]) rfl ?_
    show Steps p.tables e below (T18.setTop (mkF m 105 #[.val (.int i0), .val (.int i1), .val (.long j2), .second, .val (.int i4), .val (.long j5), .second, .val (.int x0), .val (.ref b1), .val (.ref b3), .val (.ref b6), .val (.ref b10), .val (.int (F4_0 i0)), .val (.int (F4_0 i0)), .val (.int (F4_0 (i0 ||| (128 : Int32)))), .val (.int (F4_0 (i0 &&& (-129 : Int32))))] [])) t
    refine XS.iload X18.here hx rfl (hb hby at_105) rfl ?_
    show Steps p.tables e below (T18.setTop (mkF m 107 #[.val (.int i0), .val (.int i1), .val (.long j2), .second, .val (.int i4), .val (.long j5), .second, .val (.int x0), .val (.ref b1), .val (.ref b3), .val (.ref b6), .val (.ref b10), .val (.int (F4_0 i0)), .val (.int (F4_0 i0)), .val (.int (F4_0 (i0 ||| (128 : Int32)))), .val (.int (F4_0 (i0 &&& (-129 : Int32))))] [(.int (F4_0 i0))])) t
    refine XS.iload X18.here hx rfl (hb hby at_107) rfl ?_
    exact k
  by_cases hc109_18 : (F4_0 i0) = x0
  · rw [if_pos hc109_18]
    refine Done.of (T' := T18) (g' := (mkF m 116 #[.val (.int i0), .val (.int i1), .val (.long j2), .second, .val (.int i4), .val (.long j5), .second, .val (.int x0), .val (.ref b1), .val (.ref b3), .val (.ref b6), .val (.ref b10), .val (.int (F4_0 i0)), .val (.int (F4_0 i0)), .val (.int (F4_0 (i0 ||| (128 : Int32)))), .val (.int (F4_0 (i0 &&& (-129 : Int32))))] [(.int x0), (.int (F4_0 i0))])) (fun t k => ?_) ?_
    · show Steps p.tables e below (T18.setTop (mkF m 109 #[.val (.int i0), .val (.int i1), .val (.long j2), .second, .val (.int i4), .val (.long j5), .second, .val (.int x0), .val (.ref b1), .val (.ref b3), .val (.ref b6), .val (.ref b10), .val (.int (F4_0 i0)), .val (.int (F4_0 i0)), .val (.int (F4_0 (i0 ||| (128 : Int32)))), .val (.int (F4_0 (i0 &&& (-129 : Int32))))] [(.int x0), (.int (F4_0 i0))])) t
      refine XS.icmpNo X18.here hx rfl (hb hby at_109) rfl (teq hc109_18).2 ?_
      show Steps p.tables e below (T18.setTop (mkF m 112 #[.val (.int i0), .val (.int i1), .val (.long j2), .second, .val (.int i4), .val (.long j5), .second, .val (.int x0), .val (.ref b1), .val (.ref b3), .val (.ref b6), .val (.ref b10), .val (.int (F4_0 i0)), .val (.int (F4_0 i0)), .val (.int (F4_0 (i0 ||| (128 : Int32)))), .val (.int (F4_0 (i0 &&& (-129 : Int32))))] [])) t
      refine XS.iload X18.here hx rfl (hb hby at_112) rfl ?_
      show Steps p.tables e below (T18.setTop (mkF m 114 #[.val (.int i0), .val (.int i1), .val (.long j2), .second, .val (.int i4), .val (.long j5), .second, .val (.int x0), .val (.ref b1), .val (.ref b3), .val (.ref b6), .val (.ref b10), .val (.int (F4_0 i0)), .val (.int (F4_0 i0)), .val (.int (F4_0 (i0 ||| (128 : Int32)))), .val (.int (F4_0 (i0 &&& (-129 : Int32))))] [(.int (F4_0 i0))])) t
      refine XS.iload X18.here hx rfl (hb hby at_114) rfl ?_
      exact k
    by_cases hc116_19 : (F4_0 i0) = x0
    · rw [if_pos hc116_19]
      refine Done.of (T' := T18) (g' := (mkF m 121 #[.val (.int i0), .val (.int i1), .val (.long j2), .second, .val (.int i4), .val (.long j5), .second, .val (.int x0), .val (.ref b1), .val (.ref b3), .val (.ref b6), .val (.ref b10), .val (.int (F4_0 i0)), .val (.int (F4_0 i0)), .val (.int (F4_0 (i0 ||| (128 : Int32)))), .val (.int (F4_0 (i0 &&& (-129 : Int32))))] [(.int (F4_0 (i0 ||| (128 : Int32))))])) (fun t k => ?_) ?_
      · show Steps p.tables e below (T18.setTop (mkF m 116 #[.val (.int i0), .val (.int i1), .val (.long j2), .second, .val (.int i4), .val (.long j5), .second, .val (.int x0), .val (.ref b1), .val (.ref b3), .val (.ref b6), .val (.ref b10), .val (.int (F4_0 i0)), .val (.int (F4_0 i0)), .val (.int (F4_0 (i0 ||| (128 : Int32)))), .val (.int (F4_0 (i0 &&& (-129 : Int32))))] [(.int x0), (.int (F4_0 i0))])) t
        refine XS.icmpNo X18.here hx rfl (hb hby at_116) rfl (teq hc116_19).2 ?_
        show Steps p.tables e below (T18.setTop (mkF m 119 #[.val (.int i0), .val (.int i1), .val (.long j2), .second, .val (.int i4), .val (.long j5), .second, .val (.int x0), .val (.ref b1), .val (.ref b3), .val (.ref b6), .val (.ref b10), .val (.int (F4_0 i0)), .val (.int (F4_0 i0)), .val (.int (F4_0 (i0 ||| (128 : Int32)))), .val (.int (F4_0 (i0 &&& (-129 : Int32))))] [])) t
        refine XS.iload X18.here hx rfl (hb hby at_119) rfl ?_
        exact k
      by_cases hc121_20 : (F4_0 (i0 ||| (128 : Int32))) = (0 : Int32)
      · rw [if_pos hc121_20]
        refine Done.of (T' := T18) (g' := (mkF m 134 #[.val (.int i0), .val (.int i1), .val (.long j2), .second, .val (.int i4), .val (.long j5), .second, .val (.int x0), .val (.ref b1), .val (.ref b3), .val (.ref b6), .val (.ref b10), .val (.int (F4_0 i0)), .val (.int (F4_0 i0)), .val (.int (F4_0 (i0 ||| (128 : Int32)))), .val (.int (F4_0 (i0 &&& (-129 : Int32))))] [(.int (0 : Int32))])) (fun t k => ?_) ?_
        · show Steps p.tables e below (T18.setTop (mkF m 121 #[.val (.int i0), .val (.int i1), .val (.long j2), .second, .val (.int i4), .val (.long j5), .second, .val (.int x0), .val (.ref b1), .val (.ref b3), .val (.ref b6), .val (.ref b10), .val (.int (F4_0 i0)), .val (.int (F4_0 i0)), .val (.int (F4_0 (i0 ||| (128 : Int32)))), .val (.int (F4_0 (i0 &&& (-129 : Int32))))] [(.int (F4_0 (i0 ||| (128 : Int32))))])) t
          refine XS.ifYes X18.here hx rfl (pc0 := 121) (pc' := 133) rfl (hb hby at_121) rfl ((if0 _ _).trans (teq hc121_20).1) (by decide) (by decide) ?_
          show Steps p.tables e below (T18.setTop (mkF m 133 #[.val (.int i0), .val (.int i1), .val (.long j2), .second, .val (.int i4), .val (.long j5), .second, .val (.int x0), .val (.ref b1), .val (.ref b3), .val (.ref b6), .val (.ref b10), .val (.int (F4_0 i0)), .val (.int (F4_0 i0)), .val (.int (F4_0 (i0 ||| (128 : Int32)))), .val (.int (F4_0 (i0 &&& (-129 : Int32))))] [])) t
          refine XS.iconst X18.here hx rfl (hb hby at_133) ?_
          exact k
        exact doneN (t := .boolean) X18 (by simp) hx hret hlk (hb hby at_134) ⟨rfl, N18⟩ (by decide) (by decide)
      · rw [if_neg hc121_20]
        refine Done.of (T' := T18) (g' := (mkF m 126 #[.val (.int i0), .val (.int i1), .val (.long j2), .second, .val (.int i4), .val (.long j5), .second, .val (.int x0), .val (.ref b1), .val (.ref b3), .val (.ref b6), .val (.ref b10), .val (.int (F4_0 i0)), .val (.int (F4_0 i0)), .val (.int (F4_0 (i0 ||| (128 : Int32)))), .val (.int (F4_0 (i0 &&& (-129 : Int32))))] [(.int (F4_0 (i0 &&& (-129 : Int32))))])) (fun t k => ?_) ?_
        · show Steps p.tables e below (T18.setTop (mkF m 121 #[.val (.int i0), .val (.int i1), .val (.long j2), .second, .val (.int i4), .val (.long j5), .second, .val (.int x0), .val (.ref b1), .val (.ref b3), .val (.ref b6), .val (.ref b10), .val (.int (F4_0 i0)), .val (.int (F4_0 i0)), .val (.int (F4_0 (i0 ||| (128 : Int32)))), .val (.int (F4_0 (i0 &&& (-129 : Int32))))] [(.int (F4_0 (i0 ||| (128 : Int32))))])) t
          refine XS.ifNo X18.here hx rfl (hb hby at_121) rfl ((if0 _ _).trans (feq hc121_20).1) ?_
          show Steps p.tables e below (T18.setTop (mkF m 124 #[.val (.int i0), .val (.int i1), .val (.long j2), .second, .val (.int i4), .val (.long j5), .second, .val (.int x0), .val (.ref b1), .val (.ref b3), .val (.ref b6), .val (.ref b10), .val (.int (F4_0 i0)), .val (.int (F4_0 i0)), .val (.int (F4_0 (i0 ||| (128 : Int32)))), .val (.int (F4_0 (i0 &&& (-129 : Int32))))] [])) t
          refine XS.iload X18.here hx rfl (hb hby at_124) rfl ?_
          exact k
        by_cases hc126_21 : (F4_0 (i0 &&& (-129 : Int32))) = (0 : Int32)
        · rw [if_pos hc126_21]
          refine Done.of (T' := T18) (g' := (mkF m 134 #[.val (.int i0), .val (.int i1), .val (.long j2), .second, .val (.int i4), .val (.long j5), .second, .val (.int x0), .val (.ref b1), .val (.ref b3), .val (.ref b6), .val (.ref b10), .val (.int (F4_0 i0)), .val (.int (F4_0 i0)), .val (.int (F4_0 (i0 ||| (128 : Int32)))), .val (.int (F4_0 (i0 &&& (-129 : Int32))))] [(.int (1 : Int32))])) (fun t k => ?_) ?_
          · show Steps p.tables e below (T18.setTop (mkF m 126 #[.val (.int i0), .val (.int i1), .val (.long j2), .second, .val (.int i4), .val (.long j5), .second, .val (.int x0), .val (.ref b1), .val (.ref b3), .val (.ref b6), .val (.ref b10), .val (.int (F4_0 i0)), .val (.int (F4_0 i0)), .val (.int (F4_0 (i0 ||| (128 : Int32)))), .val (.int (F4_0 (i0 &&& (-129 : Int32))))] [(.int (F4_0 (i0 &&& (-129 : Int32))))])) t
            refine XS.ifNo X18.here hx rfl (hb hby at_126) rfl ((if0 _ _).trans (teq hc126_21).2) ?_
            show Steps p.tables e below (T18.setTop (mkF m 129 #[.val (.int i0), .val (.int i1), .val (.long j2), .second, .val (.int i4), .val (.long j5), .second, .val (.int x0), .val (.ref b1), .val (.ref b3), .val (.ref b6), .val (.ref b10), .val (.int (F4_0 i0)), .val (.int (F4_0 i0)), .val (.int (F4_0 (i0 ||| (128 : Int32)))), .val (.int (F4_0 (i0 &&& (-129 : Int32))))] [])) t
            refine XS.iconst X18.here hx rfl (hb hby at_129) ?_
            show Steps p.tables e below (T18.setTop (mkF m 130 #[.val (.int i0), .val (.int i1), .val (.long j2), .second, .val (.int i4), .val (.long j5), .second, .val (.int x0), .val (.ref b1), .val (.ref b3), .val (.ref b6), .val (.ref b10), .val (.int (F4_0 i0)), .val (.int (F4_0 i0)), .val (.int (F4_0 (i0 ||| (128 : Int32)))), .val (.int (F4_0 (i0 &&& (-129 : Int32))))] [(.int (1 : Int32))])) t
            refine XS.goto X18.here hx rfl (pc0 := 130) (pc' := 134) rfl (hb hby at_130) (by decide) (by decide) ?_
            exact k
          exact doneN (t := .boolean) X18 (by simp) hx hret hlk (hb hby at_134) ⟨rfl, N18⟩ (by decide) (by decide)
        · rw [if_neg hc126_21]
          refine Done.of (T' := T18) (g' := (mkF m 134 #[.val (.int i0), .val (.int i1), .val (.long j2), .second, .val (.int i4), .val (.long j5), .second, .val (.int x0), .val (.ref b1), .val (.ref b3), .val (.ref b6), .val (.ref b10), .val (.int (F4_0 i0)), .val (.int (F4_0 i0)), .val (.int (F4_0 (i0 ||| (128 : Int32)))), .val (.int (F4_0 (i0 &&& (-129 : Int32))))] [(.int (0 : Int32))])) (fun t k => ?_) ?_
          · show Steps p.tables e below (T18.setTop (mkF m 126 #[.val (.int i0), .val (.int i1), .val (.long j2), .second, .val (.int i4), .val (.long j5), .second, .val (.int x0), .val (.ref b1), .val (.ref b3), .val (.ref b6), .val (.ref b10), .val (.int (F4_0 i0)), .val (.int (F4_0 i0)), .val (.int (F4_0 (i0 ||| (128 : Int32)))), .val (.int (F4_0 (i0 &&& (-129 : Int32))))] [(.int (F4_0 (i0 &&& (-129 : Int32))))])) t
            refine XS.ifYes X18.here hx rfl (pc0 := 126) (pc' := 133) rfl (hb hby at_126) rfl ((if0 _ _).trans (feq hc126_21).2) (by decide) (by decide) ?_
            show Steps p.tables e below (T18.setTop (mkF m 133 #[.val (.int i0), .val (.int i1), .val (.long j2), .second, .val (.int i4), .val (.long j5), .second, .val (.int x0), .val (.ref b1), .val (.ref b3), .val (.ref b6), .val (.ref b10), .val (.int (F4_0 i0)), .val (.int (F4_0 i0)), .val (.int (F4_0 (i0 ||| (128 : Int32)))), .val (.int (F4_0 (i0 &&& (-129 : Int32))))] [])) t
            refine XS.iconst X18.here hx rfl (hb hby at_133) ?_
            exact k
          exact doneN (t := .boolean) X18 (by simp) hx hret hlk (hb hby at_134) ⟨rfl, N18⟩ (by decide) (by decide)
    · rw [if_neg hc116_19]
      refine Done.of (T' := T18) (g' := (mkF m 134 #[.val (.int i0), .val (.int i1), .val (.long j2), .second, .val (.int i4), .val (.long j5), .second, .val (.int x0), .val (.ref b1), .val (.ref b3), .val (.ref b6), .val (.ref b10), .val (.int (F4_0 i0)), .val (.int (F4_0 i0)), .val (.int (F4_0 (i0 ||| (128 : Int32)))), .val (.int (F4_0 (i0 &&& (-129 : Int32))))] [(.int (0 : Int32))])) (fun t k => ?_) ?_
      · show Steps p.tables e below (T18.setTop (mkF m 116 #[.val (.int i0), .val (.int i1), .val (.long j2), .second, .val (.int i4), .val (.long j5), .second, .val (.int x0), .val (.ref b1), .val (.ref b3), .val (.ref b6), .val (.ref b10), .val (.int (F4_0 i0)), .val (.int (F4_0 i0)), .val (.int (F4_0 (i0 ||| (128 : Int32)))), .val (.int (F4_0 (i0 &&& (-129 : Int32))))] [(.int x0), (.int (F4_0 i0))])) t
        refine XS.icmpYes X18.here hx rfl (pc0 := 116) (pc' := 133) rfl (hb hby at_116) rfl (feq hc116_19).2 (by decide) (by decide) ?_
        show Steps p.tables e below (T18.setTop (mkF m 133 #[.val (.int i0), .val (.int i1), .val (.long j2), .second, .val (.int i4), .val (.long j5), .second, .val (.int x0), .val (.ref b1), .val (.ref b3), .val (.ref b6), .val (.ref b10), .val (.int (F4_0 i0)), .val (.int (F4_0 i0)), .val (.int (F4_0 (i0 ||| (128 : Int32)))), .val (.int (F4_0 (i0 &&& (-129 : Int32))))] [])) t
        refine XS.iconst X18.here hx rfl (hb hby at_133) ?_
        exact k
      exact doneN (t := .boolean) X18 (by simp) hx hret hlk (hb hby at_134) ⟨rfl, N18⟩ (by decide) (by decide)
  · rw [if_neg hc109_18]
    refine Done.of (T' := T18) (g' := (mkF m 134 #[.val (.int i0), .val (.int i1), .val (.long j2), .second, .val (.int i4), .val (.long j5), .second, .val (.int x0), .val (.ref b1), .val (.ref b3), .val (.ref b6), .val (.ref b10), .val (.int (F4_0 i0)), .val (.int (F4_0 i0)), .val (.int (F4_0 (i0 ||| (128 : Int32)))), .val (.int (F4_0 (i0 &&& (-129 : Int32))))] [(.int (0 : Int32))])) (fun t k => ?_) ?_
    · show Steps p.tables e below (T18.setTop (mkF m 109 #[.val (.int i0), .val (.int i1), .val (.long j2), .second, .val (.int i4), .val (.long j5), .second, .val (.int x0), .val (.ref b1), .val (.ref b3), .val (.ref b6), .val (.ref b10), .val (.int (F4_0 i0)), .val (.int (F4_0 i0)), .val (.int (F4_0 (i0 ||| (128 : Int32)))), .val (.int (F4_0 (i0 &&& (-129 : Int32))))] [(.int x0), (.int (F4_0 i0))])) t
      refine XS.icmpYes X18.here hx rfl (pc0 := 109) (pc' := 133) rfl (hb hby at_109) rfl (feq hc109_18).2 (by decide) (by decide) ?_
      show Steps p.tables e below (T18.setTop (mkF m 133 #[.val (.int i0), .val (.int i1), .val (.long j2), .second, .val (.int i4), .val (.long j5), .second, .val (.int x0), .val (.ref b1), .val (.ref b3), .val (.ref b6), .val (.ref b10), .val (.int (F4_0 i0)), .val (.int (F4_0 i0)), .val (.int (F4_0 (i0 ||| (128 : Int32)))), .val (.int (F4_0 (i0 &&& (-129 : Int32))))] [])) t
      refine XS.iconst X18.here hx rfl (hb hby at_133) ?_
      exact k
    exact doneN (t := .boolean) X18 (by simp) hx hret hlk (hb hby at_134) ⟨rfl, N18⟩ (by decide) (by decide)
def F0_0 (p1 : Int32) (p2 : Int32) (q3 : Int64) (p4 : Int32) (q5 : Int64) : Int32 := (if (((p1.toUInt32 >>> ((7 : Int32) &&& 31).toUInt32).toInt32) &&& (1 : Int32)) = (1 : Int32) then (F0_15 p1 p2 q3 p4 q5 (1 : Int32)) else (F0_15 p1 p2 q3 p4 q5 (0 : Int32)))
set_option maxRecDepth 65536 in
set_option maxHeartbeats 40000000 in
theorem bk0_0 {p : Program} {l : Launch} {e : Env} {s : State} {m : MethodId} {args : Array Value} {below : List Frame} {meth : Method} {c : Code} {T0 : State} {locs : List Loc} {Z : State} {a0 : Array Value} {h0 : Heap} {n0 : Nat}
    (hx : p.tables.exec = Jvm.exec) (hZ : Z.Warmed39 s.vm) (hw : ∀ d ∈ tables_1, d.before a0 Z = true) (hby : c.code = code) (hml : c.maxLocals = 16) (hown : s.vm.findClass "com/example/fidwalk/fidwalk/QidIsDirectoryPinLaw" = some m.cls) (hnm : meth.name = "law") (hret : meth.sig.returnType = some .boolean) (hlk : meth.locks = false)
    (X0 : Stand p l e room_1 s m args below meth c T0 locs 0 0) (N0 : Fr n0 locs) (e0 : T0.heap = h0) (p1 : Int32) (p2 : Int32) (q3 : Int64) (p4 : Int32) (q5 : Int64) (Z0 : n0 ≤ h0.size) :
    Done p e below s room_1 (Ql n0 (.int (F0_0 p1 p2 q3 p4 q5))) T0 (mkF m 0 #[.val (.int p1), .val (.int p2), .val (.long q3), .second, .val (.int p4), .val (.long q5), .second, .unset, .unset, .unset, .unset, .unset, .unset, .unset, .unset, .unset] []) := by
  unfold F0_0
  refine Done.of (T' := T0) (g' := (mkF m 7 #[.val (.int p1), .val (.int p2), .val (.long q3), .second, .val (.int p4), .val (.long q5), .second, .unset, .unset, .unset, .unset, .unset, .unset, .unset, .unset, .unset] [(.int (1 : Int32)), (.int (((p1.toUInt32 >>> ((7 : Int32) &&& 31).toUInt32).toInt32) &&& (1 : Int32)))])) (fun t k => ?_) ?_
  · show Steps p.tables e below (T0.setTop (mkF m 0 #[.val (.int p1), .val (.int p2), .val (.long q3), .second, .val (.int p4), .val (.long q5), .second, .unset, .unset, .unset, .unset, .unset, .unset, .unset, .unset, .unset] [])) t
    refine XS.iloadN X0.here hx rfl (hb hby at_0) rfl ?_
    show Steps p.tables e below (T0.setTop (mkF m 1 #[.val (.int p1), .val (.int p2), .val (.long q3), .second, .val (.int p4), .val (.long q5), .second, .unset, .unset, .unset, .unset, .unset, .unset, .unset, .unset, .unset] [(.int p1)])) t
    refine XS.bipush X0.here hx rfl (hb hby at_1) ?_
    show Steps p.tables e below (T0.setTop (mkF m 3 #[.val (.int p1), .val (.int p2), .val (.long q3), .second, .val (.int p4), .val (.long q5), .second, .unset, .unset, .unset, .unset, .unset, .unset, .unset, .unset, .unset] [(.int (7 : Int32)), (.int p1)])) t
    refine XS.iushr X0.here hx rfl (hb hby at_3) rfl ?_
    show Steps p.tables e below (T0.setTop (mkF m 4 #[.val (.int p1), .val (.int p2), .val (.long q3), .second, .val (.int p4), .val (.long q5), .second, .unset, .unset, .unset, .unset, .unset, .unset, .unset, .unset, .unset] [(.int ((p1.toUInt32 >>> ((7 : Int32) &&& 31).toUInt32).toInt32))])) t
    refine XS.iconst X0.here hx rfl (hb hby at_4) ?_
    show Steps p.tables e below (T0.setTop (mkF m 5 #[.val (.int p1), .val (.int p2), .val (.long q3), .second, .val (.int p4), .val (.long q5), .second, .unset, .unset, .unset, .unset, .unset, .unset, .unset, .unset, .unset] [(.int (1 : Int32)), (.int ((p1.toUInt32 >>> ((7 : Int32) &&& 31).toUInt32).toInt32))])) t
    refine XS.iand X0.here hx rfl (hb hby at_5) rfl ?_
    show Steps p.tables e below (T0.setTop (mkF m 6 #[.val (.int p1), .val (.int p2), .val (.long q3), .second, .val (.int p4), .val (.long q5), .second, .unset, .unset, .unset, .unset, .unset, .unset, .unset, .unset, .unset] [(.int (((p1.toUInt32 >>> ((7 : Int32) &&& 31).toUInt32).toInt32) &&& (1 : Int32)))])) t
    refine XS.iconst X0.here hx rfl (hb hby at_6) ?_
    exact k
  by_cases hc7_0 : (((p1.toUInt32 >>> ((7 : Int32) &&& 31).toUInt32).toInt32) &&& (1 : Int32)) = (1 : Int32)
  · rw [if_pos hc7_0]
    refine Done.of (T' := T0) (g' := (mkF m 15 #[.val (.int p1), .val (.int p2), .val (.long q3), .second, .val (.int p4), .val (.long q5), .second, .unset, .unset, .unset, .unset, .unset, .unset, .unset, .unset, .unset] [(.int (1 : Int32))])) (fun t k => ?_) ?_
    · show Steps p.tables e below (T0.setTop (mkF m 7 #[.val (.int p1), .val (.int p2), .val (.long q3), .second, .val (.int p4), .val (.long q5), .second, .unset, .unset, .unset, .unset, .unset, .unset, .unset, .unset, .unset] [(.int (1 : Int32)), (.int (((p1.toUInt32 >>> ((7 : Int32) &&& 31).toUInt32).toInt32) &&& (1 : Int32)))])) t
      refine XS.icmpNo X0.here hx rfl (hb hby at_7) rfl (teq hc7_0).2 ?_
      show Steps p.tables e below (T0.setTop (mkF m 10 #[.val (.int p1), .val (.int p2), .val (.long q3), .second, .val (.int p4), .val (.long q5), .second, .unset, .unset, .unset, .unset, .unset, .unset, .unset, .unset, .unset] [])) t
      refine XS.iconst X0.here hx rfl (hb hby at_10) ?_
      show Steps p.tables e below (T0.setTop (mkF m 11 #[.val (.int p1), .val (.int p2), .val (.long q3), .second, .val (.int p4), .val (.long q5), .second, .unset, .unset, .unset, .unset, .unset, .unset, .unset, .unset, .unset] [(.int (1 : Int32))])) t
      refine XS.goto X0.here hx rfl (pc0 := 11) (pc' := 15) rfl (hb hby at_11) (by decide) (by decide) ?_
      exact k
    exact bk0_15 hx hZ hw hby hml hown hnm hret hlk X0 N0 e0 p1 p2 q3 p4 q5 (1 : Int32) Z0
  · rw [if_neg hc7_0]
    refine Done.of (T' := T0) (g' := (mkF m 15 #[.val (.int p1), .val (.int p2), .val (.long q3), .second, .val (.int p4), .val (.long q5), .second, .unset, .unset, .unset, .unset, .unset, .unset, .unset, .unset, .unset] [(.int (0 : Int32))])) (fun t k => ?_) ?_
    · show Steps p.tables e below (T0.setTop (mkF m 7 #[.val (.int p1), .val (.int p2), .val (.long q3), .second, .val (.int p4), .val (.long q5), .second, .unset, .unset, .unset, .unset, .unset, .unset, .unset, .unset, .unset] [(.int (1 : Int32)), (.int (((p1.toUInt32 >>> ((7 : Int32) &&& 31).toUInt32).toInt32) &&& (1 : Int32)))])) t
      refine XS.icmpYes X0.here hx rfl (pc0 := 7) (pc' := 14) rfl (hb hby at_7) rfl (feq hc7_0).2 (by decide) (by decide) ?_
      show Steps p.tables e below (T0.setTop (mkF m 14 #[.val (.int p1), .val (.int p2), .val (.long q3), .second, .val (.int p4), .val (.long q5), .second, .unset, .unset, .unset, .unset, .unset, .unset, .unset, .unset, .unset] [])) t
      refine XS.iconst X0.here hx rfl (hb hby at_14) ?_
      exact k
    exact bk0_15 hx hZ hw hby hml hown hnm hret hlk X0 N0 e0 p1 p2 q3 p4 q5 (0 : Int32) Z0
theorem own_bits : ∀ i : Fin 32, (128 : Int32).toBitVec.getLsbD i.1 = decide (i.1 = 7) := by decide
theorem own_and (p : Int32) : ((p &&& 128) = 0) ↔ p.toBitVec.getLsbD 7 = false := by
  constructor
  · intro h
    have := congrArg (fun z : Int32 => z.toBitVec.getLsbD 7) h
    simpa using this
  · intro h
    apply Int32.toBitVec_inj.mp
    apply BitVec.eq_of_getLsbD_eq
    intro i hi
    rw [Int32.toBitVec_and, BitVec.getLsbD_and, own_bits ⟨i, hi⟩]
    by_cases q : i = 7
    · subst q; rw [h]; simp
    · simp [q]
theorem own_sh (p : Int32) : ((((p.toUInt32 >>> ((7 : Int32) &&& 31).toUInt32).toInt32) &&& 1) = 1) ↔ p.toBitVec.getLsbD 7 = true := by
  have hu := c_iushr p 7 7 (by decide) (by decide)
  have hm := c_mask ((p.toUInt32 >>> ((7 : Int32) &&& 31).toUInt32).toInt32) 1 1 (by decide) (by decide)
  have l1 : (1 : Int32).toInt = 1 := rfl
  have hb : p.toBitVec.getLsbD 7 = decide ((p.toInt % 4294967296) / 128 % 2 = 1) := by
    rw [BitVec.getLsbD, Nat.testBit_eq_decide_div_mod_eq]
    have : p.toInt = p.toBitVec.toInt := rfl
    rw [this, BitVec.toInt_eq_toNat_cond]
    have := p.toBitVec.isLt
    congr 1
    apply propext
    split <;> omega
  rw [← Int32.toInt_inj, hb, decide_eq_true_eq]
  omega
theorem own_law (p1 p2 : Int32) (q3 : Int64) (p4 : Int32) (q5 : Int64) : F0_0 p1 p2 q3 p4 q5 = 1 := by
  have c1 : F4_0 (p1 ||| 128) = 1 := by
    unfold F4_0; rw [if_neg]; rw [own_and]; simp [Int32.toBitVec_or, BitVec.getLsbD_or]
  have c2 : F4_0 (p1 &&& -129) = 0 := by
    unfold F4_0; rw [if_pos]; rw [own_and]; simp [Int32.toBitVec_and, BitVec.getLsbD_and]
  unfold F0_0 F0_15
  rw [c1, c2]
  by_cases h : p1.toBitVec.getLsbD 7 = true
  · have e : F4_0 p1 = 1 := by unfold F4_0; rw [if_neg]; rw [own_and, h]; decide
    rw [if_pos ((own_sh p1).mpr h), e]; decide
  · have e : F4_0 p1 = 0 := by unfold F4_0; rw [if_pos]; rw [own_and]; simpa using h
    rw [if_neg (fun q => h ((own_sh p1).mp q)), e]; decide
theorem ef_0 (m : MethodId) (p1 : Int32) (p2 : Int32) (q3 : Int64) (p4 : Int32) (q5 : Int64) : entryFrame m #[(.int p1), (.int p2), (.long q3), (.int p4), (.long q5)] maxLocals = mkF m 0 #[.val (.int p1), .val (.int p2), .val (.long q3), .second, .val (.int p4), .val (.long q5), .second, .unset, .unset, .unset, .unset, .unset, .unset, .unset, .unset, .unset] [] := by first | (simp [entryFrame, mkF, argsToLocals, Value.category, maxLocals]; done) | rfl
theorem pn_0 : plainName "com/example/fidwalk/fidwalk/QidIsDirectoryPinLaw" = true := by first | (simp [plainName, overriddenIn]; done) | decide +kernel
set_option maxRecDepth 65536 in
set_option maxHeartbeats 40000000 in
theorem rm0 (l : Launch) (Z : State) (a0 : Array Value) (hw : ∀ d ∈ tables_1, d.before a0 Z = true) (ws : List Jvm.Cond) (p1 : Int32) (p2 : Int32) (q3 : Int64) (p4 : Int32) (q5 : Int64) (h0 : Heap) (n0 : Nat) (Z0 : n0 ≤ h0.size) :
    MetFree l x (head1 (Jvm.Cond.code x code maxLocals ret :: ws) room_1) (fun a U => a = #[(.int p1), (.int p2), (.long q3), (.int p4), (.long q5)] ∧ Z.Warmed39 U.vm ∧ U.heap = h0) (fun _ _ _ _ _ => True) (fun _ U o U' => ∃ v L, o = .returned v ∧ (Ql n0 (.int 1)) v U'.heap L ∧ FrameEnd U o U' L room_1.cells room_1.slots) := by
  refine MetFree.of_bodySF (plainFor_of_name pn_0) hisR ?_
  intro p e s m args below meth c s₁ Bd hml0 hP hK
  obtain ⟨rfl, hZ, hh⟩ := hP
  have hown : s.vm.findClass "com/example/fidwalk/fidwalk/QidIsDirectoryPinLaw" = some m.cls := findClass_of_methodNamed Bd.named
  have hnm := (name_of_methodNamed Bd.named Bd.method).1
  have X0 : Stand p l e room_1 s m #[(.int p1), (.int p2), (.long q3), (.int p4), (.long q5)] below meth c s₁ [] 0 0 := Stand.of_body Bd
  have e0 : s₁.heap = h0 := by rw [← hh, Bd.state]; rfl
  have d := bk0_0 (n0 := n0) Bd.exec hZ hw Bd.bytes hml0 hown hnm Bd.returns (BodyLoose.notSynchronized Bd) X0 (Fr.nil n0) e0 p1 p2 q3 p4 q5 Z0
  rw [own_law p1 p2 q3 p4 q5] at d
  have d2 : Done p e below s room_1 (Ql n0 (.int 1)) s₁ (entryFrame m #[(.int p1), (.int p2), (.long q3), (.int p4), (.long q5)] maxLocals) := by rw [ef_0]; exact d
  exact d2
set_option maxRecDepth 65536 in
set_option maxHeartbeats 40000000 in
theorem comes_1 {Post : Tables → Env → Array Value → State → Outcome → State → Prop} (hpost : ∀ tb e args s v u, (limb_1_1.after args s (.returned v) u = true ∧ limb_1_2.after args s (.returned v) u = true ∧ True) → FrameEnd s (.returned v) u (Jvm.fieldLocs frame_1_writes args s ++ Jvm.arrayLocs frame_1_arrays args s ++ Jvm.staticLocs frame_1_statics s) 16 128 → Post tb e args s (.returned v) u) :
    ArmFor flags0 classFile x code maxLocals ret World_1 tables_1 room_1 Calls_1 rest_1 Pre_1 Post := by
  intro l hfl _ _ p e ha hc hk s m args below hf hA hF happ hP
  obtain ⟨hcalls, hrest, hpre⟩ := hP
  obtain ⟨-, -, -, hnamed, -, -, -, hat⟩ := (Spec.applies_iff hf).mp happ
  obtain ⟨hg, hn⟩ := and_e (Cond.before_iff.mp (show (Jvm.Cond.and given_1 narrow_1).before args s = true from hpre))
  obtain ⟨g0, r0⟩ := and_e hg
  obtain ⟨v0, r1⟩ := and_e r0
  obtain ⟨v1, r2⟩ := and_e r1
  obtain ⟨v2, r3⟩ := and_e r2
  obtain ⟨v3, r4⟩ := and_e r3
  obtain ⟨w0, w1, w2, w3, w4, rfl⟩ : ∃ w0 w1 w2 w3 w4 : Value, args = #[w0, w1, w2, w3, w4] := by
    have hs : args.size = 5 := by simpa [Cond.value, given_1] using g0
    obtain ⟨L⟩ := args
    match L, hs with
    | [w0, w1, w2, w3, w4], _ => exact ⟨w0, w1, w2, w3, w4, rfl⟩
  have hw := fun d (hd : d ∈ tables_1) => atoms_spec (ws := Jvm.Cond.code x code maxLocals ret :: tables_1) hat d (List.mem_cons_of_mem _ hd)
  obtain ⟨i0, ei0⟩ := is_v v0
  obtain rfl : w0 = (.int i0) := Option.some.inj ei0
  obtain ⟨i1, ei1⟩ := is_v v1
  obtain rfl : w1 = (.int i1) := Option.some.inj ei1
  obtain ⟨i2, ei2⟩ := isL_v v2
  obtain rfl : w2 = (.long i2) := Option.some.inj ei2
  obtain ⟨i3, ei3⟩ := is_v v3
  obtain rfl : w3 = (.int i3) := Option.some.inj ei3
  obtain ⟨i4, ei4⟩ := isL_v r4
  obtain rfl : w4 = (.long i4) := Option.some.inj ei4
  obtain ⟨n, o, h1, h2, h3, _, L, rfl, ⟨rfl, N⟩, hq⟩ := rm0 l s _ hw tables_1 i0 i1 i2 i3 i4 s.heap s.heap.size (Nat.le_refl _) p e ha hc hk s m _ below hf ((Spec.applies_iff_loose hf).mp happ).1 ⟨rfl, State.Warmed39.refl s, rfl⟩ trivial
  refine ⟨n, _, h1, h2, h3, hpost _ _ _ _ _ _ ⟨Cond.after_iff.mpr rfl, Cond.after_iff.mpr (eq_i res_at (Term.int_eval (1)) rfl), trivial⟩ ⟨hq.1, hq.2.1, (hq.2.2.sift fun y hy => Or.inr (N y hy)).mono (by decide) (by decide)⟩⟩
theorem main_1_1 : Claimed_1_1 := comes_1 fun _ _ _ _ _ _ h hF => ⟨h.1, hF⟩
theorem main_1_2 : Claimed_1_2 := comes_1 fun _ _ _ _ _ _ h hF => ⟨h.2.1, hF⟩
end Jvm.Pilot.@@N@@
namespace Jvm.Pilot.@@N@@
open Jvm Jvm.ClassFile Sem Op Lib Jvm.Free Jvm.Stand Jvm.Pilot.@@N@@.Jvm.D
/-! MADE BY PROGRAM (witnessworld.py) out of the Statement's table words and the real class files: 10 classes; the members and pool entries that the words name. The judged class is class 1, her method 1. -/
namespace start1
open Jvm.ClassFile
def u (s : String) : CpInfo := .utf8 (stringToUtf16 s)
/-- a pool by its gaps: so many unusable entries, then the entry; so many at the end -/
def gap : Nat → List CpInfo → List CpInfo
  | 0, r => r
  | n + 1, r => .unusable :: gap n r
def poolList (es : List (Nat × CpInfo)) (last : Nat) : List CpInfo := es.foldr (fun e r => gap e.1 (e.2 :: r)) (gap last [])
def pool (es : List (Nat × CpInfo)) (last : Nat) : Array CpInfo := ⟨poolList es last⟩
def fileOf (pool : Array CpInfo) (this : Nat) (attrs : Array Attribute := #[]) (ms : Array MethodInfo := #[]) (fl : Nat := 33) (sup : Nat := 0) (ifs : Array Nat := #[]) (fds : Array FieldInfo := #[]) : ClassFile where
  minorVersion := 0
  majorVersion := 65
  constantPool := pool
  accessFlags := fl
  thisClass := this
  superClass := sup
  interfaces := ifs
  fields := fds
  methods := ms
  attributes := attrs
def plain (name : String) (sup : Option ClassId) : Class where
  name := name
  kind := .ordinary
  loader := none
  accessFlags := 33
  super := sup
  interfaces := #[]
  cf := none
  fields := #[]
  methods := #[]
  instanceTypes := #[]
  staticTypes := #[]
  resolved := #[]
  callSites := []
  init := .initialized
  statics := none
  mirror := none

def pool0 : Array CpInfo := pool [(5, u "<init>"), (0, u "()V"), (1, .class_ 10), (1, u "java/lang/Object")] 113

def k0c0 : Code := { maxStack := 0, maxLocals := 1, code := object_method_1_code, exceptionTable := #[], attributes := #[] }
def k0m0 : Method := { name := "<init>", desc := "()V", sig := { parameters := [], returnType := none }, accessFlags := 1, code := some k0c0 }
/-- java/lang/Object -/
def k0 : Class := { plain "java/lang/Object" none with
  accessFlags := 33
  interfaces := #[]
  cf := some (fileOf pool0 8 #[] #[{ accessFlags := 1, nameIndex := 5, descriptorIndex := 6, attributes := #[] }] 33 0 #[] #[])
  fields := #[]
  methods := #[k0m0]
  instanceTypes := #[]
  staticTypes := #[]
  resolved := Array.replicate 124 none
  statics := none }

def pool1 : Array CpInfo := pool [(2, .class_ 4), (1, u "java/lang/Object"), (0, u "<init>"), (0, u "()V"), (0, .class_ 8), (0, u "com/example/fidwalk/fidwalk/Qid"), (0, .methodref 7 10), (0, .nameAndType 5 11), (0, u "(IIJ)V"), (0, .methodref 7 13), (0, .nameAndType 14 15), (0, u "isDirectory"), (0, u "()Z"), (0, .class_ 17), (0, u "com/example/fidwalk/fidwalk/QidIsDirectoryPinLaw"), (2, u "law"), (0, u "(IIJIJ)Z")] 3

def k1m0 : Method := { name := "<init>", desc := "()V", sig := { parameters := [], returnType := none }, accessFlags := 1, code := none }
def k1c1 : Code := { maxStack := 6, maxLocals := 16, code := code, exceptionTable := #[], attributes := #[] }
def k1m1 : Method := { name := "law", desc := "(IIJIJ)Z", sig := { parameters := [.int, .int, .long, .int, .long], returnType := some .boolean }, accessFlags := 9, code := some k1c1 }
/-- com/example/fidwalk/fidwalk/QidIsDirectoryPinLaw -/
def k1 : Class := { plain "com/example/fidwalk/fidwalk/QidIsDirectoryPinLaw" (some 0) with
  accessFlags := 49
  interfaces := #[]
  cf := some (fileOf pool1 16 #[] #[{ accessFlags := 1, nameIndex := 5, descriptorIndex := 6, attributes := #[] }, { accessFlags := 9, nameIndex := 20, descriptorIndex := 21, attributes := #[] }] 49 2 #[] #[])
  fields := #[]
  methods := #[k1m0, k1m1]
  instanceTypes := #[]
  staticTypes := #[]
  resolved := Array.replicate 25 none
  statics := none }

def pool2 : Array CpInfo := pool [(1, .methodref 2 3), (0, .class_ 4), (0, .nameAndType 5 6), (0, u "java/lang/Object"), (0, u "<init>"), (0, u "()V"), (0, .class_ 8), (0, u "java/lang/Record")] 13

def k2c0 : Code := { maxStack := 1, maxLocals := 1, code := jdk_30_method_1_code, exceptionTable := #[], attributes := #[] }
def k2m0 : Method := { name := "<init>", desc := "()V", sig := { parameters := [], returnType := none }, accessFlags := 4, code := some k2c0 }
/-- java/lang/Record -/
def k2 : Class := { plain "java/lang/Record" (some 0) with
  accessFlags := 1057
  interfaces := #[]
  cf := some (fileOf pool2 7 #[] #[{ accessFlags := 4, nameIndex := 5, descriptorIndex := 6, attributes := #[] }] 1057 2 #[] #[])
  fields := #[]
  methods := #[k2m0]
  instanceTypes := #[]
  staticTypes := #[]
  resolved := Array.replicate 22 none
  statics := none }

def pool3 : Array CpInfo := pool [(1, .methodref 2 3), (0, .class_ 4), (0, .nameAndType 5 6), (0, u "java/lang/Record"), (0, u "<init>"), (0, u "()V"), (0, .fieldref 8 9), (0, .class_ 10), (0, .nameAndType 11 12), (0, u "com/example/fidwalk/fidwalk/Qid"), (0, u "type"), (0, u "I"), (0, .fieldref 8 14), (0, .nameAndType 15 12), (0, u "version"), (0, .fieldref 8 17), (0, .nameAndType 18 19), (0, u "path"), (0, u "J"), (14, u "(IIJ)V"), (3, u "isDirectory"), (0, u "()Z")] 27

def k3c0 : Code := { maxStack := 3, maxLocals := 5, code := prog_56_method_1_code, exceptionTable := #[], attributes := #[] }
def k3m0 : Method := { name := "<init>", desc := "(IIJ)V", sig := { parameters := [.int, .int, .long], returnType := none }, accessFlags := 1, code := some k3c0 }
def k3c1 : Code := { maxStack := 2, maxLocals := 1, code := prog_56_method_2_code, exceptionTable := #[], attributes := #[] }
def k3m1 : Method := { name := "isDirectory", desc := "()Z", sig := { parameters := [], returnType := some .boolean }, accessFlags := 1, code := some k3c1 }
/-- com/example/fidwalk/fidwalk/Qid -/
def k3 : Class := { plain "com/example/fidwalk/fidwalk/Qid" (some 2) with
  accessFlags := 49
  interfaces := #[]
  cf := some (fileOf pool3 8 #[] #[{ accessFlags := 1, nameIndex := 5, descriptorIndex := 34, attributes := #[] }, { accessFlags := 1, nameIndex := 38, descriptorIndex := 39, attributes := #[] }] 49 2 #[] #[{ accessFlags := 18, nameIndex := 11, descriptorIndex := 12, attributes := #[] }, { accessFlags := 18, nameIndex := 15, descriptorIndex := 12, attributes := #[] }, { accessFlags := 18, nameIndex := 18, descriptorIndex := 19, attributes := #[] }])
  fields := #[{ name := "type", type := .int, accessFlags := 18, slot := 0, constantValue := 0 }, { name := "version", type := .int, accessFlags := 18, slot := 1, constantValue := 0 }, { name := "path", type := .long, accessFlags := 18, slot := 2, constantValue := 0 }]
  methods := #[k3m0, k3m1]
  instanceTypes := #[.int, .int, .long]
  staticTypes := #[]
  resolved := Array.replicate 67 none
  statics := none }

def pool4 : Array CpInfo := pool [(1, u "java/lang/Cloneable"), (0, .class_ 1), (0, u "java/lang/Object"), (0, .class_ 3)] 3

/-- java/lang/Cloneable -/
def k4 : Class := { plain "java/lang/Cloneable" (some 0) with
  accessFlags := 1537
  interfaces := #[]
  cf := some (fileOf pool4 2 #[] #[] 1537 4 #[] #[])
  fields := #[]
  methods := #[]
  instanceTypes := #[]
  staticTypes := #[]
  resolved := Array.replicate 8 none
  statics := none }

def pool5 : Array CpInfo := pool [(1, u "java/io/Serializable"), (0, .class_ 1), (0, u "java/lang/Object"), (0, .class_ 3)] 3

/-- java/io/Serializable -/
def k5 : Class := { plain "java/io/Serializable" (some 0) with
  accessFlags := 1537
  interfaces := #[]
  cf := some (fileOf pool5 2 #[] #[] 1537 4 #[] #[])
  fields := #[]
  methods := #[]
  instanceTypes := #[]
  staticTypes := #[]
  resolved := Array.replicate 8 none
  statics := none }

/-- the primitive byte -/
def k6 : Class := { plain "byte" none with kind := .primitive 'B', accessFlags := 0x411 }
/-- [B -/
def k7 : Class := { plain "[B" (some 0) with kind := .array 6 .byte, interfaces := #[4, 5], accessFlags := 1041 }

/-- the primitive int -/
def k8 : Class := { plain "int" none with kind := .primitive 'I', accessFlags := 0x411 }
/-- [I -/
def k9 : Class := { plain "[I" (some 0) with kind := .array 8 .int, interfaces := #[4, 5], accessFlags := 1041 }

def heap : Heap := #[]
def classes : Array Class := #[k0, k1, k2, k3, k4, k5, k6, k7, k8, k9]
def interned : List (Array UInt16 × Addr) := []
def slotsUsed : Nat := 0
def theMethod : MethodId := ⟨1, 1⟩
def args0 : Array Value := #[.int 5, .int 5, .long 5, .int 5, .long 5]
def aboutOver (below : List Frame) : State where
  vm := { classes := classes, interned := interned.toArray }
  heap := heap
  slotsUsed := slotsUsed
  threads := #[{ frames := .invoking theMethod args0 :: below }]
def below0 : List Frame := [.native { method := ⟨0, 0⟩, args := #[] }]
def about1 : State := aboutOver below0
def p0 : Program := .bare "" "" ""
def e0 : Env := launch0.env 0 0 0
theorem w_frames : about1.frames = Frame.invoking theMethod args0 :: below0 := rfl
set_option maxRecDepth 65536 in
theorem w_args : argsFit about1.vm theMethod args0 = true := by decide +kernel
set_option maxRecDepth 65536 in
theorem w_heap : heapFits about1 = true := by decide +kernel
set_option maxRecDepth 65536 in
theorem w_runnable : about1.curStatus? = some .runnable := by decide +kernel
set_option maxRecDepth 65536 in
theorem w_alone : about1.alone = true := by decide +kernel
set_option maxRecDepth 65536 in
theorem w_named : about1.methodNamed? x = some theMethod := by decide +kernel
set_option maxRecDepth 65536 in
theorem w_hears : about1.hears theMethod below0 = true := by decide +kernel
set_option maxRecDepth 65536 in
theorem w_ripe : about1.ripe theMethod args0 below0 = true := by decide +kernel
theorem w_running : about1.status = .running := rfl
set_option maxRecDepth 65536 in
theorem w_room : about1.hasRoom e0.platform room_1 = true :=
  launch0.hasRoom_least _ room_1 (by decide +kernel) (by decide +kernel) (by decide +kernel) (by decide +kernel) (by decide +kernel) (by decide +kernel)
theorem allAtoms_all (ts : List Jvm.Cond) (a : Array Jvm.Value) (st : Jvm.State) : (allAtoms ts).before a st = ts.all (fun c => c.before a st) := by
  induction ts with
  | nil => rfl
  | cons c t ih =>
    show (Jvm.Cond.and c (allAtoms t)).before a st = _
    rw [Jvm.Cond.before_and, ih, List.all_cons]
def words1 : List Jvm.Cond := Jvm.Cond.code x code maxLocals ret :: tables_1
/-- a 'code' word, met by the world's own term for the bytes: nothing is compared byte by byte -/
theorem code_word {y : MethodName} {bytes : ByteArray} {mx : Nat} {rt : Option FieldType} {a : Array Value} {s : State} {m : MethodId} {meth : Method} {c : Code} (h1 : s.methodNamed? y = some m) (h2 : s.vm.method? m = some meth) (h3 : meth.code = some c) (h4 : c.code = bytes)
    (h5 : (c.maxLocals == mx && c.exceptionTable.isEmpty && decide (c.maxStack ≤ mostOperands) && decide (meth.sig.returnType = rt) && !meth.locks && decide (parseMethodDescriptor y.desc = some meth.sig)) = true) : (Jvm.Cond.code y bytes mx rt).before a s = true := by
  simp only [Bool.and_eq_true, beq_iff_eq, Bool.not_eq_true', decide_eq_true_eq] at h5
  obtain ⟨⟨⟨⟨⟨g1, g2⟩, g3⟩, g4⟩, g5⟩, g6⟩ := h5
  simp [Cond.before, Cond.holds, Cond.value, h1, h2, h3, h4, g1, g2, g3, g4, g5, g6]
def isCode : Jvm.Cond → Bool
  | .code _ _ _ _ => true
  | _ => false
theorem all_split {L : List Jvm.Cond} {P : Jvm.Cond → Bool} (h1 : L.all (fun c => isCode c || P c) = true) (h2 : ∀ c ∈ L.filter isCode, P c = true) : L.all P = true := by
  refine List.all_eq_true.mpr fun c hc => ?_
  have h := List.all_eq_true.mp h1 c hc
  rcases Bool.eq_false_or_eq_true (isCode c) with hi | hi
  · exact h2 c (List.mem_filter.mpr ⟨hc, hi⟩)
  · simpa [hi] using h
set_option maxRecDepth 65536 in
theorem w_c0 : (Jvm.Cond.code x code maxLocals ret).before args0 about1 = true := code_word (m := ⟨1, 1⟩) (meth := k1m1) (c := k1c1) (by decide +kernel) rfl rfl rfl (by decide +kernel)
set_option maxRecDepth 65536 in
theorem w_c1 : (Jvm.Cond.code ({ cls := "com/example/fidwalk/fidwalk/Qid", name := "<init>", desc := "(IIJ)V" } : Jvm.MethodName) prog_56_method_1_code (5 : Nat) (Option.none : Option Jvm.ClassFile.FieldType)).before args0 about1 = true := code_word (m := ⟨3, 0⟩) (meth := k3m0) (c := k3c0) (by decide +kernel) rfl rfl rfl (by decide +kernel)
set_option maxRecDepth 65536 in
theorem w_c2 : (Jvm.Cond.code ({ cls := "java/lang/Record", name := "<init>", desc := "()V" } : Jvm.MethodName) jdk_30_method_1_code (1 : Nat) (Option.none : Option Jvm.ClassFile.FieldType)).before args0 about1 = true := code_word (m := ⟨2, 0⟩) (meth := k2m0) (c := k2c0) (by decide +kernel) rfl rfl rfl (by decide +kernel)
set_option maxRecDepth 65536 in
theorem w_c3 : (Jvm.Cond.code ({ cls := "java/lang/Object", name := "<init>", desc := "()V" } : Jvm.MethodName) object_method_1_code (1 : Nat) (Option.none : Option Jvm.ClassFile.FieldType)).before args0 about1 = true := code_word (m := ⟨0, 0⟩) (meth := k0m0) (c := k0c0) (by decide +kernel) rfl rfl rfl (by decide +kernel)
set_option maxRecDepth 65536 in
theorem w_c4 : (Jvm.Cond.code ({ cls := "com/example/fidwalk/fidwalk/Qid", name := "isDirectory", desc := "()Z" } : Jvm.MethodName) prog_56_method_2_code (1 : Nat) (Option.some Jvm.ClassFile.FieldType.boolean)).before args0 about1 = true := code_word (m := ⟨3, 1⟩) (meth := k3m1) (c := k3c1) (by decide +kernel) rfl rfl rfl (by decide +kernel)
def codes1 : List Jvm.Cond := [Jvm.Cond.code x code maxLocals ret, Jvm.Cond.code ({ cls := "com/example/fidwalk/fidwalk/Qid", name := "<init>", desc := "(IIJ)V" } : Jvm.MethodName) prog_56_method_1_code (5 : Nat) (Option.none : Option Jvm.ClassFile.FieldType), Jvm.Cond.code ({ cls := "java/lang/Record", name := "<init>", desc := "()V" } : Jvm.MethodName) jdk_30_method_1_code (1 : Nat) (Option.none : Option Jvm.ClassFile.FieldType), Jvm.Cond.code ({ cls := "java/lang/Object", name := "<init>", desc := "()V" } : Jvm.MethodName) object_method_1_code (1 : Nat) (Option.none : Option Jvm.ClassFile.FieldType), Jvm.Cond.code ({ cls := "com/example/fidwalk/fidwalk/Qid", name := "isDirectory", desc := "()Z" } : Jvm.MethodName) prog_56_method_2_code (1 : Nat) (Option.some Jvm.ClassFile.FieldType.boolean)]
set_option maxRecDepth 65536 in
theorem codes_eq : words1.filter isCode = codes1 := rfl
theorem w_codes : ∀ c ∈ words1.filter isCode, c.before args0 about1 = true := by
  rw [codes_eq]
  intro c hc
  simp only [codes1, List.mem_cons, List.not_mem_nil, or_false] at hc
  rcases hc with rfl | rfl | rfl | rfl | rfl
  · exact w_c0
  · exact w_c1
  · exact w_c2
  · exact w_c3
  · exact w_c4
set_option maxRecDepth 65536 in
theorem w_t1 : (words1.take 24).all (fun c => isCode c || c.before args0 about1) = true := by decide +kernel
set_option maxRecDepth 65536 in
theorem w_t2 : (words1.drop 24).all (fun c => isCode c || c.before args0 about1) = true := by decide +kernel
theorem w_tables : (allAtoms (Jvm.Cond.code x code maxLocals ret :: tables_1)).before args0 about1 = true := by
  rw [allAtoms_all]
  show words1.all (fun c => c.before args0 about1) = true
  refine all_split ?_ w_codes
  rw [← List.take_append_drop 24 words1, List.all_append, w_t1, w_t2]
  rfl
set_option maxRecDepth 65536 in
theorem w_case : (Jvm.Cond.and given_1 narrow_1).before args0 about1 = true := by decide +kernel
theorem w_applies : (headSpec (Jvm.Cond.code x code maxLocals ret :: tables_1) room_1).applies x e0.platform about1 = true :=
  (Spec.applies_iff w_frames).mpr ⟨w_running, w_runnable, w_alone, w_named, w_hears, w_ripe, w_room, w_tables⟩
theorem atStart : AtStart classFile x code maxLocals ret World_1 tables_1 room_1 Calls_1 rest_1 Pre_1 launch0 p0 e0 about1 theMethod args0 below0 :=
  ⟨lists_1, trivial, launch0.admits_env _ _ _, launch0.least_env, fairChoices_fair.cas, fairChoices_fair.clock, w_frames, w_args, w_heap, w_applies, trivial, trivial, w_case⟩
end start1
theorem witness_1 : WitnessClaimed_1 := ⟨start1.p0, start1.e0, start1.about1, start1.theMethod, start1.args0, start1.below0, start1.atStart⟩
end Jvm.Pilot.@@N@@
