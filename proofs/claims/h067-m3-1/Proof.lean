import JvmDerived
import JvmDerived.Pilot.@@N@@Statement
import JvmDerived.Pilot.@@N@@Code
set_option linter.unusedVariables false
set_option linter.unusedSimpArgs false
namespace Jvm.RoadKit
open Sem ClassFile Op Lib Jvm.Stand Jvm.Free Jvm.LawKit
section New
variable {p : Program} {l : Launch} {e : Env} {R : Room} {s : State} {m : MethodId} {args : Array Value} {below : List Frame} {meth : Method} {c : Code} {T : State} {locs : List Loc} {cells slots : Nat}
theorem retI (X : Stand p l e R s m args below meth c T locs cells slots) (hx : p.tables.exec = Jvm.exec) {pc : Nat} {Ls : Array Slot} {z : Int32} {rest : List Value} (hret : meth.sig.returnType = some .int) (hd : decode c.code pc = .ok (.ireturn, 1)) {fs : List Frame}
    (hl : ∀ (f : JFrame) (acts : List Action), f.method = m → f.locked = none → f.entered = [] → (doReturn e (T.setTop f) acts (some (.int z))).1 = T.setFrames fs) : Steps p.tables e below (T.setTop (mkF m pc Ls (.int z :: rest))) (T.setFrames fs) := by
  have hm' : T.vm.method? m = some meth := X.method'
  have hn : narrow .int (.int z) = .int z := rfl
  show Steps p.tables e below (T.setTop { method := m, pc := pc, locals := Ls, stack := _ :: rest, locked := none }) _
  jvm_step X.here [X.here.top, hx, hd, hm', hret, hn]
  first | (intro acts; rw [hl _ acts rfl rfl rfl]) | rw [hl _ _ rfl rfl rfl]
  exact Steps.refl _
theorem retA (X : Stand p l e R s m args below meth c T locs cells slots) (hx : p.tables.exec = Jvm.exec) {pc : Nat} {Ls : Array Slot} {z : Addr} {rest : List Value} {t : FieldType} (hret : meth.sig.returnType = some t) (ht : t.isReference = true) (hd : decode c.code pc = .ok (.areturn, 1)) {fs : List Frame}
    (hl : ∀ (f : JFrame) (acts : List Action), f.method = m → f.locked = none → f.entered = [] → (doReturn e (T.setTop f) acts (some (.ref z))).1 = T.setFrames fs) : Steps p.tables e below (T.setTop (mkF m pc Ls (.ref z :: rest))) (T.setFrames fs) := by
  have hm' : T.vm.method? m = some meth := X.method'
  show Steps p.tables e below (T.setTop { method := m, pc := pc, locals := Ls, stack := _ :: rest, locked := none }) _
  jvm_step X.here [X.here.top, hx, hd, hm', hret, ht, Value.isRef]
  first | (intro acts; rw [hl _ acts rfl rfl rfl]) | rw [hl _ _ rfl rfl rfl]
  exact Steps.refl _
theorem retJ (X : Stand p l e R s m args below meth c T locs cells slots) (hx : p.tables.exec = Jvm.exec) {pc : Nat} {Ls : Array Slot} {z : Int64} {rest : List Value} (hret : meth.sig.returnType = some .long) (hd : decode c.code pc = .ok (.lreturn, 1)) {fs : List Frame}
    (hl : ∀ (f : JFrame) (acts : List Action), f.method = m → f.locked = none → f.entered = [] → (doReturn e (T.setTop f) acts (some (.long z))).1 = T.setFrames fs) : Steps p.tables e below (T.setTop (mkF m pc Ls (.long z :: rest))) (T.setFrames fs) := by
  have hm' : T.vm.method? m = some meth := X.method'
  show Steps p.tables e below (T.setTop { method := m, pc := pc, locals := Ls, stack := _ :: rest, locked := none }) _
  jvm_step X.here [X.here.top, hx, hd, hm', hret]
  first | (intro acts; rw [hl _ acts rfl rfl rfl]) | rw [hl _ _ rfl rfl rfl]
  exact Steps.refl _
end New
end Jvm.RoadKit
namespace Jvm.Pilot.@@N@@
open Jvm Jvm.ClassFile Sem Op Lib Jvm.Free Jvm.Stand Jvm.LawKit Jvm.RoadKit Bundle Jvm.Pilot.@@N@@.Jvm.D
/-! My own frame of a walk: 'Done' says: from this frame the run ends, and Q holds of what came back, of the heap, and of the places written. -/
def Done (p : Program) (e : Env) (below : List Frame) (s : State) (R : Room) (Q : Option Value → Heap → List Loc → Prop) (T : State) (g : JFrame) : Prop :=
  ∃ s₂ o, Steps p.tables e below (T.setTop g) s₂ ∧ s₂.status = .running ∧ Ended s₂ below o ∧ ∃ v L, o = .returned v ∧ Q v s₂.heap L ∧ FrameEnd s o s₂ L R.cells R.slots
def Qp (h0 : Heap) (n0 : Nat) (z : Value) (v : Option Value) (h : Heap) (L : List Loc) : Prop := v = some z ∧ Fr n0 L ∧ h = h0
def Qv (h0 : Heap) (n0 : Nat) (v : Option Value) (h : Heap) (L : List Loc) : Prop := v = none ∧ Fr n0 L ∧ h = h0
def Ql (n0 : Nat) (z : Value) (v : Option Value) (h : Heap) (L : List Loc) : Prop := v = some z ∧ Fr n0 L
theorem Done.of {p : Program} {e : Env} {below : List Frame} {s : State} {R : Room} {Q : Option Value → Heap → List Loc → Prop} {T T' : State} {g g' : JFrame}
    (st : ∀ t, Steps p.tables e below (T'.setTop g') t → Steps p.tables e below (T.setTop g) t) (d : Done p e below s R Q T' g') : Done p e below s R Q T g := by
  obtain ⟨s₂, o, h1, h2⟩ := d
  exact ⟨s₂, o, st _ h1, h2⟩
section Ends
variable {p : Program} {l : Launch} {e : Env} {R : Room} {s : State} {m : MethodId} {args : Array Value} {below : List Frame} {meth : Method} {c : Code} {T : State} {locs : List Loc} {cells slots : Nat} {Q : Option Value → Heap → List Loc → Prop}
theorem doneI (X : Stand p l e R s m args below meth c T locs cells slots) (hx : p.tables.exec = Jvm.exec) {pc : Nat} {Ls : Array Slot} {z : Int32} {rest : List Value} (hret : meth.sig.returnType = some .int) (hlk : meth.locks = false) (hd : decode c.code pc = .ok (.ireturn, 1))
    (hQ : Q (some (.int z)) T.heap locs) (hc : cells ≤ R.cells) (hs : slots ≤ R.slots) : Done p e below s R Q T (mkF m pc Ls (.int z :: rest)) := by
  obtain ⟨fs, hr, hrun, hended, hW, hsame⟩ := X.leave (v := some (.int z)) (fun h => by rw [hret] at h; cases h) hlk
  exact ⟨_, _, retI X hx hret hd hr, hrun, hended, _, _, rfl, hQ, ⟨_, rfl⟩, hW, hsame.mono hc hs⟩
theorem doneN (t : FieldType) (X : Stand p l e R s m args below meth c T locs cells slots) (ht : t = .boolean ∨ t = .byte ∨ t = .char ∨ t = .short) (hx : p.tables.exec = Jvm.exec) {pc : Nat} {Ls : Array Slot} {z : Int32} {rest : List Value} (hret : meth.sig.returnType = some t) (hlk : meth.locks = false) (hd : decode c.code pc = .ok (.ireturn, 1))
    (hQ : Q (some (.int (nar t z))) T.heap locs) (hc : cells ≤ R.cells) (hs : slots ≤ R.slots) : Done p e below s R Q T (mkF m pc Ls (.int z :: rest)) := by
  obtain ⟨fs, hr, hrun, hended, hW, hsame⟩ := X.leave (v := some (.int (nar t z))) (fun h => by rw [hret] at h; cases h) hlk
  exact ⟨_, _, retN X hx hret ht hd hr, hrun, hended, _, _, rfl, hQ, ⟨_, rfl⟩, hW, hsame.mono hc hs⟩
theorem doneJ (X : Stand p l e R s m args below meth c T locs cells slots) (hx : p.tables.exec = Jvm.exec) {pc : Nat} {Ls : Array Slot} {z : Int64} {rest : List Value} (hret : meth.sig.returnType = some .long) (hlk : meth.locks = false) (hd : decode c.code pc = .ok (.lreturn, 1))
    (hQ : Q (some (.long z)) T.heap locs) (hc : cells ≤ R.cells) (hs : slots ≤ R.slots) : Done p e below s R Q T (mkF m pc Ls (.long z :: rest)) := by
  obtain ⟨fs, hr, hrun, hended, hW, hsame⟩ := X.leave (v := some (.long z)) (fun h => by rw [hret] at h; cases h) hlk
  exact ⟨_, _, retJ X hx hret hd hr, hrun, hended, _, _, rfl, hQ, ⟨_, rfl⟩, hW, hsame.mono hc hs⟩
theorem doneA (X : Stand p l e R s m args below meth c T locs cells slots) (hx : p.tables.exec = Jvm.exec) {pc : Nat} {Ls : Array Slot} {z : Addr} {rest : List Value} {t : FieldType} (hret : meth.sig.returnType = some t) (ht : t.isReference = true) (hlk : meth.locks = false) (hd : decode c.code pc = .ok (.areturn, 1))
    (hQ : Q (some (.ref z)) T.heap locs) (hc : cells ≤ R.cells) (hs : slots ≤ R.slots) : Done p e below s R Q T (mkF m pc Ls (.ref z :: rest)) := by
  obtain ⟨fs, hr, hrun, hended, hW, hsame⟩ := X.leave (v := some (.ref z)) (fun h => by rw [hret] at h; cases h) hlk
  exact ⟨_, _, retA X hx hret ht hd hr, hrun, hended, _, _, rfl, hQ, ⟨_, rfl⟩, hW, hsame.mono hc hs⟩
theorem doneV (X : Stand p l e R s m args below meth c T locs cells slots) (hx : p.tables.exec = Jvm.exec) {pc : Nat} {Ls : Array Slot} (hret : meth.sig.returnType = none) (hlk : meth.locks = false) (hd : decode c.code pc = .ok (.return_, 1))
    (hQ : Q none T.heap locs) (hc : cells ≤ R.cells) (hs : slots ≤ R.slots) : Done p e below s R Q T (mkF m pc Ls []) := by
  obtain ⟨fs, hr, hrun, hended, hW, hsame⟩ := X.leave (v := none) (fun _ => rfl) hlk
  exact ⟨_, _, X.returnOut hx hret hd hr, hrun, hended, _, _, rfl, hQ, ⟨_, rfl⟩, hW, hsame.mono hc hs⟩
end Ends
theorem lcLt_t {x y : Int64} (h : x < y) : ifCond.holds .lt (lcmpW x y) = true ∧ ifCond.holds .ge (lcmpW x y) = false := ⟨(if0 _ _).trans (tlt ((lw_lt x y).mpr h)).1, (if0 _ _).trans (tlt ((lw_lt x y).mpr h)).2.1⟩
theorem lcLt_f {x y : Int64} (h : ¬ x < y) : ifCond.holds .lt (lcmpW x y) = false ∧ ifCond.holds .ge (lcmpW x y) = true := ⟨(if0 _ _).trans (flt (fun q => h ((lw_lt x y).mp q))).1, (if0 _ _).trans (flt (fun q => h ((lw_lt x y).mp q))).2.1⟩
theorem lcGt_t {x y : Int64} (h : y < x) : ifCond.holds .gt (lcmpW x y) = true ∧ ifCond.holds .le (lcmpW x y) = false := ⟨(if0 _ _).trans (tlt ((lw_gt x y).mpr h)).2.2.1, (if0 _ _).trans (tlt ((lw_gt x y).mpr h)).2.2.2⟩
theorem lcGt_f {x y : Int64} (h : ¬ y < x) : ifCond.holds .gt (lcmpW x y) = false ∧ ifCond.holds .le (lcmpW x y) = true := ⟨(if0 _ _).trans (flt (fun q => h ((lw_gt x y).mp q))).2.2.1, (if0 _ _).trans (flt (fun q => h ((lw_gt x y).mp q))).2.2.2⟩
theorem lcEq_t {x y : Int64} (h : x = y) : ifCond.holds .eq (lcmpW x y) = true ∧ ifCond.holds .ne (lcmpW x y) = false := ⟨(if0 _ _).trans (teq ((lw_eq x y).mpr h)).1, (if0 _ _).trans (teq ((lw_eq x y).mpr h)).2⟩
theorem lcEq_f {x y : Int64} (h : ¬ x = y) : ifCond.holds .eq (lcmpW x y) = false ∧ ifCond.holds .ne (lcmpW x y) = true := ⟨(if0 _ _).trans (feq (fun q => h ((lw_eq x y).mp q))).1, (if0 _ _).trans (feq (fun q => h ((lw_eq x y).mp q))).2⟩
theorem own_selP {s : State} {args : Array Value} {y : MethodName} {n : Nat} (hins : (Cond.instantiable y.cls n).before args s = true) (hpriv : (Cond.privateMethod y).before args s = true) (hinst : (Cond.instanceMethod y).before args s = true) (hy : y.cls ≠ "java/lang/invoke/MethodHandle" ∧ y.cls ≠ "java/lang/invoke/VarHandle") :
    (Cond.selects y.cls y y).before args s = true := by
  obtain ⟨c, k, hc, hk, -, hniab, -, -⟩ := Cond.instantiable_spec hins
  exact selects_self_of_private hc hk (Bool.or_eq_false_iff.mp hniab).1 (Cond.privateMethod_at hpriv) hinst hy
theorem own_hat {c : Cell} {vs : List Int32} {j : Int32} (H : Has c (vs.map Value.int) (.int (0 : Int32))) (hin : ¬ (j < 0 ∨ c.slots.size ≤ j.toNatClampNeg)) : c.slots[j.toNatClampNeg]? = some (.int (vs.getD j.toNatClampNeg 0)) := by
  rw [H j.toNatClampNeg (Nat.lt_of_not_le fun q => hin (Or.inr q))]
  simp only [List.getD_eq_getElem?_getD, List.getElem?_map]
  cases vs[j.toNatClampNeg]? <;> rfl
theorem own_fin {n : Nat} (c : Int32) (h0 : 0 ≤ c.toInt) (h1 : c.toInt < n) : ∃ i : Fin n, c = Int32.ofInt (i.1 : Int) :=
  ⟨⟨c.toInt.toNat, by omega⟩, by show c = Int32.ofInt ((c.toInt.toNat : Nat) : Int); rw [Int.toNat_of_nonneg h0]; exact (Int32.ofInt_toInt c).symm⟩
theorem own_set (N i : Nat) (f : Nat → Int32) (v : Int32) : ((List.range N).map fun j => Value.int (f j)).set i (.int v) = (List.range N).map fun j => Value.int (if j = i then v else f j) := by
  apply List.ext_getElem
  · simp
  · intro k h1 h2
    rw [List.getElem_set]
    simp only [List.getElem_map, List.getElem_range]
    by_cases q : i = k
    · rw [if_pos q, if_pos q.symm]
    · rw [if_neg q, if_neg (Ne.symm q)]
theorem own_setA {Z : State} {h : Heap} {a : Addr} {k : ClassId} {ty : FieldType} {z : Int32} {N i : Nat} {f : Nat → Int32} {v : Int32} {dv : Value} (A : Arv Z h a k ty z (((List.range N).map fun j => Value.int (f j)).set i (.int v)) dv) :
    Arv Z h a k ty z ((List.range N).map fun j => Value.int (if j = i then v else f j)) dv := by rw [← own_set]; exact A
theorem own_hatF {c : Cell} {N : Nat} {f : Nat → Int32} {j : Int32} {d : Value} (H : Has c ((List.range N).map fun j => Value.int (f j)) d) (hN : c.slots.size = N) (hin : ¬ (j < 0 ∨ c.slots.size ≤ j.toNatClampNeg)) : c.slots[j.toNatClampNeg]? = some (.int (f j.toNatClampNeg)) := by
  have hl : j.toNatClampNeg < c.slots.size := Nat.lt_of_not_le fun q => hin (Or.inr q)
  rw [H j.toNatClampNeg hl, List.getD_eq_getElem?_getD, List.getElem?_map, List.getElem?_range (by omega)]
  rfl
theorem own_sz {c : Cell} {z : Int32} {N : Nat} (S : c.slots.size = z.toNatClampNeg) (h : z.toNatClampNeg = N := by decide) : c.slots.size = N := S.trans h
theorem own_len {c : Cell} {z j : Int32} {N : Nat} {f : Nat → Int32} (S : c.slots.size = z.toNatClampNeg) (hin : ¬ (j < 0 ∨ c.slots.size ≤ j.toNatClampNeg)) (h : z.toNatClampNeg = N := by decide) : j.toNatClampNeg < ((List.range N).map fun j => Value.int (f j)).length := by
  have : j.toNatClampNeg < c.slots.size := Nat.lt_of_not_le fun q => hin (Or.inr q)
  rw [List.length_map, List.length_range]; omega
theorem d2_0 : decode jdk_30_method_1_code 0 = .ok (.aload_n 0, 1) := by decide +kernel
theorem d2_1 : decode jdk_30_method_1_code 1 = .ok (.invokespecial 1, 3) := by decide +kernel
theorem d2_4 : decode jdk_30_method_1_code 4 = .ok (.return_, 1) := by decide +kernel
set_option maxRecDepth 65536 in
set_option maxHeartbeats 40000000 in
theorem bk2_0 {p : Program} {l : Launch} {e : Env} {s : State} {m : MethodId} {args : Array Value} {below : List Frame} {meth : Method} {c : Code} {T0 : State} {locs : List Loc} {Z : State} {a0 : Array Value} {h0 : Heap} {n0 : Nat}
    (hx : p.tables.exec = Jvm.exec) (hZ : Z.Warmed39 s.vm) (hw : ∀ d ∈ tables_1, d.before a0 Z = true) (hby : c.code = jdk_30_method_1_code) (hml : c.maxLocals = 1) (hown : s.vm.findClass "java/lang/Record" = some m.cls) (hnm : meth.name = "<init>") (hret : meth.sig.returnType = none) (hlk : meth.locks = false)
    (X0 : Stand p l e ({ frames := 1, cells := 0, slots := 0, locals := 12 } : Room) s m args below meth c T0 locs 0 0) (N0 : Fr n0 locs) (e0 : T0.heap = h0) (a1 : Addr) :
    Done p e below s ({ frames := 1, cells := 0, slots := 0, locals := 12 } : Room) (Qv h0 n0) T0 (mkF m 0 #[.val (.ref a1)] []) := by
  refine Done.of (T' := T0) (g' := (mkF m 1 #[.val (.ref a1)] [(.ref a1)])) (fun t k => ?_) ?_
  · show Steps p.tables e below (T0.setTop (mkF m 0 #[.val (.ref a1)] [])) t
    refine XS.aloadN X0.here hx rfl (hb hby d2_0) rfl rfl ?_
    exact k
  obtain ⟨T1, X1, e1, st1⟩ := initO X0 hx hZ hown (hw _ (List.mem_of_getElem? (i := 11) rfl)) (hw _ (List.mem_of_getElem? (i := 12) rfl)) (hw _ (List.mem_of_getElem? (i := 13) rfl)) e0 (g := (mkF m 1 #[.val (.ref a1)] [(.ref a1)])) rfl (by rw [hml]; rfl) rfl (hb hby d2_1) (by decide) (W := 0) (by show 2 * 0 + _ ≤ _; exact Nat.le_of_eq rfl) (by decide)
  refine Done.of (g' := (mkF m 4 #[.val (.ref a1)] [])) st1 ?_
  exact doneV X1 hx hret hlk (hb hby d2_4) ⟨rfl, N0, e1⟩ (by decide) (by decide)
theorem ef_2 (m : MethodId) (a1 : Addr) : entryFrame m #[(.ref a1)] 1 = mkF m 0 #[.val (.ref a1)] [] := by first | (simp [entryFrame, mkF, argsToLocals, Value.category, maxLocals]; done) | rfl
theorem pn_2 : plainFor (⟨"java/lang/Record", "<init>", "()V"⟩ : MethodName) = true := by decide +kernel
set_option maxRecDepth 65536 in
set_option maxHeartbeats 40000000 in
theorem rm2 (l : Launch) (Z : State) (a0 : Array Value) (hw : ∀ d ∈ tables_1, d.before a0 Z = true) (ws : List Jvm.Cond) (a1 : Addr) (h0 : Heap) (n0 : Nat) :
    MetFree l (⟨"java/lang/Record", "<init>", "()V"⟩ : MethodName) (head1 (Jvm.Cond.code (⟨"java/lang/Record", "<init>", "()V"⟩ : MethodName) jdk_30_method_1_code 1 none :: ws) ({ frames := 1, cells := 0, slots := 0, locals := 12 } : Room)) (fun a U => a = #[(.ref a1)] ∧ Z.Warmed39 U.vm ∧ U.heap = h0) (fun _ _ _ _ _ => True) (fun _ U o U' => ∃ v L, o = .returned v ∧ (Qv h0 n0) v U'.heap L ∧ FrameEnd U o U' L ({ frames := 1, cells := 0, slots := 0, locals := 12 } : Room).cells ({ frames := 1, cells := 0, slots := 0, locals := 12 } : Room).slots) := by
  refine MetFree.of_bodySF pn_2 hisR ?_
  intro p e s m args below meth c s₁ Bd hml0 hP hK
  obtain ⟨rfl, hZ, hh⟩ := hP
  have hown : s.vm.findClass "java/lang/Record" = some m.cls := findClass_of_methodNamed Bd.named
  have hnm := (name_of_methodNamed Bd.named Bd.method).1
  have X0 : Stand p l e ({ frames := 1, cells := 0, slots := 0, locals := 12 } : Room) s m #[(.ref a1)] below meth c s₁ [] 0 0 := Stand.of_body Bd
  have e0 : s₁.heap = h0 := by rw [← hh, Bd.state]; rfl
  have d := bk2_0 (n0 := n0) Bd.exec hZ hw Bd.bytes hml0 hown hnm Bd.returns (BodyLoose.notSynchronized Bd) X0 (Fr.nil n0) e0 a1
  have d2 : Done p e below s ({ frames := 1, cells := 0, slots := 0, locals := 12 } : Room) (Qv h0 n0) s₁ (entryFrame m #[(.ref a1)] 1) := by rw [ef_2]; exact d
  exact d2
theorem pd_0 : parseMethodDescriptor "()V" = some ⟨[], none⟩ := by decide +kernel
theorem d1_0 : decode prog_4_method_1_code 0 = .ok (.aload_n 0, 1) := by decide +kernel
theorem d1_1 : decode prog_4_method_1_code 1 = .ok (.invokespecial 3, 3) := by decide +kernel
theorem d1_4 : decode prog_4_method_1_code 4 = .ok (.aload_n 0, 1) := by decide +kernel
theorem d1_5 : decode prog_4_method_1_code 5 = .ok (.iload_n 1, 1) := by decide +kernel
theorem d1_6 : decode prog_4_method_1_code 6 = .ok (.putfield 9, 3) := by decide +kernel
theorem d1_9 : decode prog_4_method_1_code 9 = .ok (.aload_n 0, 1) := by decide +kernel
theorem d1_10 : decode prog_4_method_1_code 10 = .ok (.iload_n 2, 1) := by decide +kernel
theorem d1_11 : decode prog_4_method_1_code 11 = .ok (.putfield 13, 3) := by decide +kernel
theorem d1_14 : decode prog_4_method_1_code 14 = .ok (.aload_n 0, 1) := by decide +kernel
theorem d1_15 : decode prog_4_method_1_code 15 = .ok (.lload_n 3, 1) := by decide +kernel
theorem d1_16 : decode prog_4_method_1_code 16 = .ok (.putfield 16, 3) := by decide +kernel
theorem d1_19 : decode prog_4_method_1_code 19 = .ok (.aload_n 0, 1) := by decide +kernel
theorem d1_20 : decode prog_4_method_1_code 20 = .ok (.iload 5, 2) := by decide +kernel
theorem d1_22 : decode prog_4_method_1_code 22 = .ok (.putfield 20, 3) := by decide +kernel
theorem d1_25 : decode prog_4_method_1_code 25 = .ok (.return_, 1) := by decide +kernel
set_option maxRecDepth 65536 in
set_option maxHeartbeats 40000000 in
theorem bk1_0 {p : Program} {l : Launch} {e : Env} {s : State} {m : MethodId} {args : Array Value} {below : List Frame} {meth : Method} {c : Code} {T0 : State} {locs : List Loc} {Z : State} {a0 : Array Value} {h0 : Heap} {n0 : Nat}
    (hx : p.tables.exec = Jvm.exec) (hZ : Z.Warmed39 s.vm) (hw : ∀ d ∈ tables_1, d.before a0 Z = true) (hby : c.code = prog_4_method_1_code) (hml : c.maxLocals = 6) (hown : s.vm.findClass "com/example/partwise/partwise/cbor/Head" = some m.cls) (hnm : meth.name = "<init>") (hret : meth.sig.returnType = none) (hlk : meth.locks = false)
    (X0 : Stand p l e ({ frames := 2, cells := 0, slots := 0, locals := 24 } : Room) s m args below meth c T0 locs 0 0) (N0 : Fr n0 locs) (e0 : T0.heap = h0) (a1 : Addr) (p2 : Int32) (p3 : Int32) (q4 : Int64) (p5 : Int32) (u_majorType : Value) (u_additionalInfo : Value) (u_argument : Value) (u_size : Value) (E_a1 : Exa Z h0 a1 "com/example/partwise/partwise/cbor/Head") (F_majorType_a1 : Fld Z h0 a1 "com/example/partwise/partwise/cbor/Head" "majorType" "I" u_majorType) (F_additionalInfo_a1 : Fld Z h0 a1 "com/example/partwise/partwise/cbor/Head" "additionalInfo" "I" u_additionalInfo) (F_argument_a1 : Fld Z h0 a1 "com/example/partwise/partwise/cbor/Head" "argument" "J" u_argument) (F_size_a1 : Fld Z h0 a1 "com/example/partwise/partwise/cbor/Head" "size" "I" u_size) (g_a1 : n0 ≤ a1) :
    Done p e below s ({ frames := 2, cells := 0, slots := 0, locals := 24 } : Room) (fun v h L => v = none ∧ Fr n0 L ∧ Keep h0 h [a1] ∧ Exa Z h a1 "com/example/partwise/partwise/cbor/Head" ∧ Fld Z h a1 "com/example/partwise/partwise/cbor/Head" "majorType" "I" (.int p2) ∧ Fld Z h a1 "com/example/partwise/partwise/cbor/Head" "additionalInfo" "I" (.int p3) ∧ Fld Z h a1 "com/example/partwise/partwise/cbor/Head" "argument" "J" (.long q4) ∧ Fld Z h a1 "com/example/partwise/partwise/cbor/Head" "size" "I" (.int p5)) T0 (mkF m 0 #[.val (.ref a1), .val (.int p2), .val (.int p3), .val (.long q4), .second, .val (.int p5)] []) := by
  refine Done.of (T' := T0) (g' := (mkF m 1 #[.val (.ref a1), .val (.int p2), .val (.int p3), .val (.long q4), .second, .val (.int p5)] [(.ref a1)])) (fun t k => ?_) ?_
  · show Steps p.tables e below (T0.setTop (mkF m 0 #[.val (.ref a1), .val (.int p2), .val (.int p3), .val (.long q4), .second, .val (.int p5)] [])) t
    refine XS.aloadN X0.here hx rfl (hb hby d1_0) rfl rfl ?_
    exact k
  obtain ⟨_, _, ⟨T1, L1, k1, n1⟩, -, X1, ⟨Lc1, hQ1, l1, y1, z1⟩, st1⟩ := X0.specialBack hx (y := (⟨"java/lang/Record", "<init>", "()V"⟩ : MethodName)) rfl hown (mvT hZ (hw _ (List.mem_of_getElem? (i := 6) rfl))) (mvT hZ (hw _ (List.mem_of_getElem? (i := 7) rfl))) (mvT hZ (hw _ (List.mem_of_getElem? (i := 10) rfl))) (by decide) (backOf (W := 0) (rm2 l Z a0 hw [] a1 h0 n0) hZ (hw _ (List.mem_of_getElem? (i := 10) rfl)) (hw _ (List.mem_of_getElem? (i := 9) rfl)) (by decide) (by decide)) (g := (mkF m 1 #[.val (.ref a1), .val (.int p2), .val (.int p3), .val (.long q4), .second, .val (.int p5)] [(.ref a1)])) rfl (by rw [hml]; rfl) (Steps.refl _) (a := a1) (argsL := []) (rest := []) (lenOf pd_0 rfl) rfl (by show 2 * 0 + _ ≤ _; exact Nat.le_of_eq rfl) (hb hby d1_1) (fun _ _ => ⟨rfl, e0, (by decide : 0 + 0 ≤ _), (by decide : 0 + 0 ≤ _)⟩)
  dsimp only [Pt.U, Pt.locs, Pt.cells, Pt.slots] at X1 l1 y1 z1 st1 hQ1
  subst l1 y1 z1
  obtain ⟨rfl, N1q, e1⟩ := hQ1
  have N1 := Fr.app N0 N1q
  replace X1 : Stand p l e ({ frames := 2, cells := 0, slots := 0, locals := 24 } : Room) s m args below meth c T1 _ 0 0 := X1
  refine Done.of (g' := (mkF m 4 #[.val (.ref a1), .val (.int p2), .val (.int p3), .val (.long q4), .second, .val (.int p5)] [])) (fun t k => st1.trans k) ?_
  refine Done.of (T' := T1) (g' := (mkF m 6 #[.val (.ref a1), .val (.int p2), .val (.int p3), .val (.long q4), .second, .val (.int p5)] [(.int p2), (.ref a1)])) (fun t k => ?_) ?_
  · show Steps p.tables e below (T1.setTop (mkF m 4 #[.val (.ref a1), .val (.int p2), .val (.int p3), .val (.long q4), .second, .val (.int p5)] [])) t
    refine XS.aloadN X1.here hx rfl (hb hby d1_4) rfl rfl ?_
    show Steps p.tables e below (T1.setTop (mkF m 5 #[.val (.ref a1), .val (.int p2), .val (.int p3), .val (.long q4), .second, .val (.int p5)] [(.ref a1)])) t
    refine XS.iloadN X1.here hx rfl (hb hby d1_5) rfl ?_
    exact k
  obtain ⟨T2, h2, X2, e2, W2, st2⟩ := putF X1 hx hZ hown (host := "") (Or.inl (hw _ (List.mem_of_getElem? (i := 14) rfl))) Via.refl e1 F_majorType_a1 E_a1 (Or.inr ⟨(hw _ (List.mem_of_getElem? (i := 15) rfl)), rfl, hnm⟩) (hw _ (List.mem_of_getElem? (i := 1) rfl)) (ty := .int) (by decide) rfl rfl (g := (mkF m 6 #[.val (.ref a1), .val (.int p2), .val (.int p3), .val (.long q4), .second, .val (.int p5)] [(.int p2), (.ref a1)])) rfl rfl (hb hby d1_6)
  have Fw2 := F_majorType_a1.same W2
  have f1 := E_a1.wr W2
  have f2 := F_additionalInfo_a1.other W2 (Or.inr (slot_ne (Or.inr (hw _ (List.mem_of_getElem? (i := 17) rfl))) (Or.inr (hw _ (List.mem_of_getElem? (i := 15) rfl))) (by decide) (t := .int) (t' := .int) (by decide) (by decide)))
  have f3 := F_argument_a1.other W2 (Or.inr (slot_ne (Or.inr (hw _ (List.mem_of_getElem? (i := 19) rfl))) (Or.inr (hw _ (List.mem_of_getElem? (i := 15) rfl))) (by decide) (t := .long) (t' := .int) (by decide) (by decide)))
  have f4 := F_size_a1.other W2 (Or.inr (slot_ne (Or.inr (hw _ (List.mem_of_getElem? (i := 21) rfl))) (Or.inr (hw _ (List.mem_of_getElem? (i := 15) rfl))) (by decide) (t := .int) (t' := .int) (by decide) (by decide)))
  have N2 := Fr.snoc X2 N1 g_a1
  have K2 : Keep h0 h2 [a1] := (Keep.refl h0 [a1]).wr W2 (Or.inl (List.mem_of_getElem? (i := 0) rfl))
  refine Done.of (g' := (mkF m 9 #[.val (.ref a1), .val (.int p2), .val (.int p3), .val (.long q4), .second, .val (.int p5)] [])) st2 ?_
  refine Done.of (T' := T2) (g' := (mkF m 11 #[.val (.ref a1), .val (.int p2), .val (.int p3), .val (.long q4), .second, .val (.int p5)] [(.int p3), (.ref a1)])) (fun t k => ?_) ?_
  · show Steps p.tables e below (T2.setTop (mkF m 9 #[.val (.ref a1), .val (.int p2), .val (.int p3), .val (.long q4), .second, .val (.int p5)] [])) t
    refine XS.aloadN X2.here hx rfl (hb hby d1_9) rfl rfl ?_
    show Steps p.tables e below (T2.setTop (mkF m 10 #[.val (.ref a1), .val (.int p2), .val (.int p3), .val (.long q4), .second, .val (.int p5)] [(.ref a1)])) t
    refine XS.iloadN X2.here hx rfl (hb hby d1_10) rfl ?_
    exact k
  obtain ⟨T3, h3, X3, e3, W3, st3⟩ := putF X2 hx hZ hown (host := "") (Or.inl (hw _ (List.mem_of_getElem? (i := 16) rfl))) Via.refl e2 f2 f1 (Or.inr ⟨(hw _ (List.mem_of_getElem? (i := 17) rfl)), rfl, hnm⟩) (hw _ (List.mem_of_getElem? (i := 1) rfl)) (ty := .int) (by decide) rfl rfl (g := (mkF m 11 #[.val (.ref a1), .val (.int p2), .val (.int p3), .val (.long q4), .second, .val (.int p5)] [(.int p3), (.ref a1)])) rfl rfl (hb hby d1_11)
  have Fw3 := f2.same W3
  have f5 := f1.wr W3
  have f6 := Fw2.other W3 (Or.inr (slot_ne (Or.inr (hw _ (List.mem_of_getElem? (i := 15) rfl))) (Or.inr (hw _ (List.mem_of_getElem? (i := 17) rfl))) (by decide) (t := .int) (t' := .int) (by decide) (by decide)))
  have f7 := f3.other W3 (Or.inr (slot_ne (Or.inr (hw _ (List.mem_of_getElem? (i := 19) rfl))) (Or.inr (hw _ (List.mem_of_getElem? (i := 17) rfl))) (by decide) (t := .long) (t' := .int) (by decide) (by decide)))
  have f8 := f4.other W3 (Or.inr (slot_ne (Or.inr (hw _ (List.mem_of_getElem? (i := 21) rfl))) (Or.inr (hw _ (List.mem_of_getElem? (i := 17) rfl))) (by decide) (t := .int) (t' := .int) (by decide) (by decide)))
  have N3 := Fr.snoc X3 N2 g_a1
  have K3 : Keep h0 h3 [a1] := K2.wr W3 (Or.inl (List.mem_of_getElem? (i := 0) rfl))
  refine Done.of (g' := (mkF m 14 #[.val (.ref a1), .val (.int p2), .val (.int p3), .val (.long q4), .second, .val (.int p5)] [])) st3 ?_
  refine Done.of (T' := T3) (g' := (mkF m 16 #[.val (.ref a1), .val (.int p2), .val (.int p3), .val (.long q4), .second, .val (.int p5)] [(.long q4), (.ref a1)])) (fun t k => ?_) ?_
  · show Steps p.tables e below (T3.setTop (mkF m 14 #[.val (.ref a1), .val (.int p2), .val (.int p3), .val (.long q4), .second, .val (.int p5)] [])) t
    refine XS.aloadN X3.here hx rfl (hb hby d1_14) rfl rfl ?_
    show Steps p.tables e below (T3.setTop (mkF m 15 #[.val (.ref a1), .val (.int p2), .val (.int p3), .val (.long q4), .second, .val (.int p5)] [(.ref a1)])) t
    refine XS.lloadN X3.here hx rfl (hb hby d1_15) rfl ?_
    exact k
  obtain ⟨T4, h4, X4, e4, W4, st4⟩ := putF X3 hx hZ hown (host := "") (Or.inl (hw _ (List.mem_of_getElem? (i := 18) rfl))) Via.refl e3 f7 f5 (Or.inr ⟨(hw _ (List.mem_of_getElem? (i := 19) rfl)), rfl, hnm⟩) (hw _ (List.mem_of_getElem? (i := 1) rfl)) (ty := .long) (by decide) rfl rfl (g := (mkF m 16 #[.val (.ref a1), .val (.int p2), .val (.int p3), .val (.long q4), .second, .val (.int p5)] [(.long q4), (.ref a1)])) rfl rfl (hb hby d1_16)
  have Fw4 := f7.same W4
  have f9 := f5.wr W4
  have f10 := f6.other W4 (Or.inr (slot_ne (Or.inr (hw _ (List.mem_of_getElem? (i := 15) rfl))) (Or.inr (hw _ (List.mem_of_getElem? (i := 19) rfl))) (by decide) (t := .int) (t' := .long) (by decide) (by decide)))
  have f11 := Fw3.other W4 (Or.inr (slot_ne (Or.inr (hw _ (List.mem_of_getElem? (i := 17) rfl))) (Or.inr (hw _ (List.mem_of_getElem? (i := 19) rfl))) (by decide) (t := .int) (t' := .long) (by decide) (by decide)))
  have f12 := f8.other W4 (Or.inr (slot_ne (Or.inr (hw _ (List.mem_of_getElem? (i := 21) rfl))) (Or.inr (hw _ (List.mem_of_getElem? (i := 19) rfl))) (by decide) (t := .int) (t' := .long) (by decide) (by decide)))
  have N4 := Fr.snoc X4 N3 g_a1
  have K4 : Keep h0 h4 [a1] := K3.wr W4 (Or.inl (List.mem_of_getElem? (i := 0) rfl))
  refine Done.of (g' := (mkF m 19 #[.val (.ref a1), .val (.int p2), .val (.int p3), .val (.long q4), .second, .val (.int p5)] [])) st4 ?_
  refine Done.of (T' := T4) (g' := (mkF m 22 #[.val (.ref a1), .val (.int p2), .val (.int p3), .val (.long q4), .second, .val (.int p5)] [(.int p5), (.ref a1)])) (fun t k => ?_) ?_
  · show Steps p.tables e below (T4.setTop (mkF m 19 #[.val (.ref a1), .val (.int p2), .val (.int p3), .val (.long q4), .second, .val (.int p5)] [])) t
    refine XS.aloadN X4.here hx rfl (hb hby d1_19) rfl rfl ?_
    show Steps p.tables e below (T4.setTop (mkF m 20 #[.val (.ref a1), .val (.int p2), .val (.int p3), .val (.long q4), .second, .val (.int p5)] [(.ref a1)])) t
    refine XS.iload X4.here hx rfl (hb hby d1_20) rfl ?_
    exact k
  obtain ⟨T5, h5, X5, e5, W5, st5⟩ := putF X4 hx hZ hown (host := "") (Or.inl (hw _ (List.mem_of_getElem? (i := 20) rfl))) Via.refl e4 f12 f9 (Or.inr ⟨(hw _ (List.mem_of_getElem? (i := 21) rfl)), rfl, hnm⟩) (hw _ (List.mem_of_getElem? (i := 1) rfl)) (ty := .int) (by decide) rfl rfl (g := (mkF m 22 #[.val (.ref a1), .val (.int p2), .val (.int p3), .val (.long q4), .second, .val (.int p5)] [(.int p5), (.ref a1)])) rfl rfl (hb hby d1_22)
  have Fw5 := f12.same W5
  have f13 := f9.wr W5
  have f14 := f10.other W5 (Or.inr (slot_ne (Or.inr (hw _ (List.mem_of_getElem? (i := 15) rfl))) (Or.inr (hw _ (List.mem_of_getElem? (i := 21) rfl))) (by decide) (t := .int) (t' := .int) (by decide) (by decide)))
  have f15 := f11.other W5 (Or.inr (slot_ne (Or.inr (hw _ (List.mem_of_getElem? (i := 17) rfl))) (Or.inr (hw _ (List.mem_of_getElem? (i := 21) rfl))) (by decide) (t := .int) (t' := .int) (by decide) (by decide)))
  have f16 := Fw4.other W5 (Or.inr (slot_ne (Or.inr (hw _ (List.mem_of_getElem? (i := 19) rfl))) (Or.inr (hw _ (List.mem_of_getElem? (i := 21) rfl))) (by decide) (t := .long) (t' := .int) (by decide) (by decide)))
  have N5 := Fr.snoc X5 N4 g_a1
  have K5 : Keep h0 h5 [a1] := K4.wr W5 (Or.inl (List.mem_of_getElem? (i := 0) rfl))
  refine Done.of (g' := (mkF m 25 #[.val (.ref a1), .val (.int p2), .val (.int p3), .val (.long q4), .second, .val (.int p5)] [])) st5 ?_
  exact doneV X5 hx hret hlk (hb hby d1_25) (by show _ ∧ _; rw [e5]; exact ⟨rfl, N5, K5, f13, f14, f15, f16, Fw5⟩) (by decide) (by decide)
theorem ef_1 (m : MethodId) (a1 : Addr) (p2 : Int32) (p3 : Int32) (q4 : Int64) (p5 : Int32) : entryFrame m #[(.ref a1), (.int p2), (.int p3), (.long q4), (.int p5)] 6 = mkF m 0 #[.val (.ref a1), .val (.int p2), .val (.int p3), .val (.long q4), .second, .val (.int p5)] [] := by first | (simp [entryFrame, mkF, argsToLocals, Value.category, maxLocals]; done) | rfl
theorem pn_1 : plainName "com/example/partwise/partwise/cbor/Head" = true := by first | (simp [plainName, overriddenIn]; done) | decide +kernel
def Q1 (Z : State) (a1 : Addr) (p2 : Int32) (p3 : Int32) (q4 : Int64) (p5 : Int32) (h0 : Heap) (n0 : Nat) (u_majorType : Value) (u_additionalInfo : Value) (u_argument : Value) (u_size : Value) (v : Option Value) (h : Heap) (L : List Loc) : Prop := v = none ∧ Fr n0 L ∧ Keep h0 h [a1] ∧ Exa Z h a1 "com/example/partwise/partwise/cbor/Head" ∧ Fld Z h a1 "com/example/partwise/partwise/cbor/Head" "majorType" "I" (.int p2) ∧ Fld Z h a1 "com/example/partwise/partwise/cbor/Head" "additionalInfo" "I" (.int p3) ∧ Fld Z h a1 "com/example/partwise/partwise/cbor/Head" "argument" "J" (.long q4) ∧ Fld Z h a1 "com/example/partwise/partwise/cbor/Head" "size" "I" (.int p5)
set_option maxRecDepth 65536 in
set_option maxHeartbeats 40000000 in
theorem rm1 (l : Launch) (Z : State) (a0 : Array Value) (hw : ∀ d ∈ tables_1, d.before a0 Z = true) (ws : List Jvm.Cond) (a1 : Addr) (p2 : Int32) (p3 : Int32) (q4 : Int64) (p5 : Int32) (h0 : Heap) (n0 : Nat) (u_majorType : Value) (u_additionalInfo : Value) (u_argument : Value) (u_size : Value) (E_a1 : Exa Z h0 a1 "com/example/partwise/partwise/cbor/Head") (F_majorType_a1 : Fld Z h0 a1 "com/example/partwise/partwise/cbor/Head" "majorType" "I" u_majorType) (F_additionalInfo_a1 : Fld Z h0 a1 "com/example/partwise/partwise/cbor/Head" "additionalInfo" "I" u_additionalInfo) (F_argument_a1 : Fld Z h0 a1 "com/example/partwise/partwise/cbor/Head" "argument" "J" u_argument) (F_size_a1 : Fld Z h0 a1 "com/example/partwise/partwise/cbor/Head" "size" "I" u_size) (g_a1 : n0 ≤ a1) :
    MetFree l (⟨"com/example/partwise/partwise/cbor/Head", "<init>", "(IIJI)V"⟩ : MethodName) (head1 (Jvm.Cond.code (⟨"com/example/partwise/partwise/cbor/Head", "<init>", "(IIJI)V"⟩ : MethodName) prog_4_method_1_code 6 none :: ws) ({ frames := 2, cells := 0, slots := 0, locals := 24 } : Room)) (fun a U => a = #[(.ref a1), (.int p2), (.int p3), (.long q4), (.int p5)] ∧ Z.Warmed39 U.vm ∧ U.heap = h0) (fun _ _ _ _ _ => True) (fun _ U o U' => ∃ v L, o = .returned v ∧ (Q1 Z a1 p2 p3 q4 p5 h0 n0 u_majorType u_additionalInfo u_argument u_size) v U'.heap L ∧ FrameEnd U o U' L ({ frames := 2, cells := 0, slots := 0, locals := 24 } : Room).cells ({ frames := 2, cells := 0, slots := 0, locals := 24 } : Room).slots) := by
  refine MetFree.of_bodySF (plainFor_of_name pn_1) hisR ?_
  intro p e s m args below meth c s₁ Bd hml0 hP hK
  obtain ⟨rfl, hZ, hh⟩ := hP
  have hown : s.vm.findClass "com/example/partwise/partwise/cbor/Head" = some m.cls := findClass_of_methodNamed Bd.named
  have hnm := (name_of_methodNamed Bd.named Bd.method).1
  have X0 : Stand p l e ({ frames := 2, cells := 0, slots := 0, locals := 24 } : Room) s m #[(.ref a1), (.int p2), (.int p3), (.long q4), (.int p5)] below meth c s₁ [] 0 0 := Stand.of_body Bd
  have e0 : s₁.heap = h0 := by rw [← hh, Bd.state]; rfl
  have d := bk1_0 (n0 := n0) Bd.exec hZ hw Bd.bytes hml0 hown hnm Bd.returns (BodyLoose.notSynchronized Bd) X0 (Fr.nil n0) e0 a1 p2 p3 q4 p5 u_majorType u_additionalInfo u_argument u_size E_a1 F_majorType_a1 F_additionalInfo_a1 F_argument_a1 F_size_a1 g_a1
  have d2 : Done p e below s ({ frames := 2, cells := 0, slots := 0, locals := 24 } : Room) (Q1 Z a1 p2 p3 q4 p5 h0 n0 u_majorType u_additionalInfo u_argument u_size) s₁ (entryFrame m #[(.ref a1), (.int p2), (.int p3), (.long q4), (.int p5)] 6) := by rw [ef_1]; exact d
  exact d2
theorem d4_0 : decode prog_4_method_9_code 0 = .ok (.aload_n 0, 1) := by decide +kernel
theorem d4_1 : decode prog_4_method_9_code 1 = .ok (.getfield 9, 3) := by decide +kernel
theorem d4_4 : decode prog_4_method_9_code 4 = .ok (.bipush 7, 2) := by decide +kernel
theorem d4_6 : decode prog_4_method_9_code 6 = .ok (.if_icmp .ne 16, 3) := by decide +kernel
theorem d4_9 : decode prog_4_method_9_code 9 = .ok (.aload_n 0, 1) := by decide +kernel
theorem d4_10 : decode prog_4_method_9_code 10 = .ok (.getfield 13, 3) := by decide +kernel
theorem d4_13 : decode prog_4_method_9_code 13 = .ok (.bipush 31, 2) := by decide +kernel
theorem d4_15 : decode prog_4_method_9_code 15 = .ok (.if_icmp .ne 7, 3) := by decide +kernel
theorem d4_18 : decode prog_4_method_9_code 18 = .ok (.iconst 1, 1) := by decide +kernel
theorem d4_19 : decode prog_4_method_9_code 19 = .ok (.goto 4, 3) := by decide +kernel
theorem d4_22 : decode prog_4_method_9_code 22 = .ok (.iconst 0, 1) := by decide +kernel
theorem d4_23 : decode prog_4_method_9_code 23 = .ok (.ireturn, 1) := by decide +kernel
def F4_0 (w1 : Int32) (w2 : Int32) : Int32 := (if w1 = (7 : Int32) then (if w2 = (31 : Int32) then (1 : Int32) else (0 : Int32)) else (0 : Int32))
set_option maxRecDepth 65536 in
set_option maxHeartbeats 40000000 in
theorem bk4_0 {p : Program} {l : Launch} {e : Env} {s : State} {m : MethodId} {args : Array Value} {below : List Frame} {meth : Method} {c : Code} {T0 : State} {locs : List Loc} {Z : State} {a0 : Array Value} {h0 : Heap} {n0 : Nat}
    (hx : p.tables.exec = Jvm.exec) (hZ : Z.Warmed39 s.vm) (hw : ∀ d ∈ tables_1, d.before a0 Z = true) (hby : c.code = prog_4_method_9_code) (hml : c.maxLocals = 1) (hown : s.vm.findClass "com/example/partwise/partwise/cbor/Head" = some m.cls) (hnm : meth.name = "isBreak") (hret : meth.sig.returnType = some .boolean) (hlk : meth.locks = false)
    (X0 : Stand p l e ({ frames := 0, cells := 0, slots := 0, locals := 0 } : Room) s m args below meth c T0 locs 0 0) (N0 : Fr n0 locs) (e0 : T0.heap = h0) (a1 : Addr) (w1 : Int32) (w2 : Int32) (F_majorType_a1 : Fld Z h0 a1 "com/example/partwise/partwise/cbor/Head" "majorType" "I" (.int w1)) (F_additionalInfo_a1 : Fld Z h0 a1 "com/example/partwise/partwise/cbor/Head" "additionalInfo" "I" (.int w2)) :
    Done p e below s ({ frames := 0, cells := 0, slots := 0, locals := 0 } : Room) (Qp h0 n0 (.int (F4_0 w1 w2))) T0 (mkF m 0 #[.val (.ref a1)] []) := by
  unfold F4_0
  refine Done.of (T' := T0) (g' := (mkF m 1 #[.val (.ref a1)] [(.ref a1)])) (fun t k => ?_) ?_
  · show Steps p.tables e below (T0.setTop (mkF m 0 #[.val (.ref a1)] [])) t
    refine XS.aloadN X0.here hx rfl (hb hby d4_0) rfl rfl ?_
    exact k
  obtain ⟨T1, X1, e1, st1⟩ := getF X0 hx hZ hown (host := "") (Or.inl (hw _ (List.mem_of_getElem? (i := 14) rfl))) Via.refl e0 F_majorType_a1 (g := (mkF m 1 #[.val (.ref a1)] [(.ref a1)])) rfl rfl (hb hby d4_1)
  refine Done.of (g' := (mkF m 4 #[.val (.ref a1)] [(.int w1)])) st1 ?_
  refine Done.of (T' := T1) (g' := (mkF m 6 #[.val (.ref a1)] [(.int (7 : Int32)), (.int w1)])) (fun t k => ?_) ?_
  · show Steps p.tables e below (T1.setTop (mkF m 4 #[.val (.ref a1)] [(.int w1)])) t
    refine XS.bipush X1.here hx rfl (hb hby d4_4) ?_
    exact k
  by_cases hc6_1 : w1 = (7 : Int32)
  · rw [if_pos hc6_1]
    refine Done.of (T' := T1) (g' := (mkF m 10 #[.val (.ref a1)] [(.ref a1)])) (fun t k => ?_) ?_
    · show Steps p.tables e below (T1.setTop (mkF m 6 #[.val (.ref a1)] [(.int (7 : Int32)), (.int w1)])) t
      refine XS.icmpNo X1.here hx rfl (hb hby d4_6) rfl (teq hc6_1).2 ?_
      show Steps p.tables e below (T1.setTop (mkF m 9 #[.val (.ref a1)] [])) t
      refine XS.aloadN X1.here hx rfl (hb hby d4_9) rfl rfl ?_
      exact k
    obtain ⟨T3, X3, e3, st3⟩ := getF X1 hx hZ hown (host := "") (Or.inl (hw _ (List.mem_of_getElem? (i := 16) rfl))) Via.refl e1 F_additionalInfo_a1 (g := (mkF m 10 #[.val (.ref a1)] [(.ref a1)])) rfl rfl (hb hby d4_10)
    refine Done.of (g' := (mkF m 13 #[.val (.ref a1)] [(.int w2)])) st3 ?_
    refine Done.of (T' := T3) (g' := (mkF m 15 #[.val (.ref a1)] [(.int (31 : Int32)), (.int w2)])) (fun t k => ?_) ?_
    · show Steps p.tables e below (T3.setTop (mkF m 13 #[.val (.ref a1)] [(.int w2)])) t
      refine XS.bipush X3.here hx rfl (hb hby d4_13) ?_
      exact k
    by_cases hc15_3 : w2 = (31 : Int32)
    · rw [if_pos hc15_3]
      refine Done.of (T' := T3) (g' := (mkF m 23 #[.val (.ref a1)] [(.int (1 : Int32))])) (fun t k => ?_) ?_
      · show Steps p.tables e below (T3.setTop (mkF m 15 #[.val (.ref a1)] [(.int (31 : Int32)), (.int w2)])) t
        refine XS.icmpNo X3.here hx rfl (hb hby d4_15) rfl (teq hc15_3).2 ?_
        show Steps p.tables e below (T3.setTop (mkF m 18 #[.val (.ref a1)] [])) t
        refine XS.iconst X3.here hx rfl (hb hby d4_18) ?_
        show Steps p.tables e below (T3.setTop (mkF m 19 #[.val (.ref a1)] [(.int (1 : Int32))])) t
        refine XS.goto X3.here hx rfl (pc0 := 19) (pc' := 23) rfl (hb hby d4_19) (by decide) (by decide) ?_
        exact k
      exact doneN (t := .boolean) X3 (by simp) hx hret hlk (hb hby d4_23) ⟨rfl, N0, e3⟩ (by decide) (by decide)
    · rw [if_neg hc15_3]
      refine Done.of (T' := T3) (g' := (mkF m 23 #[.val (.ref a1)] [(.int (0 : Int32))])) (fun t k => ?_) ?_
      · show Steps p.tables e below (T3.setTop (mkF m 15 #[.val (.ref a1)] [(.int (31 : Int32)), (.int w2)])) t
        refine XS.icmpYes X3.here hx rfl (pc0 := 15) (pc' := 22) rfl (hb hby d4_15) rfl (feq hc15_3).2 (by decide) (by decide) ?_
        show Steps p.tables e below (T3.setTop (mkF m 22 #[.val (.ref a1)] [])) t
        refine XS.iconst X3.here hx rfl (hb hby d4_22) ?_
        exact k
      exact doneN (t := .boolean) X3 (by simp) hx hret hlk (hb hby d4_23) ⟨rfl, N0, e3⟩ (by decide) (by decide)
  · rw [if_neg hc6_1]
    refine Done.of (T' := T1) (g' := (mkF m 23 #[.val (.ref a1)] [(.int (0 : Int32))])) (fun t k => ?_) ?_
    · show Steps p.tables e below (T1.setTop (mkF m 6 #[.val (.ref a1)] [(.int (7 : Int32)), (.int w1)])) t
      refine XS.icmpYes X1.here hx rfl (pc0 := 6) (pc' := 22) rfl (hb hby d4_6) rfl (feq hc6_1).2 (by decide) (by decide) ?_
      show Steps p.tables e below (T1.setTop (mkF m 22 #[.val (.ref a1)] [])) t
      refine XS.iconst X1.here hx rfl (hb hby d4_22) ?_
      exact k
    exact doneN (t := .boolean) X1 (by simp) hx hret hlk (hb hby d4_23) ⟨rfl, N0, e1⟩ (by decide) (by decide)
theorem ef_4 (m : MethodId) (a1 : Addr) : entryFrame m #[(.ref a1)] 1 = mkF m 0 #[.val (.ref a1)] [] := by first | (simp [entryFrame, mkF, argsToLocals, Value.category, maxLocals]; done) | rfl
theorem pn_4 : plainName "com/example/partwise/partwise/cbor/Head" = true := by first | (simp [plainName, overriddenIn]; done) | decide +kernel
set_option maxRecDepth 65536 in
set_option maxHeartbeats 40000000 in
theorem rm4 (l : Launch) (Z : State) (a0 : Array Value) (hw : ∀ d ∈ tables_1, d.before a0 Z = true) (ws : List Jvm.Cond) (a1 : Addr) (h0 : Heap) (n0 : Nat) (w1 : Int32) (w2 : Int32) (F_majorType_a1 : Fld Z h0 a1 "com/example/partwise/partwise/cbor/Head" "majorType" "I" (.int w1)) (F_additionalInfo_a1 : Fld Z h0 a1 "com/example/partwise/partwise/cbor/Head" "additionalInfo" "I" (.int w2)) :
    MetFree l (⟨"com/example/partwise/partwise/cbor/Head", "isBreak", "()Z"⟩ : MethodName) (head1 (Jvm.Cond.code (⟨"com/example/partwise/partwise/cbor/Head", "isBreak", "()Z"⟩ : MethodName) prog_4_method_9_code 1 (some .boolean) :: ws) ({ frames := 0, cells := 0, slots := 0, locals := 0 } : Room)) (fun a U => a = #[(.ref a1)] ∧ Z.Warmed39 U.vm ∧ U.heap = h0) (fun _ _ _ _ _ => True) (fun _ U o U' => ∃ v L, o = .returned v ∧ (Qp h0 n0 (.int (F4_0 w1 w2))) v U'.heap L ∧ FrameEnd U o U' L ({ frames := 0, cells := 0, slots := 0, locals := 0 } : Room).cells ({ frames := 0, cells := 0, slots := 0, locals := 0 } : Room).slots) := by
  refine MetFree.of_bodySF (plainFor_of_name pn_4) hisR ?_
  intro p e s m args below meth c s₁ Bd hml0 hP hK
  obtain ⟨rfl, hZ, hh⟩ := hP
  have hown : s.vm.findClass "com/example/partwise/partwise/cbor/Head" = some m.cls := findClass_of_methodNamed Bd.named
  have hnm := (name_of_methodNamed Bd.named Bd.method).1
  have X0 : Stand p l e ({ frames := 0, cells := 0, slots := 0, locals := 0 } : Room) s m #[(.ref a1)] below meth c s₁ [] 0 0 := Stand.of_body Bd
  have e0 : s₁.heap = h0 := by rw [← hh, Bd.state]; rfl
  have d := bk4_0 (n0 := n0) Bd.exec hZ hw Bd.bytes hml0 hown hnm Bd.returns (BodyLoose.notSynchronized Bd) X0 (Fr.nil n0) e0 a1 w1 w2 F_majorType_a1 F_additionalInfo_a1
  have d2 : Done p e below s ({ frames := 0, cells := 0, slots := 0, locals := 0 } : Room) (Qp h0 n0 (.int (F4_0 w1 w2))) s₁ (entryFrame m #[(.ref a1)] 1) := by rw [ef_4]; exact d
  exact d2
theorem pd_1 : parseMethodDescriptor "(IIJI)V" = some ⟨[.int, .int, .long, .int], none⟩ := by decide +kernel
theorem pd_2 : parseMethodDescriptor "()Z" = some ⟨[], some .boolean⟩ := by decide +kernel
def F0_0 (p1 : Int32) (p2 : Int32) (q3 : Int64) (p4 : Int32) : Int32 := (if (((p1 &&& (7 : Int32)) <<< ((5 : Int32) &&& 31)) ||| (p2 &&& (31 : Int32))) = (255 : Int32) then (if (F4_0 (p1 &&& (7 : Int32)) (p2 &&& (31 : Int32))) = (1 : Int32) then (1 : Int32) else (0 : Int32)) else (if (F4_0 (p1 &&& (7 : Int32)) (p2 &&& (31 : Int32))) = (0 : Int32) then (1 : Int32) else (0 : Int32)))
set_option maxRecDepth 65536 in
set_option maxHeartbeats 40000000 in
theorem bk0_0 {p : Program} {l : Launch} {e : Env} {s : State} {m : MethodId} {args : Array Value} {below : List Frame} {meth : Method} {c : Code} {T0 : State} {locs : List Loc} {Z : State} {a0 : Array Value} {h0 : Heap} {n0 : Nat}
    (hx : p.tables.exec = Jvm.exec) (hZ : Z.Warmed39 s.vm) (hw : ∀ d ∈ tables_1, d.before a0 Z = true) (hby : c.code = code) (hml : c.maxLocals = 10) (hown : s.vm.findClass "com/example/partwise/partwise/cbor/HeadIsBreakPinLaw" = some m.cls) (hnm : meth.name = "law") (hret : meth.sig.returnType = some .boolean) (hlk : meth.locks = false)
    (X0 : Stand p l e room_1 s m args below meth c T0 locs 0 0) (N0 : Fr n0 locs) (e0 : T0.heap = h0) (p1 : Int32) (p2 : Int32) (q3 : Int64) (p4 : Int32) (Z0 : n0 ≤ h0.size) :
    Done p e below s room_1 (Ql n0 (.int (F0_0 p1 p2 q3 p4))) T0 (mkF m 0 #[.val (.int p1), .val (.int p2), .val (.long q3), .second, .val (.int p4), .unset, .unset, .unset, .unset, .unset] []) := by
  unfold F0_0
  refine Done.of (T' := T0) (g' := (mkF m 12 #[.val (.int p1), .val (.int p2), .val (.long q3), .second, .val (.int p4), .val (.int (p1 &&& (7 : Int32))), .val (.int (p2 &&& (31 : Int32))), .unset, .unset, .unset] [])) (fun t k => ?_) ?_
  · show Steps p.tables e below (T0.setTop (mkF m 0 #[.val (.int p1), .val (.int p2), .val (.long q3), .second, .val (.int p4), .unset, .unset, .unset, .unset, .unset] [])) t
    refine XS.iloadN X0.here hx rfl (hb hby at_0) rfl ?_
    show Steps p.tables e below (T0.setTop (mkF m 1 #[.val (.int p1), .val (.int p2), .val (.long q3), .second, .val (.int p4), .unset, .unset, .unset, .unset, .unset] [(.int p1)])) t
    refine XS.bipush X0.here hx rfl (hb hby at_1) ?_
    show Steps p.tables e below (T0.setTop (mkF m 3 #[.val (.int p1), .val (.int p2), .val (.long q3), .second, .val (.int p4), .unset, .unset, .unset, .unset, .unset] [(.int (7 : Int32)), (.int p1)])) t
    refine XS.iand X0.here hx rfl (hb hby at_3) rfl ?_
    show Steps p.tables e below (T0.setTop (mkF m 4 #[.val (.int p1), .val (.int p2), .val (.long q3), .second, .val (.int p4), .unset, .unset, .unset, .unset, .unset] [(.int (p1 &&& (7 : Int32)))])) t
    refine XS.istore X0.here hx rfl (hb hby at_4) rfl (l' := #[.val (.int p1), .val (.int p2), .val (.long q3), .second, .val (.int p4), .val (.int (p1 &&& (7 : Int32))), .unset, .unset, .unset, .unset]) rfl ?_
    show Steps p.tables e below (T0.setTop (mkF m 6 #[.val (.int p1), .val (.int p2), .val (.long q3), .second, .val (.int p4), .val (.int (p1 &&& (7 : Int32))), .unset, .unset, .unset, .unset] [])) t
    refine XS.iloadN X0.here hx rfl (hb hby at_6) rfl ?_
    show Steps p.tables e below (T0.setTop (mkF m 7 #[.val (.int p1), .val (.int p2), .val (.long q3), .second, .val (.int p4), .val (.int (p1 &&& (7 : Int32))), .unset, .unset, .unset, .unset] [(.int p2)])) t
    refine XS.bipush X0.here hx rfl (hb hby at_7) ?_
    show Steps p.tables e below (T0.setTop (mkF m 9 #[.val (.int p1), .val (.int p2), .val (.long q3), .second, .val (.int p4), .val (.int (p1 &&& (7 : Int32))), .unset, .unset, .unset, .unset] [(.int (31 : Int32)), (.int p2)])) t
    refine XS.iand X0.here hx rfl (hb hby at_9) rfl ?_
    show Steps p.tables e below (T0.setTop (mkF m 10 #[.val (.int p1), .val (.int p2), .val (.long q3), .second, .val (.int p4), .val (.int (p1 &&& (7 : Int32))), .unset, .unset, .unset, .unset] [(.int (p2 &&& (31 : Int32)))])) t
    refine XS.istore X0.here hx rfl (hb hby at_10) rfl (l' := #[.val (.int p1), .val (.int p2), .val (.long q3), .second, .val (.int p4), .val (.int (p1 &&& (7 : Int32))), .val (.int (p2 &&& (31 : Int32))), .unset, .unset, .unset]) rfl ?_
    exact k
  obtain ⟨T1, h1, X1, e1, E1, A1, D1, -, st1⟩ := newO X0 hx hZ hown (hw _ (List.mem_of_getElem? (i := 0) rfl)) (hw _ (List.mem_of_getElem? (i := 1) rfl)) (hw _ (List.mem_of_getElem? (i := 2) rfl)) e0 (g := (mkF m 12 #[.val (.int p1), .val (.int p2), .val (.long q3), .second, .val (.int p4), .val (.int (p1 &&& (7 : Int32))), .val (.int (p2 &&& (31 : Int32))), .unset, .unset, .unset] [])) rfl (hb hby at_12) (by decide) (by decide)
  obtain ⟨b1, g1⟩ : ∃ z, z = h0.size := ⟨_, rfl⟩
  rw [← g1] at A1 D1 st1
  have g_b1 : n0 ≤ b1 := Nat.le_trans Z0 (Nat.le_of_eq g1.symm)
  have F1_majorType : Fld Z h1 b1 "com/example/partwise/partwise/cbor/Head" "majorType" "I" (.int (0 : Int32)) := D1 (Or.inr (hw _ (List.mem_of_getElem? (i := 15) rfl))) (ty := .int) (by decide)
  have F1_additionalInfo : Fld Z h1 b1 "com/example/partwise/partwise/cbor/Head" "additionalInfo" "I" (.int (0 : Int32)) := D1 (Or.inr (hw _ (List.mem_of_getElem? (i := 17) rfl))) (ty := .int) (by decide)
  have F1_argument : Fld Z h1 b1 "com/example/partwise/partwise/cbor/Head" "argument" "J" (.long (0 : Int64)) := D1 (Or.inr (hw _ (List.mem_of_getElem? (i := 19) rfl))) (ty := .long) (by decide)
  have F1_size : Fld Z h1 b1 "com/example/partwise/partwise/cbor/Head" "size" "I" (.int (0 : Int32)) := D1 (Or.inr (hw _ (List.mem_of_getElem? (i := 21) rfl))) (ty := .int) (by decide)
  refine Done.of (g' := (mkF m 15 #[.val (.int p1), .val (.int p2), .val (.long q3), .second, .val (.int p4), .val (.int (p1 &&& (7 : Int32))), .val (.int (p2 &&& (31 : Int32))), .unset, .unset, .unset] [(.ref b1)])) st1 ?_
  refine Done.of (T' := T1) (g' := (mkF m 23 #[.val (.int p1), .val (.int p2), .val (.long q3), .second, .val (.int p4), .val (.int (p1 &&& (7 : Int32))), .val (.int (p2 &&& (31 : Int32))), .unset, .unset, .unset] [(.int p4), (.long q3), (.int (p2 &&& (31 : Int32))), (.int (p1 &&& (7 : Int32))), (.ref b1), (.ref b1)])) (fun t k => ?_) ?_
  · show Steps p.tables e below (T1.setTop (mkF m 15 #[.val (.int p1), .val (.int p2), .val (.long q3), .second, .val (.int p4), .val (.int (p1 &&& (7 : Int32))), .val (.int (p2 &&& (31 : Int32))), .unset, .unset, .unset] [(.ref b1)])) t
    refine XS.dup X1.here hx rfl (hb hby at_15) rfl rfl ?_
    show Steps p.tables e below (T1.setTop (mkF m 16 #[.val (.int p1), .val (.int p2), .val (.long q3), .second, .val (.int p4), .val (.int (p1 &&& (7 : Int32))), .val (.int (p2 &&& (31 : Int32))), .unset, .unset, .unset] [(.ref b1), (.ref b1)])) t
    refine XS.iload X1.here hx rfl (hb hby at_16) rfl ?_
    show Steps p.tables e below (T1.setTop (mkF m 18 #[.val (.int p1), .val (.int p2), .val (.long q3), .second, .val (.int p4), .val (.int (p1 &&& (7 : Int32))), .val (.int (p2 &&& (31 : Int32))), .unset, .unset, .unset] [(.int (p1 &&& (7 : Int32))), (.ref b1), (.ref b1)])) t
    refine XS.iload X1.here hx rfl (hb hby at_18) rfl ?_
    show Steps p.tables e below (T1.setTop (mkF m 20 #[.val (.int p1), .val (.int p2), .val (.long q3), .second, .val (.int p4), .val (.int (p1 &&& (7 : Int32))), .val (.int (p2 &&& (31 : Int32))), .unset, .unset, .unset] [(.int (p2 &&& (31 : Int32))), (.int (p1 &&& (7 : Int32))), (.ref b1), (.ref b1)])) t
    refine XS.lloadN X1.here hx rfl (hb hby at_20) rfl ?_
    show Steps p.tables e below (T1.setTop (mkF m 21 #[.val (.int p1), .val (.int p2), .val (.long q3), .second, .val (.int p4), .val (.int (p1 &&& (7 : Int32))), .val (.int (p2 &&& (31 : Int32))), .unset, .unset, .unset] [(.long q3), (.int (p2 &&& (31 : Int32))), (.int (p1 &&& (7 : Int32))), (.ref b1), (.ref b1)])) t
    refine XS.iload X1.here hx rfl (hb hby at_21) rfl ?_
    exact k
  obtain ⟨_, _, ⟨T2, L2, k2, n2⟩, -, X2, ⟨Lc2, hQ2, l2, y2, z2⟩, st2⟩ := X1.specialBack hx (y := (⟨"com/example/partwise/partwise/cbor/Head", "<init>", "(IIJI)V"⟩ : MethodName)) rfl hown (mvT hZ (hw _ (List.mem_of_getElem? (i := 3) rfl))) (mvT hZ (hw _ (List.mem_of_getElem? (i := 4) rfl))) (mvT hZ (hw _ (List.mem_of_getElem? (i := 5) rfl))) (by decide) (backOf (W := 1) (rm1 l Z a0 hw [] b1 (p1 &&& (7 : Int32)) (p2 &&& (31 : Int32)) q3 p4 h1 n0 ((.int (0 : Int32))) ((.int (0 : Int32))) ((.long (0 : Int64))) ((.int (0 : Int32))) A1 F1_majorType F1_additionalInfo F1_argument F1_size g_b1) hZ (hw _ (List.mem_of_getElem? (i := 5) rfl)) (hw _ (List.mem_of_getElem? (i := 2) rfl)) (by decide) (by decide)) (g := (mkF m 23 #[.val (.int p1), .val (.int p2), .val (.long q3), .second, .val (.int p4), .val (.int (p1 &&& (7 : Int32))), .val (.int (p2 &&& (31 : Int32))), .unset, .unset, .unset] [(.int p4), (.long q3), (.int (p2 &&& (31 : Int32))), (.int (p1 &&& (7 : Int32))), (.ref b1), (.ref b1)])) rfl (by rw [hml]; rfl) (Steps.refl _) (a := b1) (argsL := [(.int (p1 &&& (7 : Int32))), (.int (p2 &&& (31 : Int32))), (.long q3), (.int p4)]) (rest := [(.ref b1)]) (lenOf pd_1 rfl) rfl (by show 2 * 0 + _ ≤ _; exact Nat.le_of_eq rfl) (hb hby at_23) (fun _ _ => ⟨rfl, e1, (by decide : 1 + 0 ≤ _), (by decide : 4 + 0 ≤ _)⟩)
  dsimp only [Pt.U, Pt.locs, Pt.cells, Pt.slots] at X2 l2 y2 z2 st2 hQ2
  subst l2 y2 z2
  obtain ⟨h2, e2⟩ : ∃ z, T2.heap = z := ⟨_, rfl⟩
  rw [e2] at hQ2
  obtain ⟨rfl, N2q, K2, E2, F2_majorType, F2_additionalInfo, F2_argument, F2_size⟩ := hQ2
  have N2 := Fr.app N0 N2q
  replace X2 : Stand p l e room_1 s m args below meth c T2 _ 1 4 := X2
  refine Done.of (g' := (mkF m 26 #[.val (.int p1), .val (.int p2), .val (.long q3), .second, .val (.int p4), .val (.int (p1 &&& (7 : Int32))), .val (.int (p2 &&& (31 : Int32))), .unset, .unset, .unset] [(.ref b1)])) (fun t k => st2.trans k) ?_
  refine Done.of (T' := T2) (g' := (mkF m 42 #[.val (.int p1), .val (.int p2), .val (.long q3), .second, .val (.int p4), .val (.int (p1 &&& (7 : Int32))), .val (.int (p2 &&& (31 : Int32))), .val (.ref b1), .val (.int (((p1 &&& (7 : Int32)) <<< ((5 : Int32) &&& 31)) ||| (p2 &&& (31 : Int32)))), .unset] [(.int (255 : Int32)), (.int (((p1 &&& (7 : Int32)) <<< ((5 : Int32) &&& 31)) ||| (p2 &&& (31 : Int32))))])) (fun t k => ?_) ?_
  · show Steps p.tables e below (T2.setTop (mkF m 26 #[.val (.int p1), .val (.int p2), .val (.long q3), .second, .val (.int p4), .val (.int (p1 &&& (7 : Int32))), .val (.int (p2 &&& (31 : Int32))), .unset, .unset, .unset] [(.ref b1)])) t
    refine XS.astore X2.here hx rfl (hb hby at_26) rfl rfl (l' := #[.val (.int p1), .val (.int p2), .val (.long q3), .second, .val (.int p4), .val (.int (p1 &&& (7 : Int32))), .val (.int (p2 &&& (31 : Int32))), .val (.ref b1), .unset, .unset]) rfl ?_
    show Steps p.tables e below (T2.setTop (mkF m 28 #[.val (.int p1), .val (.int p2), .val (.long q3), .second, .val (.int p4), .val (.int (p1 &&& (7 : Int32))), .val (.int (p2 &&& (31 : Int32))), .val (.ref b1), .unset, .unset] [])) t
    refine XS.iload X2.here hx rfl (hb hby at_28) rfl ?_
    show Steps p.tables e below (T2.setTop (mkF m 30 #[.val (.int p1), .val (.int p2), .val (.long q3), .second, .val (.int p4), .val (.int (p1 &&& (7 : Int32))), .val (.int (p2 &&& (31 : Int32))), .val (.ref b1), .unset, .unset] [(.int (p1 &&& (7 : Int32)))])) t
    refine XS.iconst X2.here hx rfl (hb hby at_30) ?_
    show Steps p.tables e below (T2.setTop (mkF m 31 #[.val (.int p1), .val (.int p2), .val (.long q3), .second, .val (.int p4), .val (.int (p1 &&& (7 : Int32))), .val (.int (p2 &&& (31 : Int32))), .val (.ref b1), .unset, .unset] [(.int (5 : Int32)), (.int (p1 &&& (7 : Int32)))])) t
    refine XS.ishl X2.here hx rfl (hb hby at_31) rfl ?_
    show Steps p.tables e below (T2.setTop (mkF m 32 #[.val (.int p1), .val (.int p2), .val (.long q3), .second, .val (.int p4), .val (.int (p1 &&& (7 : Int32))), .val (.int (p2 &&& (31 : Int32))), .val (.ref b1), .unset, .unset] [(.int ((p1 &&& (7 : Int32)) <<< ((5 : Int32) &&& 31)))])) t
    refine XS.iload X2.here hx rfl (hb hby at_32) rfl ?_
    show Steps p.tables e below (T2.setTop (mkF m 34 #[.val (.int p1), .val (.int p2), .val (.long q3), .second, .val (.int p4), .val (.int (p1 &&& (7 : Int32))), .val (.int (p2 &&& (31 : Int32))), .val (.ref b1), .unset, .unset] [(.int (p2 &&& (31 : Int32))), (.int ((p1 &&& (7 : Int32)) <<< ((5 : Int32) &&& 31)))])) t
    refine XS.ior X2.here hx rfl (hb hby at_34) rfl ?_
    show Steps p.tables e below (T2.setTop (mkF m 35 #[.val (.int p1), .val (.int p2), .val (.long q3), .second, .val (.int p4), .val (.int (p1 &&& (7 : Int32))), .val (.int (p2 &&& (31 : Int32))), .val (.ref b1), .unset, .unset] [(.int (((p1 &&& (7 : Int32)) <<< ((5 : Int32) &&& 31)) ||| (p2 &&& (31 : Int32))))])) t
    refine XS.istore X2.here hx rfl (hb hby at_35) rfl (l' := #[.val (.int p1), .val (.int p2), .val (.long q3), .second, .val (.int p4), .val (.int (p1 &&& (7 : Int32))), .val (.int (p2 &&& (31 : Int32))), .val (.ref b1), .val (.int (((p1 &&& (7 : Int32)) <<< ((5 : Int32) &&& 31)) ||| (p2 &&& (31 : Int32)))), .unset]) rfl ?_
    show Steps p.tables e below (T2.setTop (mkF m 37 #[.val (.int p1), .val (.int p2), .val (.long q3), .second, .val (.int p4), .val (.int (p1 &&& (7 : Int32))), .val (.int (p2 &&& (31 : Int32))), .val (.ref b1), .val (.int (((p1 &&& (7 : Int32)) <<< ((5 : Int32) &&& 31)) ||| (p2 &&& (31 : Int32)))), .unset] [])) t
    refine XS.iload X2.here hx rfl (hb hby at_37) rfl ?_
    show Steps p.tables e below (T2.setTop (mkF m 39 #[.val (.int p1), .val (.int p2), .val (.long q3), .second, .val (.int p4), .val (.int (p1 &&& (7 : Int32))), .val (.int (p2 &&& (31 : Int32))), .val (.ref b1), .val (.int (((p1 &&& (7 : Int32)) <<< ((5 : Int32) &&& 31)) ||| (p2 &&& (31 : Int32)))), .unset] [(.int (((p1 &&& (7 : Int32)) <<< ((5 : Int32) &&& 31)) ||| (p2 &&& (31 : Int32))))])) t
    refine XS.sipush X2.here hx rfl (hb hby at_39) ?_
    exact k
  by_cases hc42_2 : (((p1 &&& (7 : Int32)) <<< ((5 : Int32) &&& 31)) ||| (p2 &&& (31 : Int32))) = (255 : Int32)
  · rw [if_pos hc42_2]
    refine Done.of (T' := T2) (g' := (mkF m 54 #[.val (.int p1), .val (.int p2), .val (.long q3), .second, .val (.int p4), .val (.int (p1 &&& (7 : Int32))), .val (.int (p2 &&& (31 : Int32))), .val (.ref b1), .val (.int (((p1 &&& (7 : Int32)) <<< ((5 : Int32) &&& 31)) ||| (p2 &&& (31 : Int32)))), .val (.int (1 : Int32))] [(.ref b1)])) (fun t k => ?_) ?_
    · show Steps p.tables e below (T2.setTop (mkF m 42 #[.val (.int p1), .val (.int p2), .val (.long q3), .second, .val (.int p4), .val (.int (p1 &&& (7 : Int32))), .val (.int (p2 &&& (31 : Int32))), .val (.ref b1), .val (.int (((p1 &&& (7 : Int32)) <<< ((5 : Int32) &&& 31)) ||| (p2 &&& (31 : Int32)))), .unset] [(.int (255 : Int32)), (.int (((p1 &&& (7 : Int32)) <<< ((5 : Int32) &&& 31)) ||| (p2 &&& (31 : Int32))))])) t
      refine XS.icmpNo X2.here hx rfl (hb hby at_42) rfl (teq hc42_2).2 ?_
      show Steps p.tables e below (T2.setTop (mkF m 45 #[.val (.int p1), .val (.int p2), .val (.long q3), .second, .val (.int p4), .val (.int (p1 &&& (7 : Int32))), .val (.int (p2 &&& (31 : Int32))), .val (.ref b1), .val (.int (((p1 &&& (7 : Int32)) <<< ((5 : Int32) &&& 31)) ||| (p2 &&& (31 : Int32)))), .unset] [])) t
      refine XS.iconst X2.here hx rfl (hb hby at_45) ?_
      show Steps p.tables e below (T2.setTop (mkF m 46 #[.val (.int p1), .val (.int p2), .val (.long q3), .second, .val (.int p4), .val (.int (p1 &&& (7 : Int32))), .val (.int (p2 &&& (31 : Int32))), .val (.ref b1), .val (.int (((p1 &&& (7 : Int32)) <<< ((5 : Int32) &&& 31)) ||| (p2 &&& (31 : Int32)))), .unset] [(.int (1 : Int32))])) t
      refine XS.goto X2.here hx rfl (pc0 := 46) (pc' := 50) rfl (hb hby at_46) (by decide) (by decide) ?_
      show Steps p.tables e below (T2.setTop (mkF m 50 #[.val (.int p1), .val (.int p2), .val (.long q3), .second, .val (.int p4), .val (.int (p1 &&& (7 : Int32))), .val (.int (p2 &&& (31 : Int32))), .val (.ref b1), .val (.int (((p1 &&& (7 : Int32)) <<< ((5 : Int32) &&& 31)) ||| (p2 &&& (31 : Int32)))), .unset] [(.int (1 : Int32))])) t
      refine XS.istore X2.here hx rfl (hb hby at_50) rfl (l' := #[.val (.int p1), .val (.int p2), .val (.long q3), .second, .val (.int p4), .val (.int (p1 &&& (7 : Int32))), .val (.int (p2 &&& (31 : Int32))), .val (.ref b1), .val (.int (((p1 &&& (7 : Int32)) <<< ((5 : Int32) &&& 31)) ||| (p2 &&& (31 : Int32)))), .val (.int (1 : Int32))]) rfl ?_
      show Steps p.tables e below (T2.setTop (mkF m 52 #[.val (.int p1), .val (.int p2), .val (.long q3), .second, .val (.int p4), .val (.int (p1 &&& (7 : Int32))), .val (.int (p2 &&& (31 : Int32))), .val (.ref b1), .val (.int (((p1 &&& (7 : Int32)) <<< ((5 : Int32) &&& 31)) ||| (p2 &&& (31 : Int32)))), .val (.int (1 : Int32))] [])) t
      refine XS.aload X2.here hx rfl (hb hby at_52) rfl rfl ?_
      exact k
    obtain ⟨cq4, kq4, q4a, q4b, q4c⟩ := isOf hZ e2 E2
    obtain ⟨_, _, ⟨T4, L4, k4, n4⟩, -, X4, ⟨Lc4, hQ4, l4, y4, z4⟩, st4⟩ := X2.virtualBack hx (y := (⟨"com/example/partwise/partwise/cbor/Head", "isBreak", "()Z"⟩ : MethodName)) (z := (⟨"com/example/partwise/partwise/cbor/Head", "isBreak", "()Z"⟩ : MethodName)) hown (mvT hZ (hw _ (List.mem_of_getElem? (i := 22) rfl))) (mvT hZ (hw _ (List.mem_of_getElem? (i := 23) rfl))) (notFace_of_selects (args := #[]) (mvT hZ (hw _ (List.mem_of_getElem? (i := 25) rfl)))) (mvT hZ (hw _ (List.mem_of_getElem? (i := 25) rfl))) (mvT hZ (hw _ (List.mem_of_getElem? (i := 24) rfl))) (by decide) (backOf (W := 0) (rm4 l Z a0 hw [] b1 h2 n0 (p1 &&& (7 : Int32)) (p2 &&& (31 : Int32)) F2_majorType F2_additionalInfo) hZ (hw _ (List.mem_of_getElem? (i := 26) rfl)) (hw _ (List.mem_of_getElem? (i := 2) rfl)) (by decide) (by decide)) q4a q4c (g := (mkF m 54 #[.val (.int p1), .val (.int p2), .val (.long q3), .second, .val (.int p4), .val (.int (p1 &&& (7 : Int32))), .val (.int (p2 &&& (31 : Int32))), .val (.ref b1), .val (.int (((p1 &&& (7 : Int32)) <<< ((5 : Int32) &&& 31)) ||| (p2 &&& (31 : Int32)))), .val (.int (1 : Int32))] [(.ref b1)])) rfl (by rw [hml]; rfl) (Steps.refl _) (argsL := []) (rest := []) (lenOf pd_2 rfl) rfl (by show 2 * 0 + _ ≤ _; exact Nat.le_of_eq rfl) (hb hby at_54) (fun _ _ => ⟨rfl, e2, (by decide : 1 + 0 ≤ _), (by decide : 4 + 0 ≤ _)⟩)
    dsimp only [Pt.U, Pt.locs, Pt.cells, Pt.slots] at X4 l4 y4 z4 st4 hQ4
    subst l4 y4 z4
    obtain ⟨rfl, N4q, e4⟩ := hQ4
    have N4 := Fr.app N2 N4q
    replace X4 : Stand p l e room_1 s m args below meth c T4 _ 1 4 := X4
    refine Done.of (g' := (mkF m 57 #[.val (.int p1), .val (.int p2), .val (.long q3), .second, .val (.int p4), .val (.int (p1 &&& (7 : Int32))), .val (.int (p2 &&& (31 : Int32))), .val (.ref b1), .val (.int (((p1 &&& (7 : Int32)) <<< ((5 : Int32) &&& 31)) ||| (p2 &&& (31 : Int32)))), .val (.int (1 : Int32))] [(.int (F4_0 (p1 &&& (7 : Int32)) (p2 &&& (31 : Int32))))])) (fun t k => st4.trans k) ?_
    refine Done.of (T' := T4) (g' := (mkF m 59 #[.val (.int p1), .val (.int p2), .val (.long q3), .second, .val (.int p4), .val (.int (p1 &&& (7 : Int32))), .val (.int (p2 &&& (31 : Int32))), .val (.ref b1), .val (.int (((p1 &&& (7 : Int32)) <<< ((5 : Int32) &&& 31)) ||| (p2 &&& (31 : Int32)))), .val (.int (1 : Int32))] [(.int (1 : Int32)), (.int (F4_0 (p1 &&& (7 : Int32)) (p2 &&& (31 : Int32))))])) (fun t k => ?_) ?_
    · show Steps p.tables e below (T4.setTop (mkF m 57 #[.val (.int p1), .val (.int p2), .val (.long q3), .second, .val (.int p4), .val (.int (p1 &&& (7 : Int32))), .val (.int (p2 &&& (31 : Int32))), .val (.ref b1), .val (.int (((p1 &&& (7 : Int32)) <<< ((5 : Int32) &&& 31)) ||| (p2 &&& (31 : Int32)))), .val (.int (1 : Int32))] [(.int (F4_0 (p1 &&& (7 : Int32)) (p2 &&& (31 : Int32))))])) t
      refine XS.iload X4.here hx rfl (hb hby at_57) rfl ?_
      exact k
    by_cases hc59_4 : (F4_0 (p1 &&& (7 : Int32)) (p2 &&& (31 : Int32))) = (1 : Int32)
    · rw [if_pos hc59_4]
      refine Done.of (T' := T4) (g' := (mkF m 67 #[.val (.int p1), .val (.int p2), .val (.long q3), .second, .val (.int p4), .val (.int (p1 &&& (7 : Int32))), .val (.int (p2 &&& (31 : Int32))), .val (.ref b1), .val (.int (((p1 &&& (7 : Int32)) <<< ((5 : Int32) &&& 31)) ||| (p2 &&& (31 : Int32)))), .val (.int (1 : Int32))] [(.int (1 : Int32))])) (fun t k => ?_) ?_
      · show Steps p.tables e below (T4.setTop (mkF m 59 #[.val (.int p1), .val (.int p2), .val (.long q3), .second, .val (.int p4), .val (.int (p1 &&& (7 : Int32))), .val (.int (p2 &&& (31 : Int32))), .val (.ref b1), .val (.int (((p1 &&& (7 : Int32)) <<< ((5 : Int32) &&& 31)) ||| (p2 &&& (31 : Int32)))), .val (.int (1 : Int32))] [(.int (1 : Int32)), (.int (F4_0 (p1 &&& (7 : Int32)) (p2 &&& (31 : Int32))))])) t
        refine XS.icmpNo X4.here hx rfl (hb hby at_59) rfl (teq hc59_4).2 ?_
        show Steps p.tables e below (T4.setTop (mkF m 62 #[.val (.int p1), .val (.int p2), .val (.long q3), .second, .val (.int p4), .val (.int (p1 &&& (7 : Int32))), .val (.int (p2 &&& (31 : Int32))), .val (.ref b1), .val (.int (((p1 &&& (7 : Int32)) <<< ((5 : Int32) &&& 31)) ||| (p2 &&& (31 : Int32)))), .val (.int (1 : Int32))] [])) t
        refine XS.iconst X4.here hx rfl (hb hby at_62) ?_
        show Steps p.tables e below (T4.setTop (mkF m 63 #[.val (.int p1), .val (.int p2), .val (.long q3), .second, .val (.int p4), .val (.int (p1 &&& (7 : Int32))), .val (.int (p2 &&& (31 : Int32))), .val (.ref b1), .val (.int (((p1 &&& (7 : Int32)) <<< ((5 : Int32) &&& 31)) ||| (p2 &&& (31 : Int32)))), .val (.int (1 : Int32))] [(.int (1 : Int32))])) t
        refine XS.goto X4.here hx rfl (pc0 := 63) (pc' := 67) rfl (hb hby at_63) (by decide) (by decide) ?_
        exact k
      exact doneN (t := .boolean) X4 (by simp) hx hret hlk (hb hby at_67) ⟨rfl, N4⟩ (by decide) (by decide)
    · rw [if_neg hc59_4]
      refine Done.of (T' := T4) (g' := (mkF m 67 #[.val (.int p1), .val (.int p2), .val (.long q3), .second, .val (.int p4), .val (.int (p1 &&& (7 : Int32))), .val (.int (p2 &&& (31 : Int32))), .val (.ref b1), .val (.int (((p1 &&& (7 : Int32)) <<< ((5 : Int32) &&& 31)) ||| (p2 &&& (31 : Int32)))), .val (.int (1 : Int32))] [(.int (0 : Int32))])) (fun t k => ?_) ?_
      · show Steps p.tables e below (T4.setTop (mkF m 59 #[.val (.int p1), .val (.int p2), .val (.long q3), .second, .val (.int p4), .val (.int (p1 &&& (7 : Int32))), .val (.int (p2 &&& (31 : Int32))), .val (.ref b1), .val (.int (((p1 &&& (7 : Int32)) <<< ((5 : Int32) &&& 31)) ||| (p2 &&& (31 : Int32)))), .val (.int (1 : Int32))] [(.int (1 : Int32)), (.int (F4_0 (p1 &&& (7 : Int32)) (p2 &&& (31 : Int32))))])) t
        refine XS.icmpYes X4.here hx rfl (pc0 := 59) (pc' := 66) rfl (hb hby at_59) rfl (feq hc59_4).2 (by decide) (by decide) ?_
        show Steps p.tables e below (T4.setTop (mkF m 66 #[.val (.int p1), .val (.int p2), .val (.long q3), .second, .val (.int p4), .val (.int (p1 &&& (7 : Int32))), .val (.int (p2 &&& (31 : Int32))), .val (.ref b1), .val (.int (((p1 &&& (7 : Int32)) <<< ((5 : Int32) &&& 31)) ||| (p2 &&& (31 : Int32)))), .val (.int (1 : Int32))] [])) t
        refine XS.iconst X4.here hx rfl (hb hby at_66) ?_
        exact k
      exact doneN (t := .boolean) X4 (by simp) hx hret hlk (hb hby at_67) ⟨rfl, N4⟩ (by decide) (by decide)
  · rw [if_neg hc42_2]
    refine Done.of (T' := T2) (g' := (mkF m 54 #[.val (.int p1), .val (.int p2), .val (.long q3), .second, .val (.int p4), .val (.int (p1 &&& (7 : Int32))), .val (.int (p2 &&& (31 : Int32))), .val (.ref b1), .val (.int (((p1 &&& (7 : Int32)) <<< ((5 : Int32) &&& 31)) ||| (p2 &&& (31 : Int32)))), .val (.int (0 : Int32))] [(.ref b1)])) (fun t k => ?_) ?_
    · show Steps p.tables e below (T2.setTop (mkF m 42 #[.val (.int p1), .val (.int p2), .val (.long q3), .second, .val (.int p4), .val (.int (p1 &&& (7 : Int32))), .val (.int (p2 &&& (31 : Int32))), .val (.ref b1), .val (.int (((p1 &&& (7 : Int32)) <<< ((5 : Int32) &&& 31)) ||| (p2 &&& (31 : Int32)))), .unset] [(.int (255 : Int32)), (.int (((p1 &&& (7 : Int32)) <<< ((5 : Int32) &&& 31)) ||| (p2 &&& (31 : Int32))))])) t
      refine XS.icmpYes X2.here hx rfl (pc0 := 42) (pc' := 49) rfl (hb hby at_42) rfl (feq hc42_2).2 (by decide) (by decide) ?_
      show Steps p.tables e below (T2.setTop (mkF m 49 #[.val (.int p1), .val (.int p2), .val (.long q3), .second, .val (.int p4), .val (.int (p1 &&& (7 : Int32))), .val (.int (p2 &&& (31 : Int32))), .val (.ref b1), .val (.int (((p1 &&& (7 : Int32)) <<< ((5 : Int32) &&& 31)) ||| (p2 &&& (31 : Int32)))), .unset] [])) t
      refine XS.iconst X2.here hx rfl (hb hby at_49) ?_
      show Steps p.tables e below (T2.setTop (mkF m 50 #[.val (.int p1), .val (.int p2), .val (.long q3), .second, .val (.int p4), .val (.int (p1 &&& (7 : Int32))), .val (.int (p2 &&& (31 : Int32))), .val (.ref b1), .val (.int (((p1 &&& (7 : Int32)) <<< ((5 : Int32) &&& 31)) ||| (p2 &&& (31 : Int32)))), .unset] [(.int (0 : Int32))])) t
      refine XS.istore X2.here hx rfl (hb hby at_50) rfl (l' := #[.val (.int p1), .val (.int p2), .val (.long q3), .second, .val (.int p4), .val (.int (p1 &&& (7 : Int32))), .val (.int (p2 &&& (31 : Int32))), .val (.ref b1), .val (.int (((p1 &&& (7 : Int32)) <<< ((5 : Int32) &&& 31)) ||| (p2 &&& (31 : Int32)))), .val (.int (0 : Int32))]) rfl ?_
      show Steps p.tables e below (T2.setTop (mkF m 52 #[.val (.int p1), .val (.int p2), .val (.long q3), .second, .val (.int p4), .val (.int (p1 &&& (7 : Int32))), .val (.int (p2 &&& (31 : Int32))), .val (.ref b1), .val (.int (((p1 &&& (7 : Int32)) <<< ((5 : Int32) &&& 31)) ||| (p2 &&& (31 : Int32)))), .val (.int (0 : Int32))] [])) t
      refine XS.aload X2.here hx rfl (hb hby at_52) rfl rfl ?_
      exact k
    obtain ⟨cq6, kq6, q6a, q6b, q6c⟩ := isOf hZ e2 E2
    obtain ⟨_, _, ⟨T6, L6, k6, n6⟩, -, X6, ⟨Lc6, hQ6, l6, y6, z6⟩, st6⟩ := X2.virtualBack hx (y := (⟨"com/example/partwise/partwise/cbor/Head", "isBreak", "()Z"⟩ : MethodName)) (z := (⟨"com/example/partwise/partwise/cbor/Head", "isBreak", "()Z"⟩ : MethodName)) hown (mvT hZ (hw _ (List.mem_of_getElem? (i := 22) rfl))) (mvT hZ (hw _ (List.mem_of_getElem? (i := 23) rfl))) (notFace_of_selects (args := #[]) (mvT hZ (hw _ (List.mem_of_getElem? (i := 25) rfl)))) (mvT hZ (hw _ (List.mem_of_getElem? (i := 25) rfl))) (mvT hZ (hw _ (List.mem_of_getElem? (i := 24) rfl))) (by decide) (backOf (W := 0) (rm4 l Z a0 hw [] b1 h2 n0 (p1 &&& (7 : Int32)) (p2 &&& (31 : Int32)) F2_majorType F2_additionalInfo) hZ (hw _ (List.mem_of_getElem? (i := 26) rfl)) (hw _ (List.mem_of_getElem? (i := 2) rfl)) (by decide) (by decide)) q6a q6c (g := (mkF m 54 #[.val (.int p1), .val (.int p2), .val (.long q3), .second, .val (.int p4), .val (.int (p1 &&& (7 : Int32))), .val (.int (p2 &&& (31 : Int32))), .val (.ref b1), .val (.int (((p1 &&& (7 : Int32)) <<< ((5 : Int32) &&& 31)) ||| (p2 &&& (31 : Int32)))), .val (.int (0 : Int32))] [(.ref b1)])) rfl (by rw [hml]; rfl) (Steps.refl _) (argsL := []) (rest := []) (lenOf pd_2 rfl) rfl (by show 2 * 0 + _ ≤ _; exact Nat.le_of_eq rfl) (hb hby at_54) (fun _ _ => ⟨rfl, e2, (by decide : 1 + 0 ≤ _), (by decide : 4 + 0 ≤ _)⟩)
    dsimp only [Pt.U, Pt.locs, Pt.cells, Pt.slots] at X6 l6 y6 z6 st6 hQ6
    subst l6 y6 z6
    obtain ⟨rfl, N6q, e6⟩ := hQ6
    have N6 := Fr.app N2 N6q
    replace X6 : Stand p l e room_1 s m args below meth c T6 _ 1 4 := X6
    refine Done.of (g' := (mkF m 57 #[.val (.int p1), .val (.int p2), .val (.long q3), .second, .val (.int p4), .val (.int (p1 &&& (7 : Int32))), .val (.int (p2 &&& (31 : Int32))), .val (.ref b1), .val (.int (((p1 &&& (7 : Int32)) <<< ((5 : Int32) &&& 31)) ||| (p2 &&& (31 : Int32)))), .val (.int (0 : Int32))] [(.int (F4_0 (p1 &&& (7 : Int32)) (p2 &&& (31 : Int32))))])) (fun t k => st6.trans k) ?_
    refine Done.of (T' := T6) (g' := (mkF m 59 #[.val (.int p1), .val (.int p2), .val (.long q3), .second, .val (.int p4), .val (.int (p1 &&& (7 : Int32))), .val (.int (p2 &&& (31 : Int32))), .val (.ref b1), .val (.int (((p1 &&& (7 : Int32)) <<< ((5 : Int32) &&& 31)) ||| (p2 &&& (31 : Int32)))), .val (.int (0 : Int32))] [(.int (0 : Int32)), (.int (F4_0 (p1 &&& (7 : Int32)) (p2 &&& (31 : Int32))))])) (fun t k => ?_) ?_
    · show Steps p.tables e below (T6.setTop (mkF m 57 #[.val (.int p1), .val (.int p2), .val (.long q3), .second, .val (.int p4), .val (.int (p1 &&& (7 : Int32))), .val (.int (p2 &&& (31 : Int32))), .val (.ref b1), .val (.int (((p1 &&& (7 : Int32)) <<< ((5 : Int32) &&& 31)) ||| (p2 &&& (31 : Int32)))), .val (.int (0 : Int32))] [(.int (F4_0 (p1 &&& (7 : Int32)) (p2 &&& (31 : Int32))))])) t
      refine XS.iload X6.here hx rfl (hb hby at_57) rfl ?_
      exact k
    by_cases hc59_6 : (F4_0 (p1 &&& (7 : Int32)) (p2 &&& (31 : Int32))) = (0 : Int32)
    · rw [if_pos hc59_6]
      refine Done.of (T' := T6) (g' := (mkF m 67 #[.val (.int p1), .val (.int p2), .val (.long q3), .second, .val (.int p4), .val (.int (p1 &&& (7 : Int32))), .val (.int (p2 &&& (31 : Int32))), .val (.ref b1), .val (.int (((p1 &&& (7 : Int32)) <<< ((5 : Int32) &&& 31)) ||| (p2 &&& (31 : Int32)))), .val (.int (0 : Int32))] [(.int (1 : Int32))])) (fun t k => ?_) ?_
      · show Steps p.tables e below (T6.setTop (mkF m 59 #[.val (.int p1), .val (.int p2), .val (.long q3), .second, .val (.int p4), .val (.int (p1 &&& (7 : Int32))), .val (.int (p2 &&& (31 : Int32))), .val (.ref b1), .val (.int (((p1 &&& (7 : Int32)) <<< ((5 : Int32) &&& 31)) ||| (p2 &&& (31 : Int32)))), .val (.int (0 : Int32))] [(.int (0 : Int32)), (.int (F4_0 (p1 &&& (7 : Int32)) (p2 &&& (31 : Int32))))])) t
        refine XS.icmpNo X6.here hx rfl (hb hby at_59) rfl (teq hc59_6).2 ?_
        show Steps p.tables e below (T6.setTop (mkF m 62 #[.val (.int p1), .val (.int p2), .val (.long q3), .second, .val (.int p4), .val (.int (p1 &&& (7 : Int32))), .val (.int (p2 &&& (31 : Int32))), .val (.ref b1), .val (.int (((p1 &&& (7 : Int32)) <<< ((5 : Int32) &&& 31)) ||| (p2 &&& (31 : Int32)))), .val (.int (0 : Int32))] [])) t
        refine XS.iconst X6.here hx rfl (hb hby at_62) ?_
        show Steps p.tables e below (T6.setTop (mkF m 63 #[.val (.int p1), .val (.int p2), .val (.long q3), .second, .val (.int p4), .val (.int (p1 &&& (7 : Int32))), .val (.int (p2 &&& (31 : Int32))), .val (.ref b1), .val (.int (((p1 &&& (7 : Int32)) <<< ((5 : Int32) &&& 31)) ||| (p2 &&& (31 : Int32)))), .val (.int (0 : Int32))] [(.int (1 : Int32))])) t
        refine XS.goto X6.here hx rfl (pc0 := 63) (pc' := 67) rfl (hb hby at_63) (by decide) (by decide) ?_
        exact k
      exact doneN (t := .boolean) X6 (by simp) hx hret hlk (hb hby at_67) ⟨rfl, N6⟩ (by decide) (by decide)
    · rw [if_neg hc59_6]
      refine Done.of (T' := T6) (g' := (mkF m 67 #[.val (.int p1), .val (.int p2), .val (.long q3), .second, .val (.int p4), .val (.int (p1 &&& (7 : Int32))), .val (.int (p2 &&& (31 : Int32))), .val (.ref b1), .val (.int (((p1 &&& (7 : Int32)) <<< ((5 : Int32) &&& 31)) ||| (p2 &&& (31 : Int32)))), .val (.int (0 : Int32))] [(.int (0 : Int32))])) (fun t k => ?_) ?_
      · show Steps p.tables e below (T6.setTop (mkF m 59 #[.val (.int p1), .val (.int p2), .val (.long q3), .second, .val (.int p4), .val (.int (p1 &&& (7 : Int32))), .val (.int (p2 &&& (31 : Int32))), .val (.ref b1), .val (.int (((p1 &&& (7 : Int32)) <<< ((5 : Int32) &&& 31)) ||| (p2 &&& (31 : Int32)))), .val (.int (0 : Int32))] [(.int (0 : Int32)), (.int (F4_0 (p1 &&& (7 : Int32)) (p2 &&& (31 : Int32))))])) t
        refine XS.icmpYes X6.here hx rfl (pc0 := 59) (pc' := 66) rfl (hb hby at_59) rfl (feq hc59_6).2 (by decide) (by decide) ?_
        show Steps p.tables e below (T6.setTop (mkF m 66 #[.val (.int p1), .val (.int p2), .val (.long q3), .second, .val (.int p4), .val (.int (p1 &&& (7 : Int32))), .val (.int (p2 &&& (31 : Int32))), .val (.ref b1), .val (.int (((p1 &&& (7 : Int32)) <<< ((5 : Int32) &&& 31)) ||| (p2 &&& (31 : Int32)))), .val (.int (0 : Int32))] [])) t
        refine XS.iconst X6.here hx rfl (hb hby at_66) ?_
        exact k
      exact doneN (t := .boolean) X6 (by simp) hx hret hlk (hb hby at_67) ⟨rfl, N6⟩ (by decide) (by decide)
theorem own_key : ∀ i : Fin 8, ∀ j : Fin 32, (if (((Int32.ofInt (i.1 : Int)) <<< ((5 : Int32) &&& 31)) ||| (Int32.ofInt (j.1 : Int))) = 255 then (if F4_0 (Int32.ofInt (i.1 : Int)) (Int32.ofInt (j.1 : Int)) = 1 then (1 : Int32) else 0) else (if F4_0 (Int32.ofInt (i.1 : Int)) (Int32.ofInt (j.1 : Int)) = 0 then (1 : Int32) else 0)) = 1 := by decide +kernel
theorem own_law (p1 p2 : Int32) (q3 : Int64) (p4 : Int32) : F0_0 p1 p2 q3 p4 = 1 := by
  have h1 := c_mask p1 7 3 (by decide) (by decide)
  have h2 := c_mask p2 31 5 (by decide) (by decide)
  unfold F0_0
  generalize (p1 &&& 7) = a at *
  generalize (p2 &&& 31) = b at *
  obtain ⟨i, rfl⟩ := own_fin (n := 8) a (by omega) (by omega)
  obtain ⟨j, rfl⟩ := own_fin (n := 32) b (by omega) (by omega)
  exact own_key i j
theorem ef_0 (m : MethodId) (p1 : Int32) (p2 : Int32) (q3 : Int64) (p4 : Int32) : entryFrame m #[(.int p1), (.int p2), (.long q3), (.int p4)] maxLocals = mkF m 0 #[.val (.int p1), .val (.int p2), .val (.long q3), .second, .val (.int p4), .unset, .unset, .unset, .unset, .unset] [] := by first | (simp [entryFrame, mkF, argsToLocals, Value.category, maxLocals]; done) | rfl
theorem pn_0 : plainName "com/example/partwise/partwise/cbor/HeadIsBreakPinLaw" = true := by first | (simp [plainName, overriddenIn]; done) | decide +kernel
set_option maxRecDepth 65536 in
set_option maxHeartbeats 40000000 in
theorem rm0 (l : Launch) (Z : State) (a0 : Array Value) (hw : ∀ d ∈ tables_1, d.before a0 Z = true) (ws : List Jvm.Cond) (p1 : Int32) (p2 : Int32) (q3 : Int64) (p4 : Int32) (h0 : Heap) (n0 : Nat) (Z0 : n0 ≤ h0.size) :
    MetFree l x (head1 (Jvm.Cond.code x code maxLocals ret :: ws) room_1) (fun a U => a = #[(.int p1), (.int p2), (.long q3), (.int p4)] ∧ Z.Warmed39 U.vm ∧ U.heap = h0) (fun _ _ _ _ _ => True) (fun _ U o U' => ∃ v L, o = .returned v ∧ (Ql n0 (.int 1)) v U'.heap L ∧ FrameEnd U o U' L room_1.cells room_1.slots) := by
  refine MetFree.of_bodySF (plainFor_of_name pn_0) hisR ?_
  intro p e s m args below meth c s₁ Bd hml0 hP hK
  obtain ⟨rfl, hZ, hh⟩ := hP
  have hown : s.vm.findClass "com/example/partwise/partwise/cbor/HeadIsBreakPinLaw" = some m.cls := findClass_of_methodNamed Bd.named
  have hnm := (name_of_methodNamed Bd.named Bd.method).1
  have X0 : Stand p l e room_1 s m #[(.int p1), (.int p2), (.long q3), (.int p4)] below meth c s₁ [] 0 0 := Stand.of_body Bd
  have e0 : s₁.heap = h0 := by rw [← hh, Bd.state]; rfl
  have d := bk0_0 (n0 := n0) Bd.exec hZ hw Bd.bytes hml0 hown hnm Bd.returns (BodyLoose.notSynchronized Bd) X0 (Fr.nil n0) e0 p1 p2 q3 p4 Z0
  rw [own_law p1 p2 q3 p4] at d
  have d2 : Done p e below s room_1 (Ql n0 (.int 1)) s₁ (entryFrame m #[(.int p1), (.int p2), (.long q3), (.int p4)] maxLocals) := by rw [ef_0]; exact d
  exact d2
set_option maxRecDepth 65536 in
set_option maxHeartbeats 40000000 in
theorem comes_1 {Post : Tables → Env → Array Value → State → Outcome → State → Prop} (hpost : ∀ tb e args s v u, (limb_1_1.after args s (.returned v) u = true ∧ limb_1_2.after args s (.returned v) u = true ∧ True) → FrameEnd s (.returned v) u (Jvm.fieldLocs frame_1_writes args s ++ Jvm.arrayLocs frame_1_arrays args s ++ Jvm.staticLocs frame_1_statics s) 16 128 → Post tb e args s (.returned v) u) :
    ArmFor flags0 classFile x code maxLocals ret World_1 tables_1 room_1 Calls_1 rest_1 Pre_1 Post := by
  intro l hfl _ _ p e ha hc hk s m args below hf hA hF happ hP
  obtain ⟨hcalls, hrest, hpre⟩ := hP
  obtain ⟨-, -, -, hnamed, -, -, -, hat⟩ := (Spec.applies_iff hf).mp happ
  obtain ⟨hg, hn⟩ := and_e (Cond.before_iff.mp (show (Jvm.Cond.and given_1 narrow_1).before args s = true from hpre))
  obtain ⟨g0, r0⟩ := and_e hg
  obtain ⟨v0, r1⟩ := and_e r0
  obtain ⟨v1, r2⟩ := and_e r1
  obtain ⟨v2, r3⟩ := and_e r2
  obtain ⟨w0, w1, w2, w3, rfl⟩ : ∃ w0 w1 w2 w3 : Value, args = #[w0, w1, w2, w3] := by
    have hs : args.size = 4 := by simpa [Cond.value, given_1] using g0
    obtain ⟨L⟩ := args
    match L, hs with
    | [w0, w1, w2, w3], _ => exact ⟨w0, w1, w2, w3, rfl⟩
  have hw := fun d (hd : d ∈ tables_1) => atoms_spec (ws := Jvm.Cond.code x code maxLocals ret :: tables_1) hat d (List.mem_cons_of_mem _ hd)
  obtain ⟨i0, ei0⟩ := is_v v0
  obtain rfl : w0 = (.int i0) := Option.some.inj ei0
  obtain ⟨i1, ei1⟩ := is_v v1
  obtain rfl : w1 = (.int i1) := Option.some.inj ei1
  obtain ⟨i2, ei2⟩ := isL_v v2
  obtain rfl : w2 = (.long i2) := Option.some.inj ei2
  obtain ⟨i3, ei3⟩ := is_v r3
  obtain rfl : w3 = (.int i3) := Option.some.inj ei3
  obtain ⟨n, o, h1, h2, h3, _, L, rfl, ⟨rfl, N⟩, hq⟩ := rm0 l s _ hw tables_1 i0 i1 i2 i3 s.heap s.heap.size (Nat.le_refl _) p e ha hc hk s m _ below hf ((Spec.applies_iff_loose hf).mp happ).1 ⟨rfl, State.Warmed39.refl s, rfl⟩ trivial
  refine ⟨n, _, h1, h2, h3, hpost _ _ _ _ _ _ ⟨Cond.after_iff.mpr rfl, Cond.after_iff.mpr (eq_i res_at (Term.int_eval (1)) rfl), trivial⟩ ⟨hq.1, hq.2.1, (hq.2.2.sift fun y hy => Or.inr (N y hy)).mono (by decide) (by decide)⟩⟩
theorem main_1_1 : Claimed_1_1 := comes_1 fun _ _ _ _ _ _ h hF => ⟨h.1, hF⟩
theorem main_1_2 : Claimed_1_2 := comes_1 fun _ _ _ _ _ _ h hF => ⟨h.2.1, hF⟩
end Jvm.Pilot.@@N@@
namespace Jvm.Pilot.@@N@@
open Jvm Jvm.ClassFile Sem Op Lib Jvm.Free Jvm.Stand Jvm.Pilot.@@N@@.Jvm.D
/-! MADE BY PROGRAM (witnessworld.py) out of the Statement's table words and the real class files: 10 classes; the members and pool entries that the words name. The judged class is class 1, her method 1. -/
namespace start1
open Jvm.ClassFile
def u (s : String) : CpInfo := .utf8 (stringToUtf16 s)
/-- a pool by its gaps: so many unusable entries, then the entry; so many at the end -/
def gap : Nat → List CpInfo → List CpInfo
  | 0, r => r
  | n + 1, r => .unusable :: gap n r
def poolList (es : List (Nat × CpInfo)) (last : Nat) : List CpInfo := es.foldr (fun e r => gap e.1 (e.2 :: r)) (gap last [])
def pool (es : List (Nat × CpInfo)) (last : Nat) : Array CpInfo := ⟨poolList es last⟩
def fileOf (pool : Array CpInfo) (this : Nat) (attrs : Array Attribute := #[]) (ms : Array MethodInfo := #[]) (fl : Nat := 33) (sup : Nat := 0) (ifs : Array Nat := #[]) (fds : Array FieldInfo := #[]) : ClassFile where
  minorVersion := 0
  majorVersion := 65
  constantPool := pool
  accessFlags := fl
  thisClass := this
  superClass := sup
  interfaces := ifs
  fields := fds
  methods := ms
  attributes := attrs
def plain (name : String) (sup : Option ClassId) : Class where
  name := name
  kind := .ordinary
  loader := none
  accessFlags := 33
  super := sup
  interfaces := #[]
  cf := none
  fields := #[]
  methods := #[]
  instanceTypes := #[]
  staticTypes := #[]
  resolved := #[]
  callSites := []
  init := .initialized
  statics := none
  mirror := none

def pool0 : Array CpInfo := pool [(5, u "<init>"), (0, u "()V"), (1, .class_ 10), (1, u "java/lang/Object")] 113

def k0c0 : Code := { maxStack := 0, maxLocals := 1, code := object_method_1_code, exceptionTable := #[], attributes := #[] }
def k0m0 : Method := { name := "<init>", desc := "()V", sig := { parameters := [], returnType := none }, accessFlags := 1, code := some k0c0 }
/-- java/lang/Object -/
def k0 : Class := { plain "java/lang/Object" none with
  accessFlags := 33
  interfaces := #[]
  cf := some (fileOf pool0 8 #[] #[{ accessFlags := 1, nameIndex := 5, descriptorIndex := 6, attributes := #[] }] 33 0 #[] #[])
  fields := #[]
  methods := #[k0m0]
  instanceTypes := #[]
  staticTypes := #[]
  resolved := Array.replicate 124 none
  statics := none }

def pool1 : Array CpInfo := pool [(2, .class_ 4), (1, u "java/lang/Object"), (0, u "<init>"), (0, u "()V"), (0, .class_ 8), (0, u "com/example/partwise/partwise/cbor/Head"), (0, .methodref 7 10), (0, .nameAndType 5 11), (0, u "(IIJI)V"), (0, .methodref 7 13), (0, .nameAndType 14 15), (0, u "isBreak"), (0, u "()Z"), (0, .class_ 17), (0, u "com/example/partwise/partwise/cbor/HeadIsBreakPinLaw"), (2, u "law"), (0, u "(IIJI)Z")] 3

def k1m0 : Method := { name := "<init>", desc := "()V", sig := { parameters := [], returnType := none }, accessFlags := 1, code := none }
def k1c1 : Code := { maxStack := 7, maxLocals := 10, code := code, exceptionTable := #[], attributes := #[] }
def k1m1 : Method := { name := "law", desc := "(IIJI)Z", sig := { parameters := [.int, .int, .long, .int], returnType := some .boolean }, accessFlags := 9, code := some k1c1 }
/-- com/example/partwise/partwise/cbor/HeadIsBreakPinLaw -/
def k1 : Class := { plain "com/example/partwise/partwise/cbor/HeadIsBreakPinLaw" (some 0) with
  accessFlags := 49
  interfaces := #[]
  cf := some (fileOf pool1 16 #[] #[{ accessFlags := 1, nameIndex := 5, descriptorIndex := 6, attributes := #[] }, { accessFlags := 9, nameIndex := 20, descriptorIndex := 21, attributes := #[] }] 49 2 #[] #[])
  fields := #[]
  methods := #[k1m0, k1m1]
  instanceTypes := #[]
  staticTypes := #[]
  resolved := Array.replicate 25 none
  statics := none }

def pool2 : Array CpInfo := pool [(1, .methodref 2 3), (0, .class_ 4), (0, .nameAndType 5 6), (0, u "java/lang/Object"), (0, u "<init>"), (0, u "()V"), (0, .class_ 8), (0, u "java/lang/Record")] 13

def k2c0 : Code := { maxStack := 1, maxLocals := 1, code := jdk_30_method_1_code, exceptionTable := #[], attributes := #[] }
def k2m0 : Method := { name := "<init>", desc := "()V", sig := { parameters := [], returnType := none }, accessFlags := 4, code := some k2c0 }
/-- java/lang/Record -/
def k2 : Class := { plain "java/lang/Record" (some 0) with
  accessFlags := 1057
  interfaces := #[]
  cf := some (fileOf pool2 7 #[] #[{ accessFlags := 4, nameIndex := 5, descriptorIndex := 6, attributes := #[] }] 1057 2 #[] #[])
  fields := #[]
  methods := #[k2m0]
  instanceTypes := #[]
  staticTypes := #[]
  resolved := Array.replicate 22 none
  statics := none }

def pool3 : Array CpInfo := pool [(1, .class_ 2), (0, u "com/example/partwise/partwise/cbor/Head"), (0, .methodref 4 5), (0, .class_ 6), (0, .nameAndType 7 8), (0, u "java/lang/Record"), (0, u "<init>"), (0, u "()V"), (0, .fieldref 1 10), (0, .nameAndType 11 12), (0, u "majorType"), (0, u "I"), (0, .fieldref 1 14), (0, .nameAndType 15 12), (0, u "additionalInfo"), (0, .fieldref 1 17), (0, .nameAndType 18 19), (0, u "argument"), (0, u "J"), (0, .fieldref 1 21), (0, .nameAndType 22 12), (0, u "size"), (9, u "()Z"), (32, u "(IIJI)V"), (54, u "TYPE_NAMES"), (0, u "[Ljava/lang/String;"), (57, u "UNSIGNED_INTEGER"), (2, u "BYTE_STRING"), (1, u "TEXT_STRING"), (1, u "ARRAY"), (1, u "MAP"), (1, u "TAG"), (1, u "SIMPLE"), (1, u "INDEFINITE"), (1, u "MAX_SIZE"), (1, u "ONE_BYTE_ARGUMENT"), (1, u "EIGHT_BYTE_ARGUMENT"), (1, u "LOWEST_TWO_BYTE_SIMPLE"), (1, u "TWO_BYTE_SIMPLE"), (1, u "NO_ITEM"), (0, u "Ljava/lang/String;"), (8, u "isBreak")] 57

def k3c0 : Code := { maxStack := 3, maxLocals := 6, code := prog_4_method_1_code, exceptionTable := #[], attributes := #[] }
def k3m0 : Method := { name := "<init>", desc := "(IIJI)V", sig := { parameters := [.int, .int, .long, .int], returnType := none }, accessFlags := 1, code := some k3c0 }
def k3c1 : Code := { maxStack := 2, maxLocals := 1, code := prog_4_method_9_code, exceptionTable := #[], attributes := #[] }
def k3m1 : Method := { name := "isBreak", desc := "()Z", sig := { parameters := [], returnType := some .boolean }, accessFlags := 1, code := some k3c1 }
/-- com/example/partwise/partwise/cbor/Head -/
def k3 : Class := { plain "com/example/partwise/partwise/cbor/Head" (some 2) with
  accessFlags := 49
  interfaces := #[]
  cf := some (fileOf pool3 1 #[] #[{ accessFlags := 1, nameIndex := 7, descriptorIndex := 65, attributes := #[] }, { accessFlags := 1, nameIndex := 216, descriptorIndex := 32, attributes := #[] }] 49 4 #[] #[{ accessFlags := 18, nameIndex := 11, descriptorIndex := 12, attributes := #[] }, { accessFlags := 18, nameIndex := 15, descriptorIndex := 12, attributes := #[] }, { accessFlags := 18, nameIndex := 18, descriptorIndex := 19, attributes := #[] }, { accessFlags := 18, nameIndex := 22, descriptorIndex := 12, attributes := #[] }, { accessFlags := 25, nameIndex := 179, descriptorIndex := 12, attributes := #[] }, { accessFlags := 25, nameIndex := 182, descriptorIndex := 12, attributes := #[] }, { accessFlags := 25, nameIndex := 184, descriptorIndex := 12, attributes := #[] }, { accessFlags := 25, nameIndex := 186, descriptorIndex := 12, attributes := #[] }, { accessFlags := 25, nameIndex := 188, descriptorIndex := 12, attributes := #[] }, { accessFlags := 25, nameIndex := 190, descriptorIndex := 12, attributes := #[] }, { accessFlags := 25, nameIndex := 192, descriptorIndex := 12, attributes := #[] }, { accessFlags := 25, nameIndex := 194, descriptorIndex := 12, attributes := #[] }, { accessFlags := 24, nameIndex := 196, descriptorIndex := 12, attributes := #[] }, { accessFlags := 26, nameIndex := 198, descriptorIndex := 12, attributes := #[] }, { accessFlags := 26, nameIndex := 200, descriptorIndex := 12, attributes := #[] }, { accessFlags := 26, nameIndex := 202, descriptorIndex := 12, attributes := #[] }, { accessFlags := 24, nameIndex := 204, descriptorIndex := 12, attributes := #[] }, { accessFlags := 24, nameIndex := 206, descriptorIndex := 207, attributes := #[] }, { accessFlags := 26, nameIndex := 120, descriptorIndex := 121, attributes := #[] }])
  fields := #[{ name := "majorType", type := .int, accessFlags := 18, slot := 0, constantValue := 0 }, { name := "additionalInfo", type := .int, accessFlags := 18, slot := 1, constantValue := 0 }, { name := "argument", type := .long, accessFlags := 18, slot := 2, constantValue := 0 }, { name := "size", type := .int, accessFlags := 18, slot := 3, constantValue := 0 }, { name := "UNSIGNED_INTEGER", type := .int, accessFlags := 25, slot := 0, constantValue := 0 }, { name := "BYTE_STRING", type := .int, accessFlags := 25, slot := 1, constantValue := 0 }, { name := "TEXT_STRING", type := .int, accessFlags := 25, slot := 2, constantValue := 0 }, { name := "ARRAY", type := .int, accessFlags := 25, slot := 3, constantValue := 0 }, { name := "MAP", type := .int, accessFlags := 25, slot := 4, constantValue := 0 }, { name := "TAG", type := .int, accessFlags := 25, slot := 5, constantValue := 0 }, { name := "SIMPLE", type := .int, accessFlags := 25, slot := 6, constantValue := 0 }, { name := "INDEFINITE", type := .int, accessFlags := 25, slot := 7, constantValue := 0 }, { name := "MAX_SIZE", type := .int, accessFlags := 24, slot := 8, constantValue := 0 }, { name := "ONE_BYTE_ARGUMENT", type := .int, accessFlags := 26, slot := 9, constantValue := 0 }, { name := "EIGHT_BYTE_ARGUMENT", type := .int, accessFlags := 26, slot := 10, constantValue := 0 }, { name := "LOWEST_TWO_BYTE_SIMPLE", type := .int, accessFlags := 26, slot := 11, constantValue := 0 }, { name := "TWO_BYTE_SIMPLE", type := .int, accessFlags := 24, slot := 12, constantValue := 0 }, { name := "NO_ITEM", type := (.object "java/lang/String"), accessFlags := 24, slot := 13, constantValue := 0 }, { name := "TYPE_NAMES", type := (.array (.object "java/lang/String")), accessFlags := 26, slot := 14, constantValue := 0 }]
  methods := #[k3m0, k3m1]
  instanceTypes := #[.int, .int, .long, .int]
  staticTypes := #[.int, .int, .int, .int, .int, .int, .int, .int, .int, .int, .int, .int, .int, (.object "java/lang/String"), (.array (.object "java/lang/String"))]
  resolved := Array.replicate 274 none
  statics := none }

def pool4 : Array CpInfo := pool [(1, u "java/lang/Cloneable"), (0, .class_ 1), (0, u "java/lang/Object"), (0, .class_ 3)] 3

/-- java/lang/Cloneable -/
def k4 : Class := { plain "java/lang/Cloneable" (some 0) with
  accessFlags := 1537
  interfaces := #[]
  cf := some (fileOf pool4 2 #[] #[] 1537 4 #[] #[])
  fields := #[]
  methods := #[]
  instanceTypes := #[]
  staticTypes := #[]
  resolved := Array.replicate 8 none
  statics := none }

def pool5 : Array CpInfo := pool [(1, u "java/io/Serializable"), (0, .class_ 1), (0, u "java/lang/Object"), (0, .class_ 3)] 3

/-- java/io/Serializable -/
def k5 : Class := { plain "java/io/Serializable" (some 0) with
  accessFlags := 1537
  interfaces := #[]
  cf := some (fileOf pool5 2 #[] #[] 1537 4 #[] #[])
  fields := #[]
  methods := #[]
  instanceTypes := #[]
  staticTypes := #[]
  resolved := Array.replicate 8 none
  statics := none }

/-- the primitive byte -/
def k6 : Class := { plain "byte" none with kind := .primitive 'B', accessFlags := 0x411 }
/-- [B -/
def k7 : Class := { plain "[B" (some 0) with kind := .array 6 .byte, interfaces := #[4, 5], accessFlags := 1041 }

/-- the primitive int -/
def k8 : Class := { plain "int" none with kind := .primitive 'I', accessFlags := 0x411 }
/-- [I -/
def k9 : Class := { plain "[I" (some 0) with kind := .array 8 .int, interfaces := #[4, 5], accessFlags := 1041 }

def heap : Heap := #[]
def classes : Array Class := #[k0, k1, k2, k3, k4, k5, k6, k7, k8, k9]
def interned : List (Array UInt16 × Addr) := []
def slotsUsed : Nat := 0
def theMethod : MethodId := ⟨1, 1⟩
def args0 : Array Value := #[.int 5, .int 5, .long 5, .int 5]
def aboutOver (below : List Frame) : State where
  vm := { classes := classes, interned := interned.toArray }
  heap := heap
  slotsUsed := slotsUsed
  threads := #[{ frames := .invoking theMethod args0 :: below }]
def below0 : List Frame := [.native { method := ⟨0, 0⟩, args := #[] }]
def about1 : State := aboutOver below0
def p0 : Program := .bare "" "" ""
def e0 : Env := launch0.env 0 0 0
theorem w_frames : about1.frames = Frame.invoking theMethod args0 :: below0 := rfl
set_option maxRecDepth 65536 in
theorem w_args : argsFit about1.vm theMethod args0 = true := by decide +kernel
set_option maxRecDepth 65536 in
theorem w_heap : heapFits about1 = true := by decide +kernel
set_option maxRecDepth 65536 in
theorem w_runnable : about1.curStatus? = some .runnable := by decide +kernel
set_option maxRecDepth 65536 in
theorem w_alone : about1.alone = true := by decide +kernel
set_option maxRecDepth 65536 in
theorem w_named : about1.methodNamed? x = some theMethod := by decide +kernel
set_option maxRecDepth 65536 in
theorem w_hears : about1.hears theMethod below0 = true := by decide +kernel
set_option maxRecDepth 65536 in
theorem w_ripe : about1.ripe theMethod args0 below0 = true := by decide +kernel
theorem w_running : about1.status = .running := rfl
set_option maxRecDepth 65536 in
theorem w_room : about1.hasRoom e0.platform room_1 = true :=
  launch0.hasRoom_least _ room_1 (by decide +kernel) (by decide +kernel) (by decide +kernel) (by decide +kernel) (by decide +kernel) (by decide +kernel)
theorem allAtoms_all (ts : List Jvm.Cond) (a : Array Jvm.Value) (st : Jvm.State) : (allAtoms ts).before a st = ts.all (fun c => c.before a st) := by
  induction ts with
  | nil => rfl
  | cons c t ih =>
    show (Jvm.Cond.and c (allAtoms t)).before a st = _
    rw [Jvm.Cond.before_and, ih, List.all_cons]
def words1 : List Jvm.Cond := Jvm.Cond.code x code maxLocals ret :: tables_1
/-- a 'code' word, met by the world's own term for the bytes: nothing is compared byte by byte -/
theorem code_word {y : MethodName} {bytes : ByteArray} {mx : Nat} {rt : Option FieldType} {a : Array Value} {s : State} {m : MethodId} {meth : Method} {c : Code} (h1 : s.methodNamed? y = some m) (h2 : s.vm.method? m = some meth) (h3 : meth.code = some c) (h4 : c.code = bytes)
    (h5 : (c.maxLocals == mx && c.exceptionTable.isEmpty && decide (c.maxStack ≤ mostOperands) && decide (meth.sig.returnType = rt) && !meth.locks && decide (parseMethodDescriptor y.desc = some meth.sig)) = true) : (Jvm.Cond.code y bytes mx rt).before a s = true := by
  simp only [Bool.and_eq_true, beq_iff_eq, Bool.not_eq_true', decide_eq_true_eq] at h5
  obtain ⟨⟨⟨⟨⟨g1, g2⟩, g3⟩, g4⟩, g5⟩, g6⟩ := h5
  simp [Cond.before, Cond.holds, Cond.value, h1, h2, h3, h4, g1, g2, g3, g4, g5, g6]
def isCode : Jvm.Cond → Bool
  | .code _ _ _ _ => true
  | _ => false
theorem all_split {L : List Jvm.Cond} {P : Jvm.Cond → Bool} (h1 : L.all (fun c => isCode c || P c) = true) (h2 : ∀ c ∈ L.filter isCode, P c = true) : L.all P = true := by
  refine List.all_eq_true.mpr fun c hc => ?_
  have h := List.all_eq_true.mp h1 c hc
  rcases Bool.eq_false_or_eq_true (isCode c) with hi | hi
  · exact h2 c (List.mem_filter.mpr ⟨hc, hi⟩)
  · simpa [hi] using h
set_option maxRecDepth 65536 in
theorem w_c0 : (Jvm.Cond.code x code maxLocals ret).before args0 about1 = true := code_word (m := ⟨1, 1⟩) (meth := k1m1) (c := k1c1) (by decide +kernel) rfl rfl rfl (by decide +kernel)
set_option maxRecDepth 65536 in
theorem w_c1 : (Jvm.Cond.code ({ cls := "com/example/partwise/partwise/cbor/Head", name := "<init>", desc := "(IIJI)V" } : Jvm.MethodName) prog_4_method_1_code (6 : Nat) (Option.none : Option Jvm.ClassFile.FieldType)).before args0 about1 = true := code_word (m := ⟨3, 0⟩) (meth := k3m0) (c := k3c0) (by decide +kernel) rfl rfl rfl (by decide +kernel)
set_option maxRecDepth 65536 in
theorem w_c2 : (Jvm.Cond.code ({ cls := "java/lang/Record", name := "<init>", desc := "()V" } : Jvm.MethodName) jdk_30_method_1_code (1 : Nat) (Option.none : Option Jvm.ClassFile.FieldType)).before args0 about1 = true := code_word (m := ⟨2, 0⟩) (meth := k2m0) (c := k2c0) (by decide +kernel) rfl rfl rfl (by decide +kernel)
set_option maxRecDepth 65536 in
theorem w_c3 : (Jvm.Cond.code ({ cls := "java/lang/Object", name := "<init>", desc := "()V" } : Jvm.MethodName) object_method_1_code (1 : Nat) (Option.none : Option Jvm.ClassFile.FieldType)).before args0 about1 = true := code_word (m := ⟨0, 0⟩) (meth := k0m0) (c := k0c0) (by decide +kernel) rfl rfl rfl (by decide +kernel)
set_option maxRecDepth 65536 in
theorem w_c4 : (Jvm.Cond.code ({ cls := "com/example/partwise/partwise/cbor/Head", name := "isBreak", desc := "()Z" } : Jvm.MethodName) prog_4_method_9_code (1 : Nat) (Option.some Jvm.ClassFile.FieldType.boolean)).before args0 about1 = true := code_word (m := ⟨3, 1⟩) (meth := k3m1) (c := k3c1) (by decide +kernel) rfl rfl rfl (by decide +kernel)
def codes1 : List Jvm.Cond := [Jvm.Cond.code x code maxLocals ret, Jvm.Cond.code ({ cls := "com/example/partwise/partwise/cbor/Head", name := "<init>", desc := "(IIJI)V" } : Jvm.MethodName) prog_4_method_1_code (6 : Nat) (Option.none : Option Jvm.ClassFile.FieldType), Jvm.Cond.code ({ cls := "java/lang/Record", name := "<init>", desc := "()V" } : Jvm.MethodName) jdk_30_method_1_code (1 : Nat) (Option.none : Option Jvm.ClassFile.FieldType), Jvm.Cond.code ({ cls := "java/lang/Object", name := "<init>", desc := "()V" } : Jvm.MethodName) object_method_1_code (1 : Nat) (Option.none : Option Jvm.ClassFile.FieldType), Jvm.Cond.code ({ cls := "com/example/partwise/partwise/cbor/Head", name := "isBreak", desc := "()Z" } : Jvm.MethodName) prog_4_method_9_code (1 : Nat) (Option.some Jvm.ClassFile.FieldType.boolean)]
set_option maxRecDepth 65536 in
theorem codes_eq : words1.filter isCode = codes1 := rfl
theorem w_codes : ∀ c ∈ words1.filter isCode, c.before args0 about1 = true := by
  rw [codes_eq]
  intro c hc
  simp only [codes1, List.mem_cons, List.not_mem_nil, or_false] at hc
  rcases hc with rfl | rfl | rfl | rfl | rfl
  · exact w_c0
  · exact w_c1
  · exact w_c2
  · exact w_c3
  · exact w_c4
set_option maxRecDepth 65536 in
theorem w_t1 : (words1.take 24).all (fun c => isCode c || c.before args0 about1) = true := by decide +kernel
set_option maxRecDepth 65536 in
theorem w_t2 : (words1.drop 24).all (fun c => isCode c || c.before args0 about1) = true := by decide +kernel
theorem w_tables : (allAtoms (Jvm.Cond.code x code maxLocals ret :: tables_1)).before args0 about1 = true := by
  rw [allAtoms_all]
  show words1.all (fun c => c.before args0 about1) = true
  refine all_split ?_ w_codes
  rw [← List.take_append_drop 24 words1, List.all_append, w_t1, w_t2]
  rfl
set_option maxRecDepth 65536 in
theorem w_case : (Jvm.Cond.and given_1 narrow_1).before args0 about1 = true := by decide +kernel
theorem w_applies : (headSpec (Jvm.Cond.code x code maxLocals ret :: tables_1) room_1).applies x e0.platform about1 = true :=
  (Spec.applies_iff w_frames).mpr ⟨w_running, w_runnable, w_alone, w_named, w_hears, w_ripe, w_room, w_tables⟩
theorem atStart : AtStart classFile x code maxLocals ret World_1 tables_1 room_1 Calls_1 rest_1 Pre_1 launch0 p0 e0 about1 theMethod args0 below0 :=
  ⟨lists_1, trivial, launch0.admits_env _ _ _, launch0.least_env, fairChoices_fair.cas, fairChoices_fair.clock, w_frames, w_args, w_heap, w_applies, trivial, trivial, w_case⟩
end start1
theorem witness_1 : WitnessClaimed_1 := ⟨start1.p0, start1.e0, start1.about1, start1.theMethod, start1.args0, start1.below0, start1.atStart⟩
end Jvm.Pilot.@@N@@
