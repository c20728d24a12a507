import JvmDerived
import JvmDerived.Pilot.@@N@@Statement
import JvmDerived.Pilot.@@N@@Code
set_option linter.unusedVariables false
set_option linter.unusedSimpArgs false
namespace Jvm.RoadKit
open Sem ClassFile Op Lib Jvm.Stand Jvm.Free Jvm.LawKit
section New
variable {p : Program} {l : Launch} {e : Env} {R : Room} {s : State} {m : MethodId} {args : Array Value} {below : List Frame} {meth : Method} {c : Code} {T : State} {locs : List Loc} {cells slots : Nat}
theorem retI (X : Stand p l e R s m args below meth c T locs cells slots) (hx : p.tables.exec = Jvm.exec) {pc : Nat} {Ls : Array Slot} {z : Int32} {rest : List Value} (hret : meth.sig.returnType = some .int) (hd : decode c.code pc = .ok (.ireturn, 1)) {fs : List Frame}
    (hl : ∀ (f : JFrame) (acts : List Action), f.method = m → f.locked = none → f.entered = [] → (doReturn e (T.setTop f) acts (some (.int z))).1 = T.setFrames fs) : Steps p.tables e below (T.setTop (mkF m pc Ls (.int z :: rest))) (T.setFrames fs) := by
  have hm' : T.vm.method? m = some meth := X.method'
  have hn : narrow .int (.int z) = .int z := rfl
  show Steps p.tables e below (T.setTop { method := m, pc := pc, locals := Ls, stack := _ :: rest, locked := none }) _
  jvm_step X.here [X.here.top, hx, hd, hm', hret, hn]
  first | (intro acts; rw [hl _ acts rfl rfl rfl]) | rw [hl _ _ rfl rfl rfl]
  exact Steps.refl _
theorem retA (X : Stand p l e R s m args below meth c T locs cells slots) (hx : p.tables.exec = Jvm.exec) {pc : Nat} {Ls : Array Slot} {z : Addr} {rest : List Value} {t : FieldType} (hret : meth.sig.returnType = some t) (ht : t.isReference = true) (hd : decode c.code pc = .ok (.areturn, 1)) {fs : List Frame}
    (hl : ∀ (f : JFrame) (acts : List Action), f.method = m → f.locked = none → f.entered = [] → (doReturn e (T.setTop f) acts (some (.ref z))).1 = T.setFrames fs) : Steps p.tables e below (T.setTop (mkF m pc Ls (.ref z :: rest))) (T.setFrames fs) := by
  have hm' : T.vm.method? m = some meth := X.method'
  show Steps p.tables e below (T.setTop { method := m, pc := pc, locals := Ls, stack := _ :: rest, locked := none }) _
  jvm_step X.here [X.here.top, hx, hd, hm', hret, ht, Value.isRef]
  first | (intro acts; rw [hl _ acts rfl rfl rfl]) | rw [hl _ _ rfl rfl rfl]
  exact Steps.refl _
theorem retJ (X : Stand p l e R s m args below meth c T locs cells slots) (hx : p.tables.exec = Jvm.exec) {pc : Nat} {Ls : Array Slot} {z : Int64} {rest : List Value} (hret : meth.sig.returnType = some .long) (hd : decode c.code pc = .ok (.lreturn, 1)) {fs : List Frame}
    (hl : ∀ (f : JFrame) (acts : List Action), f.method = m → f.locked = none → f.entered = [] → (doReturn e (T.setTop f) acts (some (.long z))).1 = T.setFrames fs) : Steps p.tables e below (T.setTop (mkF m pc Ls (.long z :: rest))) (T.setFrames fs) := by
  have hm' : T.vm.method? m = some meth := X.method'
  show Steps p.tables e below (T.setTop { method := m, pc := pc, locals := Ls, stack := _ :: rest, locked := none }) _
  jvm_step X.here [X.here.top, hx, hd, hm', hret]
  first | (intro acts; rw [hl _ acts rfl rfl rfl]) | rw [hl _ _ rfl rfl rfl]
  exact Steps.refl _
end New
end Jvm.RoadKit
namespace Jvm.Pilot.@@N@@
open Jvm Jvm.ClassFile Sem Op Lib Jvm.Free Jvm.Stand Jvm.LawKit Jvm.RoadKit Bundle Jvm.Pilot.@@N@@.Jvm.D
/-! My own frame of a walk: 'Done' says: from this frame the run ends, and Q holds of what came back, of the heap, and of the places written. -/
def Done (p : Program) (e : Env) (below : List Frame) (s : State) (R : Room) (Q : Option Value → Heap → List Loc → Prop) (T : State) (g : JFrame) : Prop :=
  ∃ s₂ o, Steps p.tables e below (T.setTop g) s₂ ∧ s₂.status = .running ∧ Ended s₂ below o ∧ ∃ v L, o = .returned v ∧ Q v s₂.heap L ∧ FrameEnd s o s₂ L R.cells R.slots
def Qp (h0 : Heap) (n0 : Nat) (z : Value) (v : Option Value) (h : Heap) (L : List Loc) : Prop := v = some z ∧ Fr n0 L ∧ h = h0
def Qv (h0 : Heap) (n0 : Nat) (v : Option Value) (h : Heap) (L : List Loc) : Prop := v = none ∧ Fr n0 L ∧ h = h0
def Ql (n0 : Nat) (z : Value) (v : Option Value) (h : Heap) (L : List Loc) : Prop := v = some z ∧ Fr n0 L
theorem Done.of {p : Program} {e : Env} {below : List Frame} {s : State} {R : Room} {Q : Option Value → Heap → List Loc → Prop} {T T' : State} {g g' : JFrame}
    (st : ∀ t, Steps p.tables e below (T'.setTop g') t → Steps p.tables e below (T.setTop g) t) (d : Done p e below s R Q T' g') : Done p e below s R Q T g := by
  obtain ⟨s₂, o, h1, h2⟩ := d
  exact ⟨s₂, o, st _ h1, h2⟩
section Ends
variable {p : Program} {l : Launch} {e : Env} {R : Room} {s : State} {m : MethodId} {args : Array Value} {below : List Frame} {meth : Method} {c : Code} {T : State} {locs : List Loc} {cells slots : Nat} {Q : Option Value → Heap → List Loc → Prop}
theorem doneI (X : Stand p l e R s m args below meth c T locs cells slots) (hx : p.tables.exec = Jvm.exec) {pc : Nat} {Ls : Array Slot} {z : Int32} {rest : List Value} (hret : meth.sig.returnType = some .int) (hlk : meth.locks = false) (hd : decode c.code pc = .ok (.ireturn, 1))
    (hQ : Q (some (.int z)) T.heap locs) (hc : cells ≤ R.cells) (hs : slots ≤ R.slots) : Done p e below s R Q T (mkF m pc Ls (.int z :: rest)) := by
  obtain ⟨fs, hr, hrun, hended, hW, hsame⟩ := X.leave (v := some (.int z)) (fun h => by rw [hret] at h; cases h) hlk
  exact ⟨_, _, retI X hx hret hd hr, hrun, hended, _, _, rfl, hQ, ⟨_, rfl⟩, hW, hsame.mono hc hs⟩
theorem doneN (t : FieldType) (X : Stand p l e R s m args below meth c T locs cells slots) (ht : t = .boolean ∨ t = .byte ∨ t = .char ∨ t = .short) (hx : p.tables.exec = Jvm.exec) {pc : Nat} {Ls : Array Slot} {z : Int32} {rest : List Value} (hret : meth.sig.returnType = some t) (hlk : meth.locks = false) (hd : decode c.code pc = .ok (.ireturn, 1))
    (hQ : Q (some (.int (nar t z))) T.heap locs) (hc : cells ≤ R.cells) (hs : slots ≤ R.slots) : Done p e below s R Q T (mkF m pc Ls (.int z :: rest)) := by
  obtain ⟨fs, hr, hrun, hended, hW, hsame⟩ := X.leave (v := some (.int (nar t z))) (fun h => by rw [hret] at h; cases h) hlk
  exact ⟨_, _, retN X hx hret ht hd hr, hrun, hended, _, _, rfl, hQ, ⟨_, rfl⟩, hW, hsame.mono hc hs⟩
theorem doneJ (X : Stand p l e R s m args below meth c T locs cells slots) (hx : p.tables.exec = Jvm.exec) {pc : Nat} {Ls : Array Slot} {z : Int64} {rest : List Value} (hret : meth.sig.returnType = some .long) (hlk : meth.locks = false) (hd : decode c.code pc = .ok (.lreturn, 1))
    (hQ : Q (some (.long z)) T.heap locs) (hc : cells ≤ R.cells) (hs : slots ≤ R.slots) : Done p e below s R Q T (mkF m pc Ls (.long z :: rest)) := by
  obtain ⟨fs, hr, hrun, hended, hW, hsame⟩ := X.leave (v := some (.long z)) (fun h => by rw [hret] at h; cases h) hlk
  exact ⟨_, _, retJ X hx hret hd hr, hrun, hended, _, _, rfl, hQ, ⟨_, rfl⟩, hW, hsame.mono hc hs⟩
theorem doneA (X : Stand p l e R s m args below meth c T locs cells slots) (hx : p.tables.exec = Jvm.exec) {pc : Nat} {Ls : Array Slot} {z : Addr} {rest : List Value} {t : FieldType} (hret : meth.sig.returnType = some t) (ht : t.isReference = true) (hlk : meth.locks = false) (hd : decode c.code pc = .ok (.areturn, 1))
    (hQ : Q (some (.ref z)) T.heap locs) (hc : cells ≤ R.cells) (hs : slots ≤ R.slots) : Done p e below s R Q T (mkF m pc Ls (.ref z :: rest)) := by
  obtain ⟨fs, hr, hrun, hended, hW, hsame⟩ := X.leave (v := some (.ref z)) (fun h => by rw [hret] at h; cases h) hlk
  exact ⟨_, _, retA X hx hret ht hd hr, hrun, hended, _, _, rfl, hQ, ⟨_, rfl⟩, hW, hsame.mono hc hs⟩
theorem doneV (X : Stand p l e R s m args below meth c T locs cells slots) (hx : p.tables.exec = Jvm.exec) {pc : Nat} {Ls : Array Slot} (hret : meth.sig.returnType = none) (hlk : meth.locks = false) (hd : decode c.code pc = .ok (.return_, 1))
    (hQ : Q none T.heap locs) (hc : cells ≤ R.cells) (hs : slots ≤ R.slots) : Done p e below s R Q T (mkF m pc Ls []) := by
  obtain ⟨fs, hr, hrun, hended, hW, hsame⟩ := X.leave (v := none) (fun _ => rfl) hlk
  exact ⟨_, _, X.returnOut hx hret hd hr, hrun, hended, _, _, rfl, hQ, ⟨_, rfl⟩, hW, hsame.mono hc hs⟩
end Ends
theorem lcLt_t {x y : Int64} (h : x < y) : ifCond.holds .lt (lcmpW x y) = true ∧ ifCond.holds .ge (lcmpW x y) = false := ⟨(if0 _ _).trans (tlt ((lw_lt x y).mpr h)).1, (if0 _ _).trans (tlt ((lw_lt x y).mpr h)).2.1⟩
theorem lcLt_f {x y : Int64} (h : ¬ x < y) : ifCond.holds .lt (lcmpW x y) = false ∧ ifCond.holds .ge (lcmpW x y) = true := ⟨(if0 _ _).trans (flt (fun q => h ((lw_lt x y).mp q))).1, (if0 _ _).trans (flt (fun q => h ((lw_lt x y).mp q))).2.1⟩
theorem lcGt_t {x y : Int64} (h : y < x) : ifCond.holds .gt (lcmpW x y) = true ∧ ifCond.holds .le (lcmpW x y) = false := ⟨(if0 _ _).trans (tlt ((lw_gt x y).mpr h)).2.2.1, (if0 _ _).trans (tlt ((lw_gt x y).mpr h)).2.2.2⟩
theorem lcGt_f {x y : Int64} (h : ¬ y < x) : ifCond.holds .gt (lcmpW x y) = false ∧ ifCond.holds .le (lcmpW x y) = true := ⟨(if0 _ _).trans (flt (fun q => h ((lw_gt x y).mp q))).2.2.1, (if0 _ _).trans (flt (fun q => h ((lw_gt x y).mp q))).2.2.2⟩
theorem lcEq_t {x y : Int64} (h : x = y) : ifCond.holds .eq (lcmpW x y) = true ∧ ifCond.holds .ne (lcmpW x y) = false := ⟨(if0 _ _).trans (teq ((lw_eq x y).mpr h)).1, (if0 _ _).trans (teq ((lw_eq x y).mpr h)).2⟩
theorem lcEq_f {x y : Int64} (h : ¬ x = y) : ifCond.holds .eq (lcmpW x y) = false ∧ ifCond.holds .ne (lcmpW x y) = true := ⟨(if0 _ _).trans (feq (fun q => h ((lw_eq x y).mp q))).1, (if0 _ _).trans (feq (fun q => h ((lw_eq x y).mp q))).2⟩
theorem own_selP {s : State} {args : Array Value} {y : MethodName} {n : Nat} (hins : (Cond.instantiable y.cls n).before args s = true) (hpriv : (Cond.privateMethod y).before args s = true) (hinst : (Cond.instanceMethod y).before args s = true) (hy : y.cls ≠ "java/lang/invoke/MethodHandle" ∧ y.cls ≠ "java/lang/invoke/VarHandle") :
    (Cond.selects y.cls y y).before args s = true := by
  obtain ⟨c, k, hc, hk, -, hniab, -, -⟩ := Cond.instantiable_spec hins
  exact selects_self_of_private hc hk (Bool.or_eq_false_iff.mp hniab).1 (Cond.privateMethod_at hpriv) hinst hy
theorem own_hat {c : Cell} {vs : List Int32} {j : Int32} (H : Has c (vs.map Value.int) (.int (0 : Int32))) (hin : ¬ (j < 0 ∨ c.slots.size ≤ j.toNatClampNeg)) : c.slots[j.toNatClampNeg]? = some (.int (vs.getD j.toNatClampNeg 0)) := by
  rw [H j.toNatClampNeg (Nat.lt_of_not_le fun q => hin (Or.inr q))]
  simp only [List.getD_eq_getElem?_getD, List.getElem?_map]
  cases vs[j.toNatClampNeg]? <;> rfl
theorem own_fin {n : Nat} (c : Int32) (h0 : 0 ≤ c.toInt) (h1 : c.toInt < n) : ∃ i : Fin n, c = Int32.ofInt (i.1 : Int) :=
  ⟨⟨c.toInt.toNat, by omega⟩, by show c = Int32.ofInt ((c.toInt.toNat : Nat) : Int); rw [Int.toNat_of_nonneg h0]; exact (Int32.ofInt_toInt c).symm⟩
theorem own_set (N i : Nat) (f : Nat → Int32) (v : Int32) : ((List.range N).map fun j => Value.int (f j)).set i (.int v) = (List.range N).map fun j => Value.int (if j = i then v else f j) := by
  apply List.ext_getElem
  · simp
  · intro k h1 h2
    rw [List.getElem_set]
    simp only [List.getElem_map, List.getElem_range]
    by_cases q : i = k
    · rw [if_pos q, if_pos q.symm]
    · rw [if_neg q, if_neg (Ne.symm q)]
theorem own_setA {Z : State} {h : Heap} {a : Addr} {k : ClassId} {ty : FieldType} {z : Int32} {N i : Nat} {f : Nat → Int32} {v : Int32} {dv : Value} (A : Arv Z h a k ty z (((List.range N).map fun j => Value.int (f j)).set i (.int v)) dv) :
    Arv Z h a k ty z ((List.range N).map fun j => Value.int (if j = i then v else f j)) dv := by rw [← own_set]; exact A
theorem own_hatF {c : Cell} {N : Nat} {f : Nat → Int32} {j : Int32} {d : Value} (H : Has c ((List.range N).map fun j => Value.int (f j)) d) (hN : c.slots.size = N) (hin : ¬ (j < 0 ∨ c.slots.size ≤ j.toNatClampNeg)) : c.slots[j.toNatClampNeg]? = some (.int (f j.toNatClampNeg)) := by
  have hl : j.toNatClampNeg < c.slots.size := Nat.lt_of_not_le fun q => hin (Or.inr q)
  rw [H j.toNatClampNeg hl, List.getD_eq_getElem?_getD, List.getElem?_map, List.getElem?_range (by omega)]
  rfl
theorem own_sz {c : Cell} {z : Int32} {N : Nat} (S : c.slots.size = z.toNatClampNeg) (h : z.toNatClampNeg = N := by decide) : c.slots.size = N := S.trans h
theorem own_len {c : Cell} {z j : Int32} {N : Nat} {f : Nat → Int32} (S : c.slots.size = z.toNatClampNeg) (hin : ¬ (j < 0 ∨ c.slots.size ≤ j.toNatClampNeg)) (h : z.toNatClampNeg = N := by decide) : j.toNatClampNeg < ((List.range N).map fun j => Value.int (f j)).length := by
  have : j.toNatClampNeg < c.slots.size := Nat.lt_of_not_le fun q => hin (Or.inr q)
  rw [List.length_map, List.length_range]; omega
theorem d1_0 : decode jdk_29_method_65_code 0 = .ok (.iload_n 0, 1) := by decide +kernel
theorem d1_1 : decode jdk_29_method_65_code 1 = .ok (.iload_n 1, 1) := by decide +kernel
theorem d1_2 : decode jdk_29_method_65_code 2 = .ok (.if_icmp .lt 7, 3) := by decide +kernel
theorem d1_5 : decode jdk_29_method_65_code 5 = .ok (.iload_n 0, 1) := by decide +kernel
theorem d1_6 : decode jdk_29_method_65_code 6 = .ok (.goto 4, 3) := by decide +kernel
theorem d1_9 : decode jdk_29_method_65_code 9 = .ok (.iload_n 1, 1) := by decide +kernel
theorem d1_10 : decode jdk_29_method_65_code 10 = .ok (.ireturn, 1) := by decide +kernel
def F1_0 (p1 : Int32) (p2 : Int32) : Int32 := (if p1 < p2 then p2 else p1)
set_option maxRecDepth 65536 in
set_option maxHeartbeats 40000000 in
theorem bk1_0 {p : Program} {l : Launch} {e : Env} {s : State} {m : MethodId} {args : Array Value} {below : List Frame} {meth : Method} {c : Code} {T0 : State} {locs : List Loc} {Z : State} {a0 : Array Value} {h0 : Heap} {n0 : Nat}
    (hx : p.tables.exec = Jvm.exec) (hZ : Z.Warmed39 s.vm) (hw : ∀ d ∈ tables_1, d.before a0 Z = true) (hby : c.code = jdk_29_method_65_code) (hml : c.maxLocals = 2) (hown : s.vm.findClass "java/lang/Math" = some m.cls) (hnm : meth.name = "max") (hret : meth.sig.returnType = some .int) (hlk : meth.locks = false)
    (X0 : Stand p l e ({ frames := 0, cells := 0, slots := 0, locals := 0 } : Room) s m args below meth c T0 locs 0 0) (N0 : Fr n0 locs) (e0 : T0.heap = h0) (p1 : Int32) (p2 : Int32) :
    Done p e below s ({ frames := 0, cells := 0, slots := 0, locals := 0 } : Room) (Qp h0 n0 (.int (F1_0 p1 p2))) T0 (mkF m 0 #[.val (.int p1), .val (.int p2)] []) := by
  unfold F1_0
  refine Done.of (T' := T0) (g' := (mkF m 2 #[.val (.int p1), .val (.int p2)] [(.int p2), (.int p1)])) (fun t k => ?_) ?_
  · show Steps p.tables e below (T0.setTop (mkF m 0 #[.val (.int p1), .val (.int p2)] [])) t
    refine XS.iloadN X0.here hx rfl (hb hby d1_0) rfl ?_
    show Steps p.tables e below (T0.setTop (mkF m 1 #[.val (.int p1), .val (.int p2)] [(.int p1)])) t
    refine XS.iloadN X0.here hx rfl (hb hby d1_1) rfl ?_
    exact k
  by_cases hc2_0 : p1 < p2
  · rw [if_pos hc2_0]
    refine Done.of (T' := T0) (g' := (mkF m 10 #[.val (.int p1), .val (.int p2)] [(.int p2)])) (fun t k => ?_) ?_
    · show Steps p.tables e below (T0.setTop (mkF m 2 #[.val (.int p1), .val (.int p2)] [(.int p2), (.int p1)])) t
      refine XS.icmpYes X0.here hx rfl (pc0 := 2) (pc' := 9) rfl (hb hby d1_2) rfl (tlt hc2_0).1 (by decide) (by decide) ?_
      show Steps p.tables e below (T0.setTop (mkF m 9 #[.val (.int p1), .val (.int p2)] [])) t
      refine XS.iloadN X0.here hx rfl (hb hby d1_9) rfl ?_
      exact k
    exact doneI X0 hx hret hlk (hb hby d1_10) ⟨rfl, N0, e0⟩ (by decide) (by decide)
  · rw [if_neg hc2_0]
    refine Done.of (T' := T0) (g' := (mkF m 10 #[.val (.int p1), .val (.int p2)] [(.int p1)])) (fun t k => ?_) ?_
    · show Steps p.tables e below (T0.setTop (mkF m 2 #[.val (.int p1), .val (.int p2)] [(.int p2), (.int p1)])) t
      refine XS.icmpNo X0.here hx rfl (hb hby d1_2) rfl (flt hc2_0).1 ?_
      show Steps p.tables e below (T0.setTop (mkF m 5 #[.val (.int p1), .val (.int p2)] [])) t
      refine XS.iloadN X0.here hx rfl (hb hby d1_5) rfl ?_
      show Steps p.tables e below (T0.setTop (mkF m 6 #[.val (.int p1), .val (.int p2)] [(.int p1)])) t
      refine XS.goto X0.here hx rfl (pc0 := 6) (pc' := 10) rfl (hb hby d1_6) (by decide) (by decide) ?_
      exact k
    exact doneI X0 hx hret hlk (hb hby d1_10) ⟨rfl, N0, e0⟩ (by decide) (by decide)
theorem ef_1 (m : MethodId) (p1 : Int32) (p2 : Int32) : entryFrame m #[(.int p1), (.int p2)] 2 = mkF m 0 #[.val (.int p1), .val (.int p2)] [] := by first | (simp [entryFrame, mkF, argsToLocals, Value.category, maxLocals]; done) | rfl
set_option maxRecDepth 65536 in
set_option maxHeartbeats 40000000 in
theorem rm1 (l : Launch) (Z : State) (a0 : Array Value) (hw : ∀ d ∈ tables_1, d.before a0 Z = true) (ws : List Jvm.Cond) (p1 : Int32) (p2 : Int32) (h0 : Heap) (n0 : Nat) :
    MetFree l (⟨"java/lang/Math", "max", "(II)I"⟩ : MethodName) (head1 (Jvm.Cond.code (⟨"java/lang/Math", "max", "(II)I"⟩ : MethodName) jdk_29_method_65_code 2 (some .int) :: ws) ({ frames := 0, cells := 0, slots := 0, locals := 0 } : Room)) (fun a U => a = #[(.int p1), (.int p2)] ∧ Z.Warmed39 U.vm ∧ U.heap = h0) (fun _ _ _ _ _ => True) (fun _ U o U' => ∃ v L, o = .returned v ∧ (Qp h0 n0 (.int (F1_0 p1 p2))) v U'.heap L ∧ FrameEnd U o U' L ({ frames := 0, cells := 0, slots := 0, locals := 0 } : Room).cells ({ frames := 0, cells := 0, slots := 0, locals := 0 } : Room).slots) := by
  refine MetFree.of_bodySF (Jvm.Free.JP.mathPlain rfl (by decide +kernel)) hisR ?_
  intro p e s m args below meth c s₁ Bd hml0 hP hK
  obtain ⟨rfl, hZ, hh⟩ := hP
  have hown : s.vm.findClass "java/lang/Math" = some m.cls := findClass_of_methodNamed Bd.named
  have hnm := (name_of_methodNamed Bd.named Bd.method).1
  have X0 : Stand p l e ({ frames := 0, cells := 0, slots := 0, locals := 0 } : Room) s m #[(.int p1), (.int p2)] below meth c s₁ [] 0 0 := Stand.of_body Bd
  have e0 : s₁.heap = h0 := by rw [← hh, Bd.state]; rfl
  have d := bk1_0 (n0 := n0) Bd.exec hZ hw Bd.bytes hml0 hown hnm Bd.returns (BodyLoose.notSynchronized Bd) X0 (Fr.nil n0) e0 p1 p2
  have d2 : Done p e below s ({ frames := 0, cells := 0, slots := 0, locals := 0 } : Room) (Qp h0 n0 (.int (F1_0 p1 p2))) s₁ (entryFrame m #[(.int p1), (.int p2)] 2) := by rw [ef_1]; exact d
  exact d2
theorem d2_0 : decode jdk_29_method_66_code 0 = .ok (.lload_n 0, 1) := by decide +kernel
theorem d2_1 : decode jdk_29_method_66_code 1 = .ok (.lload_n 2, 1) := by decide +kernel
theorem d2_2 : decode jdk_29_method_66_code 2 = .ok (.lcmp, 1) := by decide +kernel
theorem d2_3 : decode jdk_29_method_66_code 3 = .ok (.ifCond .lt 7, 3) := by decide +kernel
theorem d2_6 : decode jdk_29_method_66_code 6 = .ok (.lload_n 0, 1) := by decide +kernel
theorem d2_7 : decode jdk_29_method_66_code 7 = .ok (.goto 4, 3) := by decide +kernel
theorem d2_10 : decode jdk_29_method_66_code 10 = .ok (.lload_n 2, 1) := by decide +kernel
theorem d2_11 : decode jdk_29_method_66_code 11 = .ok (.lreturn, 1) := by decide +kernel
def F2_0 (q1 : Int64) (q2 : Int64) : Int64 := (if q1 < q2 then q2 else q1)
set_option maxRecDepth 65536 in
set_option maxHeartbeats 40000000 in
theorem bk2_0 {p : Program} {l : Launch} {e : Env} {s : State} {m : MethodId} {args : Array Value} {below : List Frame} {meth : Method} {c : Code} {T0 : State} {locs : List Loc} {Z : State} {a0 : Array Value} {h0 : Heap} {n0 : Nat}
    (hx : p.tables.exec = Jvm.exec) (hZ : Z.Warmed39 s.vm) (hw : ∀ d ∈ tables_1, d.before a0 Z = true) (hby : c.code = jdk_29_method_66_code) (hml : c.maxLocals = 4) (hown : s.vm.findClass "java/lang/Math" = some m.cls) (hnm : meth.name = "max") (hret : meth.sig.returnType = some .long) (hlk : meth.locks = false)
    (X0 : Stand p l e ({ frames := 0, cells := 0, slots := 0, locals := 0 } : Room) s m args below meth c T0 locs 0 0) (N0 : Fr n0 locs) (e0 : T0.heap = h0) (q1 : Int64) (q2 : Int64) :
    Done p e below s ({ frames := 0, cells := 0, slots := 0, locals := 0 } : Room) (Qp h0 n0 (.long (F2_0 q1 q2))) T0 (mkF m 0 #[.val (.long q1), .second, .val (.long q2), .second] []) := by
  unfold F2_0
  refine Done.of (T' := T0) (g' := (mkF m 3 #[.val (.long q1), .second, .val (.long q2), .second] [(.int (lcmpW q1 q2))])) (fun t k => ?_) ?_
  · show Steps p.tables e below (T0.setTop (mkF m 0 #[.val (.long q1), .second, .val (.long q2), .second] [])) t
    refine XS.lloadN X0.here hx rfl (hb hby d2_0) rfl ?_
    show Steps p.tables e below (T0.setTop (mkF m 1 #[.val (.long q1), .second, .val (.long q2), .second] [(.long q1)])) t
    refine XS.lloadN X0.here hx rfl (hb hby d2_1) rfl ?_
    show Steps p.tables e below (T0.setTop (mkF m 2 #[.val (.long q1), .second, .val (.long q2), .second] [(.long q2), (.long q1)])) t
    refine XS.lcmp X0.here hx rfl (hb hby d2_2) rfl ?_
    exact k
  by_cases hc3_0 : q1 < q2
  · rw [if_pos hc3_0]
    refine Done.of (T' := T0) (g' := (mkF m 11 #[.val (.long q1), .second, .val (.long q2), .second] [(.long q2)])) (fun t k => ?_) ?_
    · show Steps p.tables e below (T0.setTop (mkF m 3 #[.val (.long q1), .second, .val (.long q2), .second] [(.int (lcmpW q1 q2))])) t
      refine XS.ifYes X0.here hx rfl (pc0 := 3) (pc' := 10) rfl (hb hby d2_3) rfl (lcLt_t hc3_0).1 (by decide) (by decide) ?_
      show Steps p.tables e below (T0.setTop (mkF m 10 #[.val (.long q1), .second, .val (.long q2), .second] [])) t
      refine XS.lloadN X0.here hx rfl (hb hby d2_10) rfl ?_
      exact k
    exact doneJ X0 hx hret hlk (hb hby d2_11) ⟨rfl, N0, e0⟩ (by decide) (by decide)
  · rw [if_neg hc3_0]
    refine Done.of (T' := T0) (g' := (mkF m 11 #[.val (.long q1), .second, .val (.long q2), .second] [(.long q1)])) (fun t k => ?_) ?_
    · show Steps p.tables e below (T0.setTop (mkF m 3 #[.val (.long q1), .second, .val (.long q2), .second] [(.int (lcmpW q1 q2))])) t
      refine XS.ifNo X0.here hx rfl (hb hby d2_3) rfl (lcLt_f hc3_0).1 ?_
      show Steps p.tables e below (T0.setTop (mkF m 6 #[.val (.long q1), .second, .val (.long q2), .second] [])) t
      refine XS.lloadN X0.here hx rfl (hb hby d2_6) rfl ?_
      show Steps p.tables e below (T0.setTop (mkF m 7 #[.val (.long q1), .second, .val (.long q2), .second] [(.long q1)])) t
      refine XS.goto X0.here hx rfl (pc0 := 7) (pc' := 11) rfl (hb hby d2_7) (by decide) (by decide) ?_
      exact k
    exact doneJ X0 hx hret hlk (hb hby d2_11) ⟨rfl, N0, e0⟩ (by decide) (by decide)
theorem ef_2 (m : MethodId) (q1 : Int64) (q2 : Int64) : entryFrame m #[(.long q1), (.long q2)] 4 = mkF m 0 #[.val (.long q1), .second, .val (.long q2), .second] [] := by first | (simp [entryFrame, mkF, argsToLocals, Value.category, maxLocals]; done) | rfl
set_option maxRecDepth 65536 in
set_option maxHeartbeats 40000000 in
theorem rm2 (l : Launch) (Z : State) (a0 : Array Value) (hw : ∀ d ∈ tables_1, d.before a0 Z = true) (ws : List Jvm.Cond) (q1 : Int64) (q2 : Int64) (h0 : Heap) (n0 : Nat) :
    MetFree l (⟨"java/lang/Math", "max", "(JJ)J"⟩ : MethodName) (head1 (Jvm.Cond.code (⟨"java/lang/Math", "max", "(JJ)J"⟩ : MethodName) jdk_29_method_66_code 4 (some .long) :: ws) ({ frames := 0, cells := 0, slots := 0, locals := 0 } : Room)) (fun a U => a = #[(.long q1), (.long q2)] ∧ Z.Warmed39 U.vm ∧ U.heap = h0) (fun _ _ _ _ _ => True) (fun _ U o U' => ∃ v L, o = .returned v ∧ (Qp h0 n0 (.long (F2_0 q1 q2))) v U'.heap L ∧ FrameEnd U o U' L ({ frames := 0, cells := 0, slots := 0, locals := 0 } : Room).cells ({ frames := 0, cells := 0, slots := 0, locals := 0 } : Room).slots) := by
  refine MetFree.of_bodySF (Jvm.Free.JP.mathPlain rfl (by decide +kernel)) hisR ?_
  intro p e s m args below meth c s₁ Bd hml0 hP hK
  obtain ⟨rfl, hZ, hh⟩ := hP
  have hown : s.vm.findClass "java/lang/Math" = some m.cls := findClass_of_methodNamed Bd.named
  have hnm := (name_of_methodNamed Bd.named Bd.method).1
  have X0 : Stand p l e ({ frames := 0, cells := 0, slots := 0, locals := 0 } : Room) s m #[(.long q1), (.long q2)] below meth c s₁ [] 0 0 := Stand.of_body Bd
  have e0 : s₁.heap = h0 := by rw [← hh, Bd.state]; rfl
  have d := bk2_0 (n0 := n0) Bd.exec hZ hw Bd.bytes hml0 hown hnm Bd.returns (BodyLoose.notSynchronized Bd) X0 (Fr.nil n0) e0 q1 q2
  have d2 : Done p e below s ({ frames := 0, cells := 0, slots := 0, locals := 0 } : Room) (Qp h0 n0 (.long (F2_0 q1 q2))) s₁ (entryFrame m #[(.long q1), (.long q2)] 4) := by rw [ef_2]; exact d
  exact d2
theorem d4_0 : decode jdk_30_method_1_code 0 = .ok (.aload_n 0, 1) := by decide +kernel
theorem d4_1 : decode jdk_30_method_1_code 1 = .ok (.invokespecial 1, 3) := by decide +kernel
theorem d4_4 : decode jdk_30_method_1_code 4 = .ok (.return_, 1) := by decide +kernel
set_option maxRecDepth 65536 in
set_option maxHeartbeats 40000000 in
theorem bk4_0 {p : Program} {l : Launch} {e : Env} {s : State} {m : MethodId} {args : Array Value} {below : List Frame} {meth : Method} {c : Code} {T0 : State} {locs : List Loc} {Z : State} {a0 : Array Value} {h0 : Heap} {n0 : Nat}
    (hx : p.tables.exec = Jvm.exec) (hZ : Z.Warmed39 s.vm) (hw : ∀ d ∈ tables_1, d.before a0 Z = true) (hby : c.code = jdk_30_method_1_code) (hml : c.maxLocals = 1) (hown : s.vm.findClass "java/lang/Record" = some m.cls) (hnm : meth.name = "<init>") (hret : meth.sig.returnType = none) (hlk : meth.locks = false)
    (X0 : Stand p l e ({ frames := 1, cells := 0, slots := 0, locals := 12 } : Room) s m args below meth c T0 locs 0 0) (N0 : Fr n0 locs) (e0 : T0.heap = h0) (a1 : Addr) :
    Done p e below s ({ frames := 1, cells := 0, slots := 0, locals := 12 } : Room) (Qv h0 n0) T0 (mkF m 0 #[.val (.ref a1)] []) := by
  refine Done.of (T' := T0) (g' := (mkF m 1 #[.val (.ref a1)] [(.ref a1)])) (fun t k => ?_) ?_
  · show Steps p.tables e below (T0.setTop (mkF m 0 #[.val (.ref a1)] [])) t
    refine XS.aloadN X0.here hx rfl (hb hby d4_0) rfl rfl ?_
    exact k
  obtain ⟨T1, X1, e1, st1⟩ := initO X0 hx hZ hown (hw _ (List.mem_of_getElem? (i := 20) rfl)) (hw _ (List.mem_of_getElem? (i := 21) rfl)) (hw _ (List.mem_of_getElem? (i := 22) rfl)) e0 (g := (mkF m 1 #[.val (.ref a1)] [(.ref a1)])) rfl (by rw [hml]; rfl) rfl (hb hby d4_1) (by decide) (W := 0) (by show 2 * 0 + _ ≤ _; exact Nat.le_of_eq rfl) (by decide)
  refine Done.of (g' := (mkF m 4 #[.val (.ref a1)] [])) st1 ?_
  exact doneV X1 hx hret hlk (hb hby d4_4) ⟨rfl, N0, e1⟩ (by decide) (by decide)
theorem ef_4 (m : MethodId) (a1 : Addr) : entryFrame m #[(.ref a1)] 1 = mkF m 0 #[.val (.ref a1)] [] := by first | (simp [entryFrame, mkF, argsToLocals, Value.category, maxLocals]; done) | rfl
theorem pn_4 : plainFor (⟨"java/lang/Record", "<init>", "()V"⟩ : MethodName) = true := by decide +kernel
set_option maxRecDepth 65536 in
set_option maxHeartbeats 40000000 in
theorem rm4 (l : Launch) (Z : State) (a0 : Array Value) (hw : ∀ d ∈ tables_1, d.before a0 Z = true) (ws : List Jvm.Cond) (a1 : Addr) (h0 : Heap) (n0 : Nat) :
    MetFree l (⟨"java/lang/Record", "<init>", "()V"⟩ : MethodName) (head1 (Jvm.Cond.code (⟨"java/lang/Record", "<init>", "()V"⟩ : MethodName) jdk_30_method_1_code 1 none :: ws) ({ frames := 1, cells := 0, slots := 0, locals := 12 } : Room)) (fun a U => a = #[(.ref a1)] ∧ Z.Warmed39 U.vm ∧ U.heap = h0) (fun _ _ _ _ _ => True) (fun _ U o U' => ∃ v L, o = .returned v ∧ (Qv h0 n0) v U'.heap L ∧ FrameEnd U o U' L ({ frames := 1, cells := 0, slots := 0, locals := 12 } : Room).cells ({ frames := 1, cells := 0, slots := 0, locals := 12 } : Room).slots) := by
  refine MetFree.of_bodySF pn_4 hisR ?_
  intro p e s m args below meth c s₁ Bd hml0 hP hK
  obtain ⟨rfl, hZ, hh⟩ := hP
  have hown : s.vm.findClass "java/lang/Record" = some m.cls := findClass_of_methodNamed Bd.named
  have hnm := (name_of_methodNamed Bd.named Bd.method).1
  have X0 : Stand p l e ({ frames := 1, cells := 0, slots := 0, locals := 12 } : Room) s m #[(.ref a1)] below meth c s₁ [] 0 0 := Stand.of_body Bd
  have e0 : s₁.heap = h0 := by rw [← hh, Bd.state]; rfl
  have d := bk4_0 (n0 := n0) Bd.exec hZ hw Bd.bytes hml0 hown hnm Bd.returns (BodyLoose.notSynchronized Bd) X0 (Fr.nil n0) e0 a1
  have d2 : Done p e below s ({ frames := 1, cells := 0, slots := 0, locals := 12 } : Room) (Qv h0 n0) s₁ (entryFrame m #[(.ref a1)] 1) := by rw [ef_4]; exact d
  exact d2
theorem pd_0 : parseMethodDescriptor "()V" = some ⟨[], none⟩ := by decide +kernel
theorem d3_0 : decode prog_1_method_1_code 0 = .ok (.aload_n 0, 1) := by decide +kernel
theorem d3_1 : decode prog_1_method_1_code 1 = .ok (.invokespecial 3, 3) := by decide +kernel
theorem d3_4 : decode prog_1_method_1_code 4 = .ok (.iload_n 1, 1) := by decide +kernel
theorem d3_5 : decode prog_1_method_1_code 5 = .ok (.iconst 1, 1) := by decide +kernel
theorem d3_6 : decode prog_1_method_1_code 6 = .ok (.if_icmp .ge 17, 3) := by decide +kernel
theorem d3_23 : decode prog_1_method_1_code 23 = .ok (.lload_n 2, 1) := by decide +kernel
theorem d3_24 : decode prog_1_method_1_code 24 = .ok (.lconst 1, 1) := by decide +kernel
theorem d3_25 : decode prog_1_method_1_code 25 = .ok (.lcmp, 1) := by decide +kernel
theorem d3_26 : decode prog_1_method_1_code 26 = .ok (.ifCond .ge 17, 3) := by decide +kernel
theorem d3_43 : decode prog_1_method_1_code 43 = .ok (.aload_n 0, 1) := by decide +kernel
theorem d3_44 : decode prog_1_method_1_code 44 = .ok (.iload_n 1, 1) := by decide +kernel
theorem d3_45 : decode prog_1_method_1_code 45 = .ok (.putfield 21, 3) := by decide +kernel
theorem d3_48 : decode prog_1_method_1_code 48 = .ok (.aload_n 0, 1) := by decide +kernel
theorem d3_49 : decode prog_1_method_1_code 49 = .ok (.lload_n 2, 1) := by decide +kernel
theorem d3_50 : decode prog_1_method_1_code 50 = .ok (.putfield 27, 3) := by decide +kernel
theorem d3_53 : decode prog_1_method_1_code 53 = .ok (.return_, 1) := by decide +kernel
set_option maxRecDepth 65536 in
set_option maxHeartbeats 40000000 in
theorem bk3_0 {p : Program} {l : Launch} {e : Env} {s : State} {m : MethodId} {args : Array Value} {below : List Frame} {meth : Method} {c : Code} {T0 : State} {locs : List Loc} {Z : State} {a0 : Array Value} {h0 : Heap} {n0 : Nat}
    (hx : p.tables.exec = Jvm.exec) (hZ : Z.Warmed39 s.vm) (hw : ∀ d ∈ tables_1, d.before a0 Z = true) (hby : c.code = prog_1_method_1_code) (hml : c.maxLocals = 4) (hown : s.vm.findClass "com/example/partwise/partwise/Limits" = some m.cls) (hnm : meth.name = "<init>") (hret : meth.sig.returnType = none) (hlk : meth.locks = false)
    (X0 : Stand p l e ({ frames := 2, cells := 0, slots := 0, locals := 24 } : Room) s m args below meth c T0 locs 0 0) (N0 : Fr n0 locs) (e0 : T0.heap = h0) (a1 : Addr) (p2 : Int32) (q3 : Int64) (u_maxDepth : Value) (u_maxBytes : Value) (E_a1 : Exa Z h0 a1 "com/example/partwise/partwise/Limits") (F_maxDepth_a1 : Fld Z h0 a1 "com/example/partwise/partwise/Limits" "maxDepth" "I" u_maxDepth) (F_maxBytes_a1 : Fld Z h0 a1 "com/example/partwise/partwise/Limits" "maxBytes" "J" u_maxBytes) (g_a1 : n0 ≤ a1) (hd : ¬ (p2 < (1 : Int32))) (hbt : ¬ (q3 < (1 : Int64))) :
    Done p e below s ({ frames := 2, cells := 0, slots := 0, locals := 24 } : Room) (fun v h L => v = none ∧ Fr n0 L ∧ Keep h0 h [a1] ∧ Exa Z h a1 "com/example/partwise/partwise/Limits" ∧ Fld Z h a1 "com/example/partwise/partwise/Limits" "maxDepth" "I" (.int p2) ∧ Fld Z h a1 "com/example/partwise/partwise/Limits" "maxBytes" "J" (.long q3)) T0 (mkF m 0 #[.val (.ref a1), .val (.int p2), .val (.long q3), .second] []) := by
  refine Done.of (T' := T0) (g' := (mkF m 1 #[.val (.ref a1), .val (.int p2), .val (.long q3), .second] [(.ref a1)])) (fun t k => ?_) ?_
  · show Steps p.tables e below (T0.setTop (mkF m 0 #[.val (.ref a1), .val (.int p2), .val (.long q3), .second] [])) t
    refine XS.aloadN X0.here hx rfl (hb hby d3_0) rfl rfl ?_
    exact k
  obtain ⟨_, _, ⟨T1, L1, k1, n1⟩, -, X1, ⟨Lc1, hQ1, l1, y1, z1⟩, st1⟩ := X0.specialBack hx (y := (⟨"java/lang/Record", "<init>", "()V"⟩ : MethodName)) rfl hown (mvT hZ (hw _ (List.mem_of_getElem? (i := 15) rfl))) (mvT hZ (hw _ (List.mem_of_getElem? (i := 16) rfl))) (mvT hZ (hw _ (List.mem_of_getElem? (i := 19) rfl))) (by decide) (backOf (W := 0) (rm4 l Z a0 hw [] a1 h0 n0) hZ (hw _ (List.mem_of_getElem? (i := 19) rfl)) (hw _ (List.mem_of_getElem? (i := 18) rfl)) (by decide) (by decide)) (g := (mkF m 1 #[.val (.ref a1), .val (.int p2), .val (.long q3), .second] [(.ref a1)])) rfl (by rw [hml]; rfl) (Steps.refl _) (a := a1) (argsL := []) (rest := []) (lenOf pd_0 rfl) rfl (by show 2 * 0 + _ ≤ _; exact Nat.le_of_eq rfl) (hb hby d3_1) (fun _ _ => ⟨rfl, e0, (by decide : 0 + 0 ≤ _), (by decide : 0 + 0 ≤ _)⟩)
  dsimp only [Pt.U, Pt.locs, Pt.cells, Pt.slots] at X1 l1 y1 z1 st1 hQ1
  subst l1 y1 z1
  obtain ⟨rfl, N1q, e1⟩ := hQ1
  have N1 := Fr.app N0 N1q
  replace X1 : Stand p l e ({ frames := 2, cells := 0, slots := 0, locals := 24 } : Room) s m args below meth c T1 _ 0 0 := X1
  refine Done.of (g' := (mkF m 4 #[.val (.ref a1), .val (.int p2), .val (.long q3), .second] [])) (fun t k => st1.trans k) ?_
  refine Done.of (T' := T1) (g' := (mkF m 45 #[.val (.ref a1), .val (.int p2), .val (.long q3), .second] [(.int p2), (.ref a1)])) (fun t k => ?_) ?_
  · show Steps p.tables e below (T1.setTop (mkF m 4 #[.val (.ref a1), .val (.int p2), .val (.long q3), .second] [])) t
    refine XS.iloadN X1.here hx rfl (hb hby d3_4) rfl ?_
    show Steps p.tables e below (T1.setTop (mkF m 5 #[.val (.ref a1), .val (.int p2), .val (.long q3), .second] [(.int p2)])) t
    refine XS.iconst X1.here hx rfl (hb hby d3_5) ?_
    show Steps p.tables e below (T1.setTop (mkF m 6 #[.val (.ref a1), .val (.int p2), .val (.long q3), .second] [(.int (1 : Int32)), (.int p2)])) t
    refine XS.icmpYes X1.here hx rfl (pc0 := 6) (pc' := 23) rfl (hb hby d3_6) rfl (flt (show ¬ (p2 < (1 : Int32)) from hd)).2.1 (by decide) (by decide) ?_
    show Steps p.tables e below (T1.setTop (mkF m 23 #[.val (.ref a1), .val (.int p2), .val (.long q3), .second] [])) t
    refine XS.lloadN X1.here hx rfl (hb hby d3_23) rfl ?_
    show Steps p.tables e below (T1.setTop (mkF m 24 #[.val (.ref a1), .val (.int p2), .val (.long q3), .second] [(.long q3)])) t
    refine XS.lconst X1.here hx rfl (hb hby d3_24) ?_
    show Steps p.tables e below (T1.setTop (mkF m 25 #[.val (.ref a1), .val (.int p2), .val (.long q3), .second] [(.long (1 : Int64)), (.long q3)])) t
    refine XS.lcmp X1.here hx rfl (hb hby d3_25) rfl ?_
    show Steps p.tables e below (T1.setTop (mkF m 26 #[.val (.ref a1), .val (.int p2), .val (.long q3), .second] [(.int (lcmpW q3 (1 : Int64)))])) t
    refine XS.ifYes X1.here hx rfl (pc0 := 26) (pc' := 43) rfl (hb hby d3_26) rfl (lcLt_f (show ¬ (q3 < (1 : Int64)) from hbt)).2 (by decide) (by decide) ?_
    show Steps p.tables e below (T1.setTop (mkF m 43 #[.val (.ref a1), .val (.int p2), .val (.long q3), .second] [])) t
    refine XS.aloadN X1.here hx rfl (hb hby d3_43) rfl rfl ?_
    show Steps p.tables e below (T1.setTop (mkF m 44 #[.val (.ref a1), .val (.int p2), .val (.long q3), .second] [(.ref a1)])) t
    refine XS.iloadN X1.here hx rfl (hb hby d3_44) rfl ?_
    exact k
  obtain ⟨T2, h2, X2, e2, W2, st2⟩ := putF X1 hx hZ hown (host := "") (Or.inl (hw _ (List.mem_of_getElem? (i := 23) rfl))) Via.refl e1 F_maxDepth_a1 E_a1 (Or.inr ⟨(hw _ (List.mem_of_getElem? (i := 24) rfl)), rfl, hnm⟩) (hw _ (List.mem_of_getElem? (i := 10) rfl)) (ty := .int) (by decide) rfl rfl (g := (mkF m 45 #[.val (.ref a1), .val (.int p2), .val (.long q3), .second] [(.int p2), (.ref a1)])) rfl rfl (hb hby d3_45)
  have Fw2 := F_maxDepth_a1.same W2
  have f1 := E_a1.wr W2
  have f2 := F_maxBytes_a1.other W2 (Or.inr (slot_ne (Or.inr (hw _ (List.mem_of_getElem? (i := 26) rfl))) (Or.inr (hw _ (List.mem_of_getElem? (i := 24) rfl))) (by decide) (t := .long) (t' := .int) (by decide) (by decide)))
  have N2 := Fr.snoc X2 N1 g_a1
  have K2 : Keep h0 h2 [a1] := (Keep.refl h0 [a1]).wr W2 (Or.inl (List.mem_of_getElem? (i := 0) rfl))
  refine Done.of (g' := (mkF m 48 #[.val (.ref a1), .val (.int p2), .val (.long q3), .second] [])) st2 ?_
  refine Done.of (T' := T2) (g' := (mkF m 50 #[.val (.ref a1), .val (.int p2), .val (.long q3), .second] [(.long q3), (.ref a1)])) (fun t k => ?_) ?_
  · show Steps p.tables e below (T2.setTop (mkF m 48 #[.val (.ref a1), .val (.int p2), .val (.long q3), .second] [])) t
    refine XS.aloadN X2.here hx rfl (hb hby d3_48) rfl rfl ?_
    show Steps p.tables e below (T2.setTop (mkF m 49 #[.val (.ref a1), .val (.int p2), .val (.long q3), .second] [(.ref a1)])) t
    refine XS.lloadN X2.here hx rfl (hb hby d3_49) rfl ?_
    exact k
  obtain ⟨T3, h3, X3, e3, W3, st3⟩ := putF X2 hx hZ hown (host := "") (Or.inl (hw _ (List.mem_of_getElem? (i := 25) rfl))) Via.refl e2 f2 f1 (Or.inr ⟨(hw _ (List.mem_of_getElem? (i := 26) rfl)), rfl, hnm⟩) (hw _ (List.mem_of_getElem? (i := 10) rfl)) (ty := .long) (by decide) rfl rfl (g := (mkF m 50 #[.val (.ref a1), .val (.int p2), .val (.long q3), .second] [(.long q3), (.ref a1)])) rfl rfl (hb hby d3_50)
  have Fw3 := f2.same W3
  have f3 := f1.wr W3
  have f4 := Fw2.other W3 (Or.inr (slot_ne (Or.inr (hw _ (List.mem_of_getElem? (i := 24) rfl))) (Or.inr (hw _ (List.mem_of_getElem? (i := 26) rfl))) (by decide) (t := .int) (t' := .long) (by decide) (by decide)))
  have N3 := Fr.snoc X3 N2 g_a1
  have K3 : Keep h0 h3 [a1] := K2.wr W3 (Or.inl (List.mem_of_getElem? (i := 0) rfl))
  refine Done.of (g' := (mkF m 53 #[.val (.ref a1), .val (.int p2), .val (.long q3), .second] [])) st3 ?_
  exact doneV X3 hx hret hlk (hb hby d3_53) (by show _ ∧ _; rw [e3]; exact ⟨rfl, N3, K3, f3, f4, Fw3⟩) (by decide) (by decide)
theorem ef_3 (m : MethodId) (a1 : Addr) (p2 : Int32) (q3 : Int64) : entryFrame m #[(.ref a1), (.int p2), (.long q3)] 4 = mkF m 0 #[.val (.ref a1), .val (.int p2), .val (.long q3), .second] [] := by first | (simp [entryFrame, mkF, argsToLocals, Value.category, maxLocals]; done) | rfl
theorem pn_3 : plainName "com/example/partwise/partwise/Limits" = true := by first | (simp [plainName, overriddenIn]; done) | decide +kernel
def Q3 (Z : State) (a1 : Addr) (p2 : Int32) (q3 : Int64) (h0 : Heap) (n0 : Nat) (u_maxDepth : Value) (u_maxBytes : Value) (v : Option Value) (h : Heap) (L : List Loc) : Prop := v = none ∧ Fr n0 L ∧ Keep h0 h [a1] ∧ Exa Z h a1 "com/example/partwise/partwise/Limits" ∧ Fld Z h a1 "com/example/partwise/partwise/Limits" "maxDepth" "I" (.int p2) ∧ Fld Z h a1 "com/example/partwise/partwise/Limits" "maxBytes" "J" (.long q3)
set_option maxRecDepth 65536 in
set_option maxHeartbeats 40000000 in
theorem rm3 (l : Launch) (Z : State) (a0 : Array Value) (hw : ∀ d ∈ tables_1, d.before a0 Z = true) (ws : List Jvm.Cond) (a1 : Addr) (p2 : Int32) (q3 : Int64) (h0 : Heap) (n0 : Nat) (u_maxDepth : Value) (u_maxBytes : Value) (E_a1 : Exa Z h0 a1 "com/example/partwise/partwise/Limits") (F_maxDepth_a1 : Fld Z h0 a1 "com/example/partwise/partwise/Limits" "maxDepth" "I" u_maxDepth) (F_maxBytes_a1 : Fld Z h0 a1 "com/example/partwise/partwise/Limits" "maxBytes" "J" u_maxBytes) (g_a1 : n0 ≤ a1) (hd : ¬ (p2 < (1 : Int32))) (hbt : ¬ (q3 < (1 : Int64))) :
    MetFree l (⟨"com/example/partwise/partwise/Limits", "<init>", "(IJ)V"⟩ : MethodName) (head1 (Jvm.Cond.code (⟨"com/example/partwise/partwise/Limits", "<init>", "(IJ)V"⟩ : MethodName) prog_1_method_1_code 4 none :: ws) ({ frames := 2, cells := 0, slots := 0, locals := 24 } : Room)) (fun a U => a = #[(.ref a1), (.int p2), (.long q3)] ∧ Z.Warmed39 U.vm ∧ U.heap = h0) (fun _ _ _ _ _ => True) (fun _ U o U' => ∃ v L, o = .returned v ∧ (Q3 Z a1 p2 q3 h0 n0 u_maxDepth u_maxBytes) v U'.heap L ∧ FrameEnd U o U' L ({ frames := 2, cells := 0, slots := 0, locals := 24 } : Room).cells ({ frames := 2, cells := 0, slots := 0, locals := 24 } : Room).slots) := by
  refine MetFree.of_bodySF (plainFor_of_name pn_3) hisR ?_
  intro p e s m args below meth c s₁ Bd hml0 hP hK
  obtain ⟨rfl, hZ, hh⟩ := hP
  have hown : s.vm.findClass "com/example/partwise/partwise/Limits" = some m.cls := findClass_of_methodNamed Bd.named
  have hnm := (name_of_methodNamed Bd.named Bd.method).1
  have X0 : Stand p l e ({ frames := 2, cells := 0, slots := 0, locals := 24 } : Room) s m #[(.ref a1), (.int p2), (.long q3)] below meth c s₁ [] 0 0 := Stand.of_body Bd
  have e0 : s₁.heap = h0 := by rw [← hh, Bd.state]; rfl
  have d := bk3_0 (n0 := n0) Bd.exec hZ hw Bd.bytes hml0 hown hnm Bd.returns (BodyLoose.notSynchronized Bd) X0 (Fr.nil n0) e0 a1 p2 q3 u_maxDepth u_maxBytes E_a1 F_maxDepth_a1 F_maxBytes_a1 g_a1 hd hbt
  have d2 : Done p e below s ({ frames := 2, cells := 0, slots := 0, locals := 24 } : Room) (Q3 Z a1 p2 q3 h0 n0 u_maxDepth u_maxBytes) s₁ (entryFrame m #[(.ref a1), (.int p2), (.long q3)] 4) := by rw [ef_3]; exact d
  exact d2
theorem d6_0 : decode prog_1_method_4_code 0 = .ok (.aload_n 0, 1) := by decide +kernel
theorem d6_1 : decode prog_1_method_4_code 1 = .ok (.getfield 27, 3) := by decide +kernel
theorem d6_4 : decode prog_1_method_4_code 4 = .ok (.ldc2_w 34, 3) := by decide +kernel
theorem d6_7 : decode prog_1_method_4_code 7 = .ok (.lcmp, 1) := by decide +kernel
theorem d6_8 : decode prog_1_method_4_code 8 = .ok (.ifCond .ge 12, 3) := by decide +kernel
theorem d6_11 : decode prog_1_method_4_code 11 = .ok (.aload_n 0, 1) := by decide +kernel
theorem d6_12 : decode prog_1_method_4_code 12 = .ok (.getfield 27, 3) := by decide +kernel
theorem d6_15 : decode prog_1_method_4_code 15 = .ok (.lconst 1, 1) := by decide +kernel
theorem d6_16 : decode prog_1_method_4_code 16 = .ok (.ladd, 1) := by decide +kernel
theorem d6_17 : decode prog_1_method_4_code 17 = .ok (.goto 6, 3) := by decide +kernel
theorem d6_20 : decode prog_1_method_4_code 20 = .ok (.ldc2_w 34, 3) := by decide +kernel
theorem d6_23 : decode prog_1_method_4_code 23 = .ok (.lreturn, 1) := by decide +kernel
def F6_0 (w : Int64) : Int64 := (if w < (9223372036854775807 : Int64) then (w + (1 : Int64)) else (9223372036854775807 : Int64))
set_option maxRecDepth 65536 in
set_option maxHeartbeats 40000000 in
theorem bk6_0 {p : Program} {l : Launch} {e : Env} {s : State} {m : MethodId} {args : Array Value} {below : List Frame} {meth : Method} {c : Code} {T0 : State} {locs : List Loc} {Z : State} {a0 : Array Value} {h0 : Heap} {n0 : Nat}
    (hx : p.tables.exec = Jvm.exec) (hZ : Z.Warmed39 s.vm) (hw : ∀ d ∈ tables_1, d.before a0 Z = true) (hby : c.code = prog_1_method_4_code) (hml : c.maxLocals = 1) (hown : s.vm.findClass "com/example/partwise/partwise/Limits" = some m.cls) (hnm : meth.name = "mostBytesRead") (hret : meth.sig.returnType = some .long) (hlk : meth.locks = false)
    (X0 : Stand p l e ({ frames := 0, cells := 0, slots := 0, locals := 0 } : Room) s m args below meth c T0 locs 0 0) (N0 : Fr n0 locs) (e0 : T0.heap = h0) (a1 : Addr) (w : Int64) (F_maxBytes_a1 : Fld Z h0 a1 "com/example/partwise/partwise/Limits" "maxBytes" "J" (.long w)) :
    Done p e below s ({ frames := 0, cells := 0, slots := 0, locals := 0 } : Room) (Qp h0 n0 (.long (F6_0 w))) T0 (mkF m 0 #[.val (.ref a1)] []) := by
  unfold F6_0
  refine Done.of (T' := T0) (g' := (mkF m 1 #[.val (.ref a1)] [(.ref a1)])) (fun t k => ?_) ?_
  · show Steps p.tables e below (T0.setTop (mkF m 0 #[.val (.ref a1)] [])) t
    refine XS.aloadN X0.here hx rfl (hb hby d6_0) rfl rfl ?_
    exact k
  obtain ⟨T1, X1, e1, st1⟩ := getF X0 hx hZ hown (host := "") (Or.inl (hw _ (List.mem_of_getElem? (i := 25) rfl))) Via.refl e0 F_maxBytes_a1 (g := (mkF m 1 #[.val (.ref a1)] [(.ref a1)])) rfl rfl (hb hby d6_1)
  refine Done.of (g' := (mkF m 4 #[.val (.ref a1)] [(.long w)])) st1 ?_
  refine Done.of (T' := T1) (g' := (mkF m 8 #[.val (.ref a1)] [(.int (lcmpW w (9223372036854775807 : Int64)))])) (fun t k => ?_) ?_
  · show Steps p.tables e below (T1.setTop (mkF m 4 #[.val (.ref a1)] [(.long w)])) t
    refine X1.ldc2Long hx hown (mvT hZ (hw _ (List.mem_of_getElem? (i := 32) rfl))) (g := (mkF m 4 #[.val (.ref a1)] [(.long w)])) rfl (hb hby d6_4) _ ?_
    show Steps p.tables e below (T1.setTop (mkF m 7 #[.val (.ref a1)] [(.long (9223372036854775807 : Int64)), (.long w)])) t
    refine XS.lcmp X1.here hx rfl (hb hby d6_7) rfl ?_
    exact k
  by_cases hc8_1 : w < (9223372036854775807 : Int64)
  · rw [if_pos hc8_1]
    refine Done.of (T' := T1) (g' := (mkF m 12 #[.val (.ref a1)] [(.ref a1)])) (fun t k => ?_) ?_
    · show Steps p.tables e below (T1.setTop (mkF m 8 #[.val (.ref a1)] [(.int (lcmpW w (9223372036854775807 : Int64)))])) t
      refine XS.ifNo X1.here hx rfl (hb hby d6_8) rfl (lcLt_t hc8_1).2 ?_
      show Steps p.tables e below (T1.setTop (mkF m 11 #[.val (.ref a1)] [])) t
      refine XS.aloadN X1.here hx rfl (hb hby d6_11) rfl rfl ?_
      exact k
    obtain ⟨T3, X3, e3, st3⟩ := getF X1 hx hZ hown (host := "") (Or.inl (hw _ (List.mem_of_getElem? (i := 25) rfl))) Via.refl e1 F_maxBytes_a1 (g := (mkF m 12 #[.val (.ref a1)] [(.ref a1)])) rfl rfl (hb hby d6_12)
    refine Done.of (g' := (mkF m 15 #[.val (.ref a1)] [(.long w)])) st3 ?_
    refine Done.of (T' := T3) (g' := (mkF m 23 #[.val (.ref a1)] [(.long (w + (1 : Int64)))])) (fun t k => ?_) ?_
    · show Steps p.tables e below (T3.setTop (mkF m 15 #[.val (.ref a1)] [(.long w)])) t
      refine XS.lconst X3.here hx rfl (hb hby d6_15) ?_
      show Steps p.tables e below (T3.setTop (mkF m 16 #[.val (.ref a1)] [(.long (1 : Int64)), (.long w)])) t
      refine XS.ladd X3.here hx rfl (hb hby d6_16) rfl ?_
      show Steps p.tables e below (T3.setTop (mkF m 17 #[.val (.ref a1)] [(.long (w + (1 : Int64)))])) t
      refine XS.goto X3.here hx rfl (pc0 := 17) (pc' := 23) rfl (hb hby d6_17) (by decide) (by decide) ?_
      exact k
    exact doneJ X3 hx hret hlk (hb hby d6_23) ⟨rfl, N0, e3⟩ (by decide) (by decide)
  · rw [if_neg hc8_1]
    refine Done.of (T' := T1) (g' := (mkF m 23 #[.val (.ref a1)] [(.long (9223372036854775807 : Int64))])) (fun t k => ?_) ?_
    · show Steps p.tables e below (T1.setTop (mkF m 8 #[.val (.ref a1)] [(.int (lcmpW w (9223372036854775807 : Int64)))])) t
      refine XS.ifYes X1.here hx rfl (pc0 := 8) (pc' := 20) rfl (hb hby d6_8) rfl (lcLt_f hc8_1).2 (by decide) (by decide) ?_
      show Steps p.tables e below (T1.setTop (mkF m 20 #[.val (.ref a1)] [])) t
      refine X1.ldc2Long hx hown (mvT hZ (hw _ (List.mem_of_getElem? (i := 32) rfl))) (g := (mkF m 20 #[.val (.ref a1)] [])) rfl (hb hby d6_20) _ ?_
      exact k
    exact doneJ X1 hx hret hlk (hb hby d6_23) ⟨rfl, N0, e1⟩ (by decide) (by decide)
theorem ef_6 (m : MethodId) (a1 : Addr) : entryFrame m #[(.ref a1)] 1 = mkF m 0 #[.val (.ref a1)] [] := by first | (simp [entryFrame, mkF, argsToLocals, Value.category, maxLocals]; done) | rfl
theorem pn_6 : plainName "com/example/partwise/partwise/Limits" = true := by first | (simp [plainName, overriddenIn]; done) | decide +kernel
set_option maxRecDepth 65536 in
set_option maxHeartbeats 40000000 in
theorem rm6 (l : Launch) (Z : State) (a0 : Array Value) (hw : ∀ d ∈ tables_1, d.before a0 Z = true) (ws : List Jvm.Cond) (a1 : Addr) (h0 : Heap) (n0 : Nat) (w : Int64) (F_maxBytes_a1 : Fld Z h0 a1 "com/example/partwise/partwise/Limits" "maxBytes" "J" (.long w)) :
    MetFree l (⟨"com/example/partwise/partwise/Limits", "mostBytesRead", "()J"⟩ : MethodName) (head1 (Jvm.Cond.code (⟨"com/example/partwise/partwise/Limits", "mostBytesRead", "()J"⟩ : MethodName) prog_1_method_4_code 1 (some .long) :: ws) ({ frames := 0, cells := 0, slots := 0, locals := 0 } : Room)) (fun a U => a = #[(.ref a1)] ∧ Z.Warmed39 U.vm ∧ U.heap = h0) (fun _ _ _ _ _ => True) (fun _ U o U' => ∃ v L, o = .returned v ∧ (Qp h0 n0 (.long (F6_0 w))) v U'.heap L ∧ FrameEnd U o U' L ({ frames := 0, cells := 0, slots := 0, locals := 0 } : Room).cells ({ frames := 0, cells := 0, slots := 0, locals := 0 } : Room).slots) := by
  refine MetFree.of_bodySF (plainFor_of_name pn_6) hisR ?_
  intro p e s m args below meth c s₁ Bd hml0 hP hK
  obtain ⟨rfl, hZ, hh⟩ := hP
  have hown : s.vm.findClass "com/example/partwise/partwise/Limits" = some m.cls := findClass_of_methodNamed Bd.named
  have hnm := (name_of_methodNamed Bd.named Bd.method).1
  have X0 : Stand p l e ({ frames := 0, cells := 0, slots := 0, locals := 0 } : Room) s m #[(.ref a1)] below meth c s₁ [] 0 0 := Stand.of_body Bd
  have e0 : s₁.heap = h0 := by rw [← hh, Bd.state]; rfl
  have d := bk6_0 (n0 := n0) Bd.exec hZ hw Bd.bytes hml0 hown hnm Bd.returns (BodyLoose.notSynchronized Bd) X0 (Fr.nil n0) e0 a1 w F_maxBytes_a1
  have d2 : Done p e below s ({ frames := 0, cells := 0, slots := 0, locals := 0 } : Room) (Qp h0 n0 (.long (F6_0 w))) s₁ (entryFrame m #[(.ref a1)] 1) := by rw [ef_6]; exact d
  exact d2
theorem pd_1 : parseMethodDescriptor "(II)I" = some ⟨[.int, .int], some .int⟩ := by decide +kernel
theorem pd_2 : parseMethodDescriptor "(JJ)J" = some ⟨[.long, .long], some .long⟩ := by decide +kernel
theorem pd_3 : parseMethodDescriptor "(IJ)V" = some ⟨[.int, .long], none⟩ := by decide +kernel
theorem pd_4 : parseMethodDescriptor "()J" = some ⟨[], some .long⟩ := by decide +kernel
theorem own_hd (p1 : Int32) : ¬ ((F1_0 (1 : Int32) (p1 &&& (2147483647 : Int32))) < (1 : Int32)) := by
  unfold F1_0
  split
  · rename_i h
    rw [Int32.lt_iff_toInt_lt] at h ⊢; omega
  · decide
theorem own_hb (q2 : Int64) : ¬ ((F2_0 (1 : Int64) (q2 &&& (9223372036854775807 : Int64))) < (1 : Int64)) := by
  unfold F2_0
  split
  · rename_i h
    rw [Int64.lt_iff_toInt_lt] at h ⊢; omega
  · decide
def F0_0 (p1 : Int32) (q2 : Int64) : Int32 := (if (F2_0 (1 : Int64) (q2 &&& (9223372036854775807 : Int64))) = (9223372036854775807 : Int64) then (if (F6_0 (F2_0 (1 : Int64) (q2 &&& (9223372036854775807 : Int64)))) = (9223372036854775807 : Int64) then (1 : Int32) else (0 : Int32)) else (if (F6_0 (F2_0 (1 : Int64) (q2 &&& (9223372036854775807 : Int64)))) = ((F2_0 (1 : Int64) (q2 &&& (9223372036854775807 : Int64))) + (1 : Int64)) then (if (F2_0 (1 : Int64) (q2 &&& (9223372036854775807 : Int64))) < (F6_0 (F2_0 (1 : Int64) (q2 &&& (9223372036854775807 : Int64)))) then (1 : Int32) else (0 : Int32)) else (0 : Int32)))
set_option maxRecDepth 65536 in
set_option maxHeartbeats 40000000 in
theorem bk0_0 {p : Program} {l : Launch} {e : Env} {s : State} {m : MethodId} {args : Array Value} {below : List Frame} {meth : Method} {c : Code} {T0 : State} {locs : List Loc} {Z : State} {a0 : Array Value} {h0 : Heap} {n0 : Nat}
    (hx : p.tables.exec = Jvm.exec) (hZ : Z.Warmed39 s.vm) (hw : ∀ d ∈ tables_1, d.before a0 Z = true) (hby : c.code = code) (hml : c.maxLocals = 8) (hown : s.vm.findClass "com/example/partwise/partwise/LimitsMostBytesReadPinLaw" = some m.cls) (hnm : meth.name = "law") (hret : meth.sig.returnType = some .boolean) (hlk : meth.locks = false)
    (X0 : Stand p l e room_1 s m args below meth c T0 locs 0 0) (N0 : Fr n0 locs) (e0 : T0.heap = h0) (p1 : Int32) (q2 : Int64) (Z0 : n0 ≤ h0.size) :
    Done p e below s room_1 (Ql n0 (.int (F0_0 p1 q2))) T0 (mkF m 0 #[.val (.int p1), .val (.long q2), .second, .unset, .unset, .unset, .unset, .unset] []) := by
  unfold F0_0
  refine Done.of (T' := T0) (g' := (mkF m 5 #[.val (.int p1), .val (.long q2), .second, .unset, .unset, .unset, .unset, .unset] [(.int (p1 &&& (2147483647 : Int32))), (.int (1 : Int32))])) (fun t k => ?_) ?_
  · show Steps p.tables e below (T0.setTop (mkF m 0 #[.val (.int p1), .val (.long q2), .second, .unset, .unset, .unset, .unset, .unset] [])) t
    refine XS.iconst X0.here hx rfl (hb hby at_0) ?_
    show Steps p.tables e below (T0.setTop (mkF m 1 #[.val (.int p1), .val (.long q2), .second, .unset, .unset, .unset, .unset, .unset] [(.int (1 : Int32))])) t
    refine XS.iloadN X0.here hx rfl (hb hby at_1) rfl ?_
    show Steps p.tables e below (T0.setTop (mkF m 2 #[.val (.int p1), .val (.long q2), .second, .unset, .unset, .unset, .unset, .unset] [(.int p1), (.int (1 : Int32))])) t
    refine X0.ldcInt hx hown (mvT hZ (hw _ (List.mem_of_getElem? (i := 0) rfl))) (g := (mkF m 2 #[.val (.int p1), .val (.long q2), .second, .unset, .unset, .unset, .unset, .unset] [(.int p1), (.int (1 : Int32))])) rfl (hb hby at_2) _ ?_
    show Steps p.tables e below (T0.setTop (mkF m 4 #[.val (.int p1), .val (.long q2), .second, .unset, .unset, .unset, .unset, .unset] [(.int (2147483647 : Int32)), (.int p1), (.int (1 : Int32))])) t
    refine XS.iand X0.here hx rfl (hb hby at_4) rfl ?_
    exact k
  obtain ⟨_, _, ⟨T1, L1, k1, n1⟩, -, X1, ⟨Lc1, hQ1, l1, y1, z1⟩, st1⟩ := Jvm.LawKit.callS X0 hx (y := (⟨"java/lang/Math", "max", "(II)I"⟩ : MethodName)) hown (mvT hZ (hw _ (List.mem_of_getElem? (i := 1) rfl))) (mvT hZ (hw _ (List.mem_of_getElem? (i := 2) rfl))) (mvT hZ (hw _ (List.mem_of_getElem? (i := 3) rfl))) (mvT hZ (hw _ (List.mem_of_getElem? (i := 4) rfl))) (by decide) (backOf (W := 0) (rm1 l Z a0 hw [] (1 : Int32) (p1 &&& (2147483647 : Int32)) h0 n0) hZ (hw _ (List.mem_of_getElem? (i := 4) rfl)) (hw _ (List.mem_of_getElem? (i := 3) rfl)) (by decide) (by decide)) (g := (mkF m 5 #[.val (.int p1), .val (.long q2), .second, .unset, .unset, .unset, .unset, .unset] [(.int (p1 &&& (2147483647 : Int32))), (.int (1 : Int32))])) rfl (by rw [hml]; rfl) (argsL := [(.int (1 : Int32)), (.int (p1 &&& (2147483647 : Int32)))]) (rest := []) (lenOf pd_1 rfl) rfl (by show 2 * 0 + _ ≤ _; exact Nat.le_of_eq rfl) (hb hby at_5) (fun _ _ => ⟨rfl, e0, (by decide : 0 + 0 ≤ _), (by decide : 0 + 0 ≤ _)⟩)
  dsimp only [Pt.U, Pt.locs, Pt.cells, Pt.slots] at X1 l1 y1 z1 st1 hQ1
  subst l1 y1 z1
  obtain ⟨rfl, N1q, e1⟩ := hQ1
  have N1 := Fr.app N0 N1q
  replace X1 : Stand p l e room_1 s m args below meth c T1 _ 0 0 := X1
  refine Done.of (g' := (mkF m 8 #[.val (.int p1), .val (.long q2), .second, .unset, .unset, .unset, .unset, .unset] [(.int (F1_0 (1 : Int32) (p1 &&& (2147483647 : Int32))))])) st1 ?_
  refine Done.of (T' := T1) (g' := (mkF m 15 #[.val (.int p1), .val (.long q2), .second, .val (.int (F1_0 (1 : Int32) (p1 &&& (2147483647 : Int32)))), .unset, .unset, .unset, .unset] [(.long (q2 &&& (9223372036854775807 : Int64))), (.long (1 : Int64))])) (fun t k => ?_) ?_
  · show Steps p.tables e below (T1.setTop (mkF m 8 #[.val (.int p1), .val (.long q2), .second, .unset, .unset, .unset, .unset, .unset] [(.int (F1_0 (1 : Int32) (p1 &&& (2147483647 : Int32))))])) t
    refine XS.istoreN X1.here hx rfl (hb hby at_8) rfl (l' := #[.val (.int p1), .val (.long q2), .second, .val (.int (F1_0 (1 : Int32) (p1 &&& (2147483647 : Int32)))), .unset, .unset, .unset, .unset]) rfl ?_
    show Steps p.tables e below (T1.setTop (mkF m 9 #[.val (.int p1), .val (.long q2), .second, .val (.int (F1_0 (1 : Int32) (p1 &&& (2147483647 : Int32)))), .unset, .unset, .unset, .unset] [])) t
    refine XS.lconst X1.here hx rfl (hb hby at_9) ?_
    show Steps p.tables e below (T1.setTop (mkF m 10 #[.val (.int p1), .val (.long q2), .second, .val (.int (F1_0 (1 : Int32) (p1 &&& (2147483647 : Int32)))), .unset, .unset, .unset, .unset] [(.long (1 : Int64))])) t
    refine XS.lloadN X1.here hx rfl (hb hby at_10) rfl ?_
    show Steps p.tables e below (T1.setTop (mkF m 11 #[.val (.int p1), .val (.long q2), .second, .val (.int (F1_0 (1 : Int32) (p1 &&& (2147483647 : Int32)))), .unset, .unset, .unset, .unset] [(.long q2), (.long (1 : Int64))])) t
    refine X1.ldc2Long hx hown (mvT hZ (hw _ (List.mem_of_getElem? (i := 5) rfl))) (g := (mkF m 11 #[.val (.int p1), .val (.long q2), .second, .val (.int (F1_0 (1 : Int32) (p1 &&& (2147483647 : Int32)))), .unset, .unset, .unset, .unset] [(.long q2), (.long (1 : Int64))])) rfl (hb hby at_11) _ ?_
    show Steps p.tables e below (T1.setTop (mkF m 14 #[.val (.int p1), .val (.long q2), .second, .val (.int (F1_0 (1 : Int32) (p1 &&& (2147483647 : Int32)))), .unset, .unset, .unset, .unset] [(.long (9223372036854775807 : Int64)), (.long q2), (.long (1 : Int64))])) t
    refine XS.land X1.here hx rfl (hb hby at_14) rfl ?_
    exact k
  obtain ⟨_, _, ⟨T2, L2, k2, n2⟩, -, X2, ⟨Lc2, hQ2, l2, y2, z2⟩, st2⟩ := Jvm.LawKit.callS X1 hx (y := (⟨"java/lang/Math", "max", "(JJ)J"⟩ : MethodName)) hown (mvT hZ (hw _ (List.mem_of_getElem? (i := 6) rfl))) (mvT hZ (hw _ (List.mem_of_getElem? (i := 7) rfl))) (mvT hZ (hw _ (List.mem_of_getElem? (i := 3) rfl))) (mvT hZ (hw _ (List.mem_of_getElem? (i := 8) rfl))) (by decide) (backOf (W := 0) (rm2 l Z a0 hw [] (1 : Int64) (q2 &&& (9223372036854775807 : Int64)) h0 n0) hZ (hw _ (List.mem_of_getElem? (i := 8) rfl)) (hw _ (List.mem_of_getElem? (i := 3) rfl)) (by decide) (by decide)) (g := (mkF m 15 #[.val (.int p1), .val (.long q2), .second, .val (.int (F1_0 (1 : Int32) (p1 &&& (2147483647 : Int32)))), .unset, .unset, .unset, .unset] [(.long (q2 &&& (9223372036854775807 : Int64))), (.long (1 : Int64))])) rfl (by rw [hml]; rfl) (argsL := [(.long (1 : Int64)), (.long (q2 &&& (9223372036854775807 : Int64)))]) (rest := []) (lenOf pd_2 rfl) rfl (by show 2 * 0 + _ ≤ _; exact Nat.le_of_eq rfl) (hb hby at_15) (fun _ _ => ⟨rfl, e1, (by decide : 0 + 0 ≤ _), (by decide : 0 + 0 ≤ _)⟩)
  dsimp only [Pt.U, Pt.locs, Pt.cells, Pt.slots] at X2 l2 y2 z2 st2 hQ2
  subst l2 y2 z2
  obtain ⟨rfl, N2q, e2⟩ := hQ2
  have N2 := Fr.app N1 N2q
  replace X2 : Stand p l e room_1 s m args below meth c T2 _ 0 0 := X2
  refine Done.of (g' := (mkF m 18 #[.val (.int p1), .val (.long q2), .second, .val (.int (F1_0 (1 : Int32) (p1 &&& (2147483647 : Int32)))), .unset, .unset, .unset, .unset] [(.long (F2_0 (1 : Int64) (q2 &&& (9223372036854775807 : Int64))))])) st2 ?_
  refine Done.of (T' := T2) (g' := (mkF m 20 #[.val (.int p1), .val (.long q2), .second, .val (.int (F1_0 (1 : Int32) (p1 &&& (2147483647 : Int32)))), .val (.long (F2_0 (1 : Int64) (q2 &&& (9223372036854775807 : Int64)))), .second, .unset, .unset] [])) (fun t k => ?_) ?_
  · show Steps p.tables e below (T2.setTop (mkF m 18 #[.val (.int p1), .val (.long q2), .second, .val (.int (F1_0 (1 : Int32) (p1 &&& (2147483647 : Int32)))), .unset, .unset, .unset, .unset] [(.long (F2_0 (1 : Int64) (q2 &&& (9223372036854775807 : Int64))))])) t
    refine XS.lstore X2.here hx rfl (hb hby at_18) rfl (l' := #[.val (.int p1), .val (.long q2), .second, .val (.int (F1_0 (1 : Int32) (p1 &&& (2147483647 : Int32)))), .val (.long (F2_0 (1 : Int64) (q2 &&& (9223372036854775807 : Int64)))), .second, .unset, .unset]) rfl ?_
    exact k
  obtain ⟨T3, h3, X3, e3, E3, A3, D3, -, st3⟩ := newO X2 hx hZ hown (hw _ (List.mem_of_getElem? (i := 9) rfl)) (hw _ (List.mem_of_getElem? (i := 10) rfl)) (hw _ (List.mem_of_getElem? (i := 11) rfl)) e2 (g := (mkF m 20 #[.val (.int p1), .val (.long q2), .second, .val (.int (F1_0 (1 : Int32) (p1 &&& (2147483647 : Int32)))), .val (.long (F2_0 (1 : Int64) (q2 &&& (9223372036854775807 : Int64)))), .second, .unset, .unset] [])) rfl (hb hby at_20) (by decide) (by decide)
  obtain ⟨b3, g3⟩ : ∃ z, z = h0.size := ⟨_, rfl⟩
  rw [← g3] at A3 D3 st3
  have g_b3 : n0 ≤ b3 := Nat.le_trans Z0 (Nat.le_of_eq g3.symm)
  have F3_maxDepth : Fld Z h3 b3 "com/example/partwise/partwise/Limits" "maxDepth" "I" (.int (0 : Int32)) := D3 (Or.inr (hw _ (List.mem_of_getElem? (i := 24) rfl))) (ty := .int) (by decide)
  have F3_maxBytes : Fld Z h3 b3 "com/example/partwise/partwise/Limits" "maxBytes" "J" (.long (0 : Int64)) := D3 (Or.inr (hw _ (List.mem_of_getElem? (i := 26) rfl))) (ty := .long) (by decide)
  refine Done.of (g' := (mkF m 23 #[.val (.int p1), .val (.long q2), .second, .val (.int (F1_0 (1 : Int32) (p1 &&& (2147483647 : Int32)))), .val (.long (F2_0 (1 : Int64) (q2 &&& (9223372036854775807 : Int64)))), .second, .unset, .unset] [(.ref b3)])) st3 ?_
  refine Done.of (T' := T3) (g' := (mkF m 27 #[.val (.int p1), .val (.long q2), .second, .val (.int (F1_0 (1 : Int32) (p1 &&& (2147483647 : Int32)))), .val (.long (F2_0 (1 : Int64) (q2 &&& (9223372036854775807 : Int64)))), .second, .unset, .unset] [(.long (F2_0 (1 : Int64) (q2 &&& (9223372036854775807 : Int64)))), (.int (F1_0 (1 : Int32) (p1 &&& (2147483647 : Int32)))), (.ref b3), (.ref b3)])) (fun t k => ?_) ?_
  · show Steps p.tables e below (T3.setTop (mkF m 23 #[.val (.int p1), .val (.long q2), .second, .val (.int (F1_0 (1 : Int32) (p1 &&& (2147483647 : Int32)))), .val (.long (F2_0 (1 : Int64) (q2 &&& (9223372036854775807 : Int64)))), .second, .unset, .unset] [(.ref b3)])) t
    refine XS.dup X3.here hx rfl (hb hby at_23) rfl rfl ?_
    show Steps p.tables e below (T3.setTop (mkF m 24 #[.val (.int p1), .val (.long q2), .second, .val (.int (F1_0 (1 : Int32) (p1 &&& (2147483647 : Int32)))), .val (.long (F2_0 (1 : Int64) (q2 &&& (9223372036854775807 : Int64)))), .second, .unset, .unset] [(.ref b3), (.ref b3)])) t
    refine XS.iloadN X3.here hx rfl (hb hby at_24) rfl ?_
    show Steps p.tables e below (T3.setTop (mkF m 25 #[.val (.int p1), .val (.long q2), .second, .val (.int (F1_0 (1 : Int32) (p1 &&& (2147483647 : Int32)))), .val (.long (F2_0 (1 : Int64) (q2 &&& (9223372036854775807 : Int64)))), .second, .unset, .unset] [(.int (F1_0 (1 : Int32) (p1 &&& (2147483647 : Int32)))), (.ref b3), (.ref b3)])) t
    refine XS.lload X3.here hx rfl (hb hby at_25) rfl ?_
    exact k
  obtain ⟨_, _, ⟨T4, L4, k4, n4⟩, -, X4, ⟨Lc4, hQ4, l4, y4, z4⟩, st4⟩ := X3.specialBack hx (y := (⟨"com/example/partwise/partwise/Limits", "<init>", "(IJ)V"⟩ : MethodName)) rfl hown (mvT hZ (hw _ (List.mem_of_getElem? (i := 12) rfl))) (mvT hZ (hw _ (List.mem_of_getElem? (i := 13) rfl))) (mvT hZ (hw _ (List.mem_of_getElem? (i := 14) rfl))) (by decide) (backOf (W := 1) (rm3 l Z a0 hw [] b3 (F1_0 (1 : Int32) (p1 &&& (2147483647 : Int32))) (F2_0 (1 : Int64) (q2 &&& (9223372036854775807 : Int64))) h3 n0 ((.int (0 : Int32))) ((.long (0 : Int64))) A3 F3_maxDepth F3_maxBytes g_b3 (own_hd p1) (own_hb q2)) hZ (hw _ (List.mem_of_getElem? (i := 14) rfl)) (hw _ (List.mem_of_getElem? (i := 11) rfl)) (by decide) (by decide)) (g := (mkF m 27 #[.val (.int p1), .val (.long q2), .second, .val (.int (F1_0 (1 : Int32) (p1 &&& (2147483647 : Int32)))), .val (.long (F2_0 (1 : Int64) (q2 &&& (9223372036854775807 : Int64)))), .second, .unset, .unset] [(.long (F2_0 (1 : Int64) (q2 &&& (9223372036854775807 : Int64)))), (.int (F1_0 (1 : Int32) (p1 &&& (2147483647 : Int32)))), (.ref b3), (.ref b3)])) rfl (by rw [hml]; rfl) (Steps.refl _) (a := b3) (argsL := [(.int (F1_0 (1 : Int32) (p1 &&& (2147483647 : Int32)))), (.long (F2_0 (1 : Int64) (q2 &&& (9223372036854775807 : Int64))))]) (rest := [(.ref b3)]) (lenOf pd_3 rfl) rfl (by show 2 * 0 + _ ≤ _; exact Nat.le_of_eq rfl) (hb hby at_27) (fun _ _ => ⟨rfl, e3, (by decide : 1 + 0 ≤ _), (by decide : 2 + 0 ≤ _)⟩)
  dsimp only [Pt.U, Pt.locs, Pt.cells, Pt.slots] at X4 l4 y4 z4 st4 hQ4
  subst l4 y4 z4
  obtain ⟨h4, e4⟩ : ∃ z, T4.heap = z := ⟨_, rfl⟩
  rw [e4] at hQ4
  obtain ⟨rfl, N4q, K4, E4, F4_maxDepth, F4_maxBytes⟩ := hQ4
  have N4 := Fr.app N2 N4q
  replace X4 : Stand p l e room_1 s m args below meth c T4 _ 1 2 := X4
  refine Done.of (g' := (mkF m 30 #[.val (.int p1), .val (.long q2), .second, .val (.int (F1_0 (1 : Int32) (p1 &&& (2147483647 : Int32)))), .val (.long (F2_0 (1 : Int64) (q2 &&& (9223372036854775807 : Int64)))), .second, .unset, .unset] [(.ref b3)])) (fun t k => st4.trans k) ?_
  obtain ⟨cq5, kq5, q5a, q5b, q5c⟩ := isOf hZ e4 E4
  obtain ⟨_, _, ⟨T5, L5, k5, n5⟩, -, X5, ⟨Lc5, hQ5, l5, y5, z5⟩, st5⟩ := X4.virtualBack hx (y := (⟨"com/example/partwise/partwise/Limits", "mostBytesRead", "()J"⟩ : MethodName)) (z := (⟨"com/example/partwise/partwise/Limits", "mostBytesRead", "()J"⟩ : MethodName)) hown (mvT hZ (hw _ (List.mem_of_getElem? (i := 27) rfl))) (mvT hZ (hw _ (List.mem_of_getElem? (i := 28) rfl))) (notFace_of_selects (args := #[]) (mvT hZ (hw _ (List.mem_of_getElem? (i := 30) rfl)))) (mvT hZ (hw _ (List.mem_of_getElem? (i := 30) rfl))) (mvT hZ (hw _ (List.mem_of_getElem? (i := 29) rfl))) (by decide) (backOf (W := 0) (rm6 l Z a0 hw [] b3 h4 n0 (F2_0 (1 : Int64) (q2 &&& (9223372036854775807 : Int64))) F4_maxBytes) hZ (hw _ (List.mem_of_getElem? (i := 31) rfl)) (hw _ (List.mem_of_getElem? (i := 11) rfl)) (by decide) (by decide)) q5a q5c (g := (mkF m 30 #[.val (.int p1), .val (.long q2), .second, .val (.int (F1_0 (1 : Int32) (p1 &&& (2147483647 : Int32)))), .val (.long (F2_0 (1 : Int64) (q2 &&& (9223372036854775807 : Int64)))), .second, .unset, .unset] [(.ref b3)])) rfl (by rw [hml]; rfl) (Steps.refl _) (argsL := []) (rest := []) (lenOf pd_4 rfl) rfl (by show 2 * 0 + _ ≤ _; exact Nat.le_of_eq rfl) (hb hby at_30) (fun _ _ => ⟨rfl, e4, (by decide : 1 + 0 ≤ _), (by decide : 2 + 0 ≤ _)⟩)
  dsimp only [Pt.U, Pt.locs, Pt.cells, Pt.slots] at X5 l5 y5 z5 st5 hQ5
  subst l5 y5 z5
  obtain ⟨rfl, N5q, e5⟩ := hQ5
  have N5 := Fr.app N4 N5q
  replace X5 : Stand p l e room_1 s m args below meth c T5 _ 1 2 := X5
  refine Done.of (g' := (mkF m 33 #[.val (.int p1), .val (.long q2), .second, .val (.int (F1_0 (1 : Int32) (p1 &&& (2147483647 : Int32)))), .val (.long (F2_0 (1 : Int64) (q2 &&& (9223372036854775807 : Int64)))), .second, .unset, .unset] [(.long (F6_0 (F2_0 (1 : Int64) (q2 &&& (9223372036854775807 : Int64)))))])) (fun t k => st5.trans k) ?_
  refine Done.of (T' := T5) (g' := (mkF m 41 #[.val (.int p1), .val (.long q2), .second, .val (.int (F1_0 (1 : Int32) (p1 &&& (2147483647 : Int32)))), .val (.long (F2_0 (1 : Int64) (q2 &&& (9223372036854775807 : Int64)))), .second, .val (.long (F6_0 (F2_0 (1 : Int64) (q2 &&& (9223372036854775807 : Int64))))), .second] [(.int (lcmpW (F2_0 (1 : Int64) (q2 &&& (9223372036854775807 : Int64))) (9223372036854775807 : Int64)))])) (fun t k => ?_) ?_
  · show Steps p.tables e below (T5.setTop (mkF m 33 #[.val (.int p1), .val (.long q2), .second, .val (.int (F1_0 (1 : Int32) (p1 &&& (2147483647 : Int32)))), .val (.long (F2_0 (1 : Int64) (q2 &&& (9223372036854775807 : Int64)))), .second, .unset, .unset] [(.long (F6_0 (F2_0 (1 : Int64) (q2 &&& (9223372036854775807 : Int64)))))])) t
    refine XS.lstore X5.here hx rfl (hb hby at_33) rfl (l' := #[.val (.int p1), .val (.long q2), .second, .val (.int (F1_0 (1 : Int32) (p1 &&& (2147483647 : Int32)))), .val (.long (F2_0 (1 : Int64) (q2 &&& (9223372036854775807 : Int64)))), .second, .val (.long (F6_0 (F2_0 (1 : Int64) (q2 &&& (9223372036854775807 : Int64))))), .second]) rfl ?_
    show Steps p.tables e below (T5.setTop (mkF m 35 #[.val (.int p1), .val (.long q2), .second, .val (.int (F1_0 (1 : Int32) (p1 &&& (2147483647 : Int32)))), .val (.long (F2_0 (1 : Int64) (q2 &&& (9223372036854775807 : Int64)))), .second, .val (.long (F6_0 (F2_0 (1 : Int64) (q2 &&& (9223372036854775807 : Int64))))), .second] [])) t
    refine XS.lload X5.here hx rfl (hb hby at_35) rfl ?_
    show Steps p.tables e below (T5.setTop (mkF m 37 #[.val (.int p1), .val (.long q2), .second, .val (.int (F1_0 (1 : Int32) (p1 &&& (2147483647 : Int32)))), .val (.long (F2_0 (1 : Int64) (q2 &&& (9223372036854775807 : Int64)))), .second, .val (.long (F6_0 (F2_0 (1 : Int64) (q2 &&& (9223372036854775807 : Int64))))), .second] [(.long (F2_0 (1 : Int64) (q2 &&& (9223372036854775807 : Int64))))])) t
    refine X5.ldc2Long hx hown (mvT hZ (hw _ (List.mem_of_getElem? (i := 5) rfl))) (g := (mkF m 37 #[.val (.int p1), .val (.long q2), .second, .val (.int (F1_0 (1 : Int32) (p1 &&& (2147483647 : Int32)))), .val (.long (F2_0 (1 : Int64) (q2 &&& (9223372036854775807 : Int64)))), .second, .val (.long (F6_0 (F2_0 (1 : Int64) (q2 &&& (9223372036854775807 : Int64))))), .second] [(.long (F2_0 (1 : Int64) (q2 &&& (9223372036854775807 : Int64))))])) rfl (hb hby at_37) _ ?_
    show Steps p.tables e below (T5.setTop (mkF m 40 #[.val (.int p1), .val (.long q2), .second, .val (.int (F1_0 (1 : Int32) (p1 &&& (2147483647 : Int32)))), .val (.long (F2_0 (1 : Int64) (q2 &&& (9223372036854775807 : Int64)))), .second, .val (.long (F6_0 (F2_0 (1 : Int64) (q2 &&& (9223372036854775807 : Int64))))), .second] [(.long (9223372036854775807 : Int64)), (.long (F2_0 (1 : Int64) (q2 &&& (9223372036854775807 : Int64))))])) t
    refine XS.lcmp X5.here hx rfl (hb hby at_40) rfl ?_
    exact k
  by_cases hc41_5 : (F2_0 (1 : Int64) (q2 &&& (9223372036854775807 : Int64))) = (9223372036854775807 : Int64)
  · rw [if_pos hc41_5]
    refine Done.of (T' := T5) (g' := (mkF m 50 #[.val (.int p1), .val (.long q2), .second, .val (.int (F1_0 (1 : Int32) (p1 &&& (2147483647 : Int32)))), .val (.long (F2_0 (1 : Int64) (q2 &&& (9223372036854775807 : Int64)))), .second, .val (.long (F6_0 (F2_0 (1 : Int64) (q2 &&& (9223372036854775807 : Int64))))), .second] [(.int (lcmpW (F6_0 (F2_0 (1 : Int64) (q2 &&& (9223372036854775807 : Int64)))) (9223372036854775807 : Int64)))])) (fun t k => ?_) ?_
    · show Steps p.tables e below (T5.setTop (mkF m 41 #[.val (.int p1), .val (.long q2), .second, .val (.int (F1_0 (1 : Int32) (p1 &&& (2147483647 : Int32)))), .val (.long (F2_0 (1 : Int64) (q2 &&& (9223372036854775807 : Int64)))), .second, .val (.long (F6_0 (F2_0 (1 : Int64) (q2 &&& (9223372036854775807 : Int64))))), .second] [(.int (lcmpW (F2_0 (1 : Int64) (q2 &&& (9223372036854775807 : Int64))) (9223372036854775807 : Int64)))])) t
      refine XS.ifNo X5.here hx rfl (hb hby at_41) rfl (lcEq_t hc41_5).2 ?_
      show Steps p.tables e below (T5.setTop (mkF m 44 #[.val (.int p1), .val (.long q2), .second, .val (.int (F1_0 (1 : Int32) (p1 &&& (2147483647 : Int32)))), .val (.long (F2_0 (1 : Int64) (q2 &&& (9223372036854775807 : Int64)))), .second, .val (.long (F6_0 (F2_0 (1 : Int64) (q2 &&& (9223372036854775807 : Int64))))), .second] [])) t
      refine XS.lload X5.here hx rfl (hb hby at_44) rfl ?_
      show Steps p.tables e below (T5.setTop (mkF m 46 #[.val (.int p1), .val (.long q2), .second, .val (.int (F1_0 (1 : Int32) (p1 &&& (2147483647 : Int32)))), .val (.long (F2_0 (1 : Int64) (q2 &&& (9223372036854775807 : Int64)))), .second, .val (.long (F6_0 (F2_0 (1 : Int64) (q2 &&& (9223372036854775807 : Int64))))), .second] [(.long (F6_0 (F2_0 (1 : Int64) (q2 &&& (9223372036854775807 : Int64)))))])) t
      refine X5.ldc2Long hx hown (mvT hZ (hw _ (List.mem_of_getElem? (i := 5) rfl))) (g := (mkF m 46 #[.val (.int p1), .val (.long q2), .second, .val (.int (F1_0 (1 : Int32) (p1 &&& (2147483647 : Int32)))), .val (.long (F2_0 (1 : Int64) (q2 &&& (9223372036854775807 : Int64)))), .second, .val (.long (F6_0 (F2_0 (1 : Int64) (q2 &&& (9223372036854775807 : Int64))))), .second] [(.long (F6_0 (F2_0 (1 : Int64) (q2 &&& (9223372036854775807 : Int64)))))])) rfl (hb hby at_46) _ ?_
      show Steps p.tables e below (T5.setTop (mkF m 49 #[.val (.int p1), .val (.long q2), .second, .val (.int (F1_0 (1 : Int32) (p1 &&& (2147483647 : Int32)))), .val (.long (F2_0 (1 : Int64) (q2 &&& (9223372036854775807 : Int64)))), .second, .val (.long (F6_0 (F2_0 (1 : Int64) (q2 &&& (9223372036854775807 : Int64))))), .second] [(.long (9223372036854775807 : Int64)), (.long (F6_0 (F2_0 (1 : Int64) (q2 &&& (9223372036854775807 : Int64)))))])) t
      refine XS.lcmp X5.here hx rfl (hb hby at_49) rfl ?_
      exact k
    by_cases hc50_6 : (F6_0 (F2_0 (1 : Int64) (q2 &&& (9223372036854775807 : Int64)))) = (9223372036854775807 : Int64)
    · rw [if_pos hc50_6]
      refine Done.of (T' := T5) (g' := (mkF m 58 #[.val (.int p1), .val (.long q2), .second, .val (.int (F1_0 (1 : Int32) (p1 &&& (2147483647 : Int32)))), .val (.long (F2_0 (1 : Int64) (q2 &&& (9223372036854775807 : Int64)))), .second, .val (.long (F6_0 (F2_0 (1 : Int64) (q2 &&& (9223372036854775807 : Int64))))), .second] [(.int (1 : Int32))])) (fun t k => ?_) ?_
      · show Steps p.tables e below (T5.setTop (mkF m 50 #[.val (.int p1), .val (.long q2), .second, .val (.int (F1_0 (1 : Int32) (p1 &&& (2147483647 : Int32)))), .val (.long (F2_0 (1 : Int64) (q2 &&& (9223372036854775807 : Int64)))), .second, .val (.long (F6_0 (F2_0 (1 : Int64) (q2 &&& (9223372036854775807 : Int64))))), .second] [(.int (lcmpW (F6_0 (F2_0 (1 : Int64) (q2 &&& (9223372036854775807 : Int64)))) (9223372036854775807 : Int64)))])) t
        refine XS.ifNo X5.here hx rfl (hb hby at_50) rfl (lcEq_t hc50_6).2 ?_
        show Steps p.tables e below (T5.setTop (mkF m 53 #[.val (.int p1), .val (.long q2), .second, .val (.int (F1_0 (1 : Int32) (p1 &&& (2147483647 : Int32)))), .val (.long (F2_0 (1 : Int64) (q2 &&& (9223372036854775807 : Int64)))), .second, .val (.long (F6_0 (F2_0 (1 : Int64) (q2 &&& (9223372036854775807 : Int64))))), .second] [])) t
        refine XS.iconst X5.here hx rfl (hb hby at_53) ?_
        show Steps p.tables e below (T5.setTop (mkF m 54 #[.val (.int p1), .val (.long q2), .second, .val (.int (F1_0 (1 : Int32) (p1 &&& (2147483647 : Int32)))), .val (.long (F2_0 (1 : Int64) (q2 &&& (9223372036854775807 : Int64)))), .second, .val (.long (F6_0 (F2_0 (1 : Int64) (q2 &&& (9223372036854775807 : Int64))))), .second] [(.int (1 : Int32))])) t
        refine XS.goto X5.here hx rfl (pc0 := 54) (pc' := 58) rfl (hb hby at_54) (by decide) (by decide) ?_
        exact k
      exact doneN (t := .boolean) X5 (by simp) hx hret hlk (hb hby at_58) ⟨rfl, N5⟩ (by decide) (by decide)
    · rw [if_neg hc50_6]
      refine Done.of (T' := T5) (g' := (mkF m 58 #[.val (.int p1), .val (.long q2), .second, .val (.int (F1_0 (1 : Int32) (p1 &&& (2147483647 : Int32)))), .val (.long (F2_0 (1 : Int64) (q2 &&& (9223372036854775807 : Int64)))), .second, .val (.long (F6_0 (F2_0 (1 : Int64) (q2 &&& (9223372036854775807 : Int64))))), .second] [(.int (0 : Int32))])) (fun t k => ?_) ?_
      · show Steps p.tables e below (T5.setTop (mkF m 50 #[.val (.int p1), .val (.long q2), .second, .val (.int (F1_0 (1 : Int32) (p1 &&& (2147483647 : Int32)))), .val (.long (F2_0 (1 : Int64) (q2 &&& (9223372036854775807 : Int64)))), .second, .val (.long (F6_0 (F2_0 (1 : Int64) (q2 &&& (9223372036854775807 : Int64))))), .second] [(.int (lcmpW (F6_0 (F2_0 (1 : Int64) (q2 &&& (9223372036854775807 : Int64)))) (9223372036854775807 : Int64)))])) t
        refine XS.ifYes X5.here hx rfl (pc0 := 50) (pc' := 57) rfl (hb hby at_50) rfl (lcEq_f hc50_6).2 (by decide) (by decide) ?_
        show Steps p.tables e below (T5.setTop (mkF m 57 #[.val (.int p1), .val (.long q2), .second, .val (.int (F1_0 (1 : Int32) (p1 &&& (2147483647 : Int32)))), .val (.long (F2_0 (1 : Int64) (q2 &&& (9223372036854775807 : Int64)))), .second, .val (.long (F6_0 (F2_0 (1 : Int64) (q2 &&& (9223372036854775807 : Int64))))), .second] [])) t
        refine XS.iconst X5.here hx rfl (hb hby at_57) ?_
        exact k
      exact doneN (t := .boolean) X5 (by simp) hx hret hlk (hb hby at_58) ⟨rfl, N5⟩ (by decide) (by decide)
  · rw [if_neg hc41_5]
    refine Done.of (T' := T5) (g' := (mkF m 66 #[.val (.int p1), .val (.long q2), .second, .val (.int (F1_0 (1 : Int32) (p1 &&& (2147483647 : Int32)))), .val (.long (F2_0 (1 : Int64) (q2 &&& (9223372036854775807 : Int64)))), .second, .val (.long (F6_0 (F2_0 (1 : Int64) (q2 &&& (9223372036854775807 : Int64))))), .second] [(.int (lcmpW (F6_0 (F2_0 (1 : Int64) (q2 &&& (9223372036854775807 : Int64)))) ((F2_0 (1 : Int64) (q2 &&& (9223372036854775807 : Int64))) + (1 : Int64))))])) (fun t k => ?_) ?_
    · show Steps p.tables e below (T5.setTop (mkF m 41 #[.val (.int p1), .val (.long q2), .second, .val (.int (F1_0 (1 : Int32) (p1 &&& (2147483647 : Int32)))), .val (.long (F2_0 (1 : Int64) (q2 &&& (9223372036854775807 : Int64)))), .second, .val (.long (F6_0 (F2_0 (1 : Int64) (q2 &&& (9223372036854775807 : Int64))))), .second] [(.int (lcmpW (F2_0 (1 : Int64) (q2 &&& (9223372036854775807 : Int64))) (9223372036854775807 : Int64)))])) t
      refine XS.ifYes X5.here hx rfl (pc0 := 41) (pc' := 59) rfl (hb hby at_41) rfl (lcEq_f hc41_5).2 (by decide) (by decide) ?_
      show Steps p.tables e below (T5.setTop (mkF m 59 #[.val (.int p1), .val (.long q2), .second, .val (.int (F1_0 (1 : Int32) (p1 &&& (2147483647 : Int32)))), .val (.long (F2_0 (1 : Int64) (q2 &&& (9223372036854775807 : Int64)))), .second, .val (.long (F6_0 (F2_0 (1 : Int64) (q2 &&& (9223372036854775807 : Int64))))), .second] [])) t
      refine XS.lload X5.here hx rfl (hb hby at_59) rfl ?_
      show Steps p.tables e below (T5.setTop (mkF m 61 #[.val (.int p1), .val (.long q2), .second, .val (.int (F1_0 (1 : Int32) (p1 &&& (2147483647 : Int32)))), .val (.long (F2_0 (1 : Int64) (q2 &&& (9223372036854775807 : Int64)))), .second, .val (.long (F6_0 (F2_0 (1 : Int64) (q2 &&& (9223372036854775807 : Int64))))), .second] [(.long (F6_0 (F2_0 (1 : Int64) (q2 &&& (9223372036854775807 : Int64)))))])) t
      refine XS.lload X5.here hx rfl (hb hby at_61) rfl ?_
      show Steps p.tables e below (T5.setTop (mkF m 63 #[.val (.int p1), .val (.long q2), .second, .val (.int (F1_0 (1 : Int32) (p1 &&& (2147483647 : Int32)))), .val (.long (F2_0 (1 : Int64) (q2 &&& (9223372036854775807 : Int64)))), .second, .val (.long (F6_0 (F2_0 (1 : Int64) (q2 &&& (9223372036854775807 : Int64))))), .second] [(.long (F2_0 (1 : Int64) (q2 &&& (9223372036854775807 : Int64)))), (.long (F6_0 (F2_0 (1 : Int64) (q2 &&& (9223372036854775807 : Int64)))))])) t
      refine XS.lconst X5.here hx rfl (hb hby at_63) ?_
      show Steps p.tables e below (T5.setTop (mkF m 64 #[.val (.int p1), .val (.long q2), .second, .val (.int (F1_0 (1 : Int32) (p1 &&& (2147483647 : Int32)))), .val (.long (F2_0 (1 : Int64) (q2 &&& (9223372036854775807 : Int64)))), .second, .val (.long (F6_0 (F2_0 (1 : Int64) (q2 &&& (9223372036854775807 : Int64))))), .second] [(.long (1 : Int64)), (.long (F2_0 (1 : Int64) (q2 &&& (9223372036854775807 : Int64)))), (.long (F6_0 (F2_0 (1 : Int64) (q2 &&& (9223372036854775807 : Int64)))))])) t
      refine XS.ladd X5.here hx rfl (hb hby at_64) rfl ?_
      show Steps p.tables e below (T5.setTop (mkF m 65 #[.val (.int p1), .val (.long q2), .second, .val (.int (F1_0 (1 : Int32) (p1 &&& (2147483647 : Int32)))), .val (.long (F2_0 (1 : Int64) (q2 &&& (9223372036854775807 : Int64)))), .second, .val (.long (F6_0 (F2_0 (1 : Int64) (q2 &&& (9223372036854775807 : Int64))))), .second] [(.long ((F2_0 (1 : Int64) (q2 &&& (9223372036854775807 : Int64))) + (1 : Int64))), (.long (F6_0 (F2_0 (1 : Int64) (q2 &&& (9223372036854775807 : Int64)))))])) t
      refine XS.lcmp X5.here hx rfl (hb hby at_65) rfl ?_
      exact k
    by_cases hc66_7 : (F6_0 (F2_0 (1 : Int64) (q2 &&& (9223372036854775807 : Int64)))) = ((F2_0 (1 : Int64) (q2 &&& (9223372036854775807 : Int64))) + (1 : Int64))
    · rw [if_pos hc66_7]
      refine Done.of (T' := T5) (g' := (mkF m 74 #[.val (.int p1), .val (.long q2), .second, .val (.int (F1_0 (1 : Int32) (p1 &&& (2147483647 : Int32)))), .val (.long (F2_0 (1 : Int64) (q2 &&& (9223372036854775807 : Int64)))), .second, .val (.long (F6_0 (F2_0 (1 : Int64) (q2 &&& (9223372036854775807 : Int64))))), .second] [(.int (lcmpW (F6_0 (F2_0 (1 : Int64) (q2 &&& (9223372036854775807 : Int64)))) (F2_0 (1 : Int64) (q2 &&& (9223372036854775807 : Int64)))))])) (fun t k => ?_) ?_
      · show Steps p.tables e below (T5.setTop (mkF m 66 #[.val (.int p1), .val (.long q2), .second, .val (.int (F1_0 (1 : Int32) (p1 &&& (2147483647 : Int32)))), .val (.long (F2_0 (1 : Int64) (q2 &&& (9223372036854775807 : Int64)))), .second, .val (.long (F6_0 (F2_0 (1 : Int64) (q2 &&& (9223372036854775807 : Int64))))), .second] [(.int (lcmpW (F6_0 (F2_0 (1 : Int64) (q2 &&& (9223372036854775807 : Int64)))) ((F2_0 (1 : Int64) (q2 &&& (9223372036854775807 : Int64))) + (1 : Int64))))])) t
        refine XS.ifNo X5.here hx rfl (hb hby at_66) rfl (lcEq_t hc66_7).2 ?_
        show Steps p.tables e below (T5.setTop (mkF m 69 #[.val (.int p1), .val (.long q2), .second, .val (.int (F1_0 (1 : Int32) (p1 &&& (2147483647 : Int32)))), .val (.long (F2_0 (1 : Int64) (q2 &&& (9223372036854775807 : Int64)))), .second, .val (.long (F6_0 (F2_0 (1 : Int64) (q2 &&& (9223372036854775807 : Int64))))), .second] [])) t
        refine XS.lload X5.here hx rfl (hb hby at_69) rfl ?_
        show Steps p.tables e below (T5.setTop (mkF m 71 #[.val (.int p1), .val (.long q2), .second, .val (.int (F1_0 (1 : Int32) (p1 &&& (2147483647 : Int32)))), .val (.long (F2_0 (1 : Int64) (q2 &&& (9223372036854775807 : Int64)))), .second, .val (.long (F6_0 (F2_0 (1 : Int64) (q2 &&& (9223372036854775807 : Int64))))), .second] [(.long (F6_0 (F2_0 (1 : Int64) (q2 &&& (9223372036854775807 : Int64)))))])) t
        refine XS.lload X5.here hx rfl (hb hby at_71) rfl ?_
        show Steps p.tables e below (T5.setTop (mkF m 73 #[.val (.int p1), .val (.long q2), .second, .val (.int (F1_0 (1 : Int32) (p1 &&& (2147483647 : Int32)))), .val (.long (F2_0 (1 : Int64) (q2 &&& (9223372036854775807 : Int64)))), .second, .val (.long (F6_0 (F2_0 (1 : Int64) (q2 &&& (9223372036854775807 : Int64))))), .second] [(.long (F2_0 (1 : Int64) (q2 &&& (9223372036854775807 : Int64)))), (.long (F6_0 (F2_0 (1 : Int64) (q2 &&& (9223372036854775807 : Int64)))))])) t
        refine XS.lcmp X5.here hx rfl (hb hby at_73) rfl ?_
        exact k
      by_cases hc74_8 : (F2_0 (1 : Int64) (q2 &&& (9223372036854775807 : Int64))) < (F6_0 (F2_0 (1 : Int64) (q2 &&& (9223372036854775807 : Int64))))
      · rw [if_pos hc74_8]
        refine Done.of (T' := T5) (g' := (mkF m 82 #[.val (.int p1), .val (.long q2), .second, .val (.int (F1_0 (1 : Int32) (p1 &&& (2147483647 : Int32)))), .val (.long (F2_0 (1 : Int64) (q2 &&& (9223372036854775807 : Int64)))), .second, .val (.long (F6_0 (F2_0 (1 : Int64) (q2 &&& (9223372036854775807 : Int64))))), .second] [(.int (1 : Int32))])) (fun t k => ?_) ?_
        · show Steps p.tables e below (T5.setTop (mkF m 74 #[.val (.int p1), .val (.long q2), .second, .val (.int (F1_0 (1 : Int32) (p1 &&& (2147483647 : Int32)))), .val (.long (F2_0 (1 : Int64) (q2 &&& (9223372036854775807 : Int64)))), .second, .val (.long (F6_0 (F2_0 (1 : Int64) (q2 &&& (9223372036854775807 : Int64))))), .second] [(.int (lcmpW (F6_0 (F2_0 (1 : Int64) (q2 &&& (9223372036854775807 : Int64)))) (F2_0 (1 : Int64) (q2 &&& (9223372036854775807 : Int64)))))])) t
          refine XS.ifNo X5.here hx rfl (hb hby at_74) rfl (lcGt_t hc74_8).2 ?_
          show Steps p.tables e below (T5.setTop (mkF m 77 #[.val (.int p1), .val (.long q2), .second, .val (.int (F1_0 (1 : Int32) (p1 &&& (2147483647 : Int32)))), .val (.long (F2_0 (1 : Int64) (q2 &&& (9223372036854775807 : Int64)))), .second, .val (.long (F6_0 (F2_0 (1 : Int64) (q2 &&& (9223372036854775807 : Int64))))), .second] [])) t
          refine XS.iconst X5.here hx rfl (hb hby at_77) ?_
          show Steps p.tables e below (T5.setTop (mkF m 78 #[.val (.int p1), .val (.long q2), .second, .val (.int (F1_0 (1 : Int32) (p1 &&& (2147483647 : Int32)))), .val (.long (F2_0 (1 : Int64) (q2 &&& (9223372036854775807 : Int64)))), .second, .val (.long (F6_0 (F2_0 (1 : Int64) (q2 &&& (9223372036854775807 : Int64))))), .second] [(.int (1 : Int32))])) t
          refine XS.goto X5.here hx rfl (pc0 := 78) (pc' := 82) rfl (hb hby at_78) (by decide) (by decide) ?_
          exact k
        exact doneN (t := .boolean) X5 (by simp) hx hret hlk (hb hby at_82) ⟨rfl, N5⟩ (by decide) (by decide)
      · rw [if_neg hc74_8]
        refine Done.of (T' := T5) (g' := (mkF m 82 #[.val (.int p1), .val (.long q2), .second, .val (.int (F1_0 (1 : Int32) (p1 &&& (2147483647 : Int32)))), .val (.long (F2_0 (1 : Int64) (q2 &&& (9223372036854775807 : Int64)))), .second, .val (.long (F6_0 (F2_0 (1 : Int64) (q2 &&& (9223372036854775807 : Int64))))), .second] [(.int (0 : Int32))])) (fun t k => ?_) ?_
        · show Steps p.tables e below (T5.setTop (mkF m 74 #[.val (.int p1), .val (.long q2), .second, .val (.int (F1_0 (1 : Int32) (p1 &&& (2147483647 : Int32)))), .val (.long (F2_0 (1 : Int64) (q2 &&& (9223372036854775807 : Int64)))), .second, .val (.long (F6_0 (F2_0 (1 : Int64) (q2 &&& (9223372036854775807 : Int64))))), .second] [(.int (lcmpW (F6_0 (F2_0 (1 : Int64) (q2 &&& (9223372036854775807 : Int64)))) (F2_0 (1 : Int64) (q2 &&& (9223372036854775807 : Int64)))))])) t
          refine XS.ifYes X5.here hx rfl (pc0 := 74) (pc' := 81) rfl (hb hby at_74) rfl (lcGt_f hc74_8).2 (by decide) (by decide) ?_
          show Steps p.tables e below (T5.setTop (mkF m 81 #[.val (.int p1), .val (.long q2), .second, .val (.int (F1_0 (1 : Int32) (p1 &&& (2147483647 : Int32)))), .val (.long (F2_0 (1 : Int64) (q2 &&& (9223372036854775807 : Int64)))), .second, .val (.long (F6_0 (F2_0 (1 : Int64) (q2 &&& (9223372036854775807 : Int64))))), .second] [])) t
          refine XS.iconst X5.here hx rfl (hb hby at_81) ?_
          exact k
        exact doneN (t := .boolean) X5 (by simp) hx hret hlk (hb hby at_82) ⟨rfl, N5⟩ (by decide) (by decide)
    · rw [if_neg hc66_7]
      refine Done.of (T' := T5) (g' := (mkF m 82 #[.val (.int p1), .val (.long q2), .second, .val (.int (F1_0 (1 : Int32) (p1 &&& (2147483647 : Int32)))), .val (.long (F2_0 (1 : Int64) (q2 &&& (9223372036854775807 : Int64)))), .second, .val (.long (F6_0 (F2_0 (1 : Int64) (q2 &&& (9223372036854775807 : Int64))))), .second] [(.int (0 : Int32))])) (fun t k => ?_) ?_
      · show Steps p.tables e below (T5.setTop (mkF m 66 #[.val (.int p1), .val (.long q2), .second, .val (.int (F1_0 (1 : Int32) (p1 &&& (2147483647 : Int32)))), .val (.long (F2_0 (1 : Int64) (q2 &&& (9223372036854775807 : Int64)))), .second, .val (.long (F6_0 (F2_0 (1 : Int64) (q2 &&& (9223372036854775807 : Int64))))), .second] [(.int (lcmpW (F6_0 (F2_0 (1 : Int64) (q2 &&& (9223372036854775807 : Int64)))) ((F2_0 (1 : Int64) (q2 &&& (9223372036854775807 : Int64))) + (1 : Int64))))])) t
        refine XS.ifYes X5.here hx rfl (pc0 := 66) (pc' := 81) rfl (hb hby at_66) rfl (lcEq_f hc66_7).2 (by decide) (by decide) ?_
        show Steps p.tables e below (T5.setTop (mkF m 81 #[.val (.int p1), .val (.long q2), .second, .val (.int (F1_0 (1 : Int32) (p1 &&& (2147483647 : Int32)))), .val (.long (F2_0 (1 : Int64) (q2 &&& (9223372036854775807 : Int64)))), .second, .val (.long (F6_0 (F2_0 (1 : Int64) (q2 &&& (9223372036854775807 : Int64))))), .second] [])) t
        refine XS.iconst X5.here hx rfl (hb hby at_81) ?_
        exact k
      exact doneN (t := .boolean) X5 (by simp) hx hret hlk (hb hby at_82) ⟨rfl, N5⟩ (by decide) (by decide)
theorem own_law (p1 : Int32) (q2 : Int64) : F0_0 p1 q2 = 1 := by
  unfold F0_0
  generalize F2_0 1 (q2 &&& (9223372036854775807 : Int64)) = b
  have r := rng64 b
  have lM : (9223372036854775807 : Int64).toInt = 9223372036854775807 := rfl
  have l1 : (1 : Int64).toInt = 1 := rfl
  by_cases h : b = (9223372036854775807 : Int64)
  · subst h
    rw [if_pos rfl]; decide
  · rw [if_neg h]
    have hlt : b < (9223372036854775807 : Int64) := by
      rw [← Int64.toInt_inj] at h; rw [Int64.lt_iff_toInt_lt]; omega
    have e : F6_0 b = b + 1 := by unfold F6_0; rw [if_pos hlt]
    have a := c_ladd b 1
    have ra := rng64 (b + 1)
    rw [Int64.lt_iff_toInt_lt] at hlt
    rw [e, if_pos rfl, if_pos (by rw [Int64.lt_iff_toInt_lt]; omega)]
theorem ef_0 (m : MethodId) (p1 : Int32) (q2 : Int64) : entryFrame m #[(.int p1), (.long q2)] maxLocals = mkF m 0 #[.val (.int p1), .val (.long q2), .second, .unset, .unset, .unset, .unset, .unset] [] := by first | (simp [entryFrame, mkF, argsToLocals, Value.category, maxLocals]; done) | rfl
theorem pn_0 : plainName "com/example/partwise/partwise/LimitsMostBytesReadPinLaw" = true := by first | (simp [plainName, overriddenIn]; done) | decide +kernel
set_option maxRecDepth 65536 in
set_option maxHeartbeats 40000000 in
theorem rm0 (l : Launch) (Z : State) (a0 : Array Value) (hw : ∀ d ∈ tables_1, d.before a0 Z = true) (ws : List Jvm.Cond) (p1 : Int32) (q2 : Int64) (h0 : Heap) (n0 : Nat) (Z0 : n0 ≤ h0.size) :
    MetFree l x (head1 (Jvm.Cond.code x code maxLocals ret :: ws) room_1) (fun a U => a = #[(.int p1), (.long q2)] ∧ Z.Warmed39 U.vm ∧ U.heap = h0) (fun _ _ _ _ _ => True) (fun _ U o U' => ∃ v L, o = .returned v ∧ (Ql n0 (.int 1)) v U'.heap L ∧ FrameEnd U o U' L room_1.cells room_1.slots) := by
  refine MetFree.of_bodySF (plainFor_of_name pn_0) hisR ?_
  intro p e s m args below meth c s₁ Bd hml0 hP hK
  obtain ⟨rfl, hZ, hh⟩ := hP
  have hown : s.vm.findClass "com/example/partwise/partwise/LimitsMostBytesReadPinLaw" = some m.cls := findClass_of_methodNamed Bd.named
  have hnm := (name_of_methodNamed Bd.named Bd.method).1
  have X0 : Stand p l e room_1 s m #[(.int p1), (.long q2)] below meth c s₁ [] 0 0 := Stand.of_body Bd
  have e0 : s₁.heap = h0 := by rw [← hh, Bd.state]; rfl
  have d := bk0_0 (n0 := n0) Bd.exec hZ hw Bd.bytes hml0 hown hnm Bd.returns (BodyLoose.notSynchronized Bd) X0 (Fr.nil n0) e0 p1 q2 Z0
  rw [own_law p1 q2] at d
  have d2 : Done p e below s room_1 (Ql n0 (.int 1)) s₁ (entryFrame m #[(.int p1), (.long q2)] maxLocals) := by rw [ef_0]; exact d
  exact d2
set_option maxRecDepth 65536 in
set_option maxHeartbeats 40000000 in
theorem comes_1 {Post : Tables → Env → Array Value → State → Outcome → State → Prop} (hpost : ∀ tb e args s v u, (limb_1_1.after args s (.returned v) u = true ∧ limb_1_2.after args s (.returned v) u = true ∧ True) → FrameEnd s (.returned v) u (Jvm.fieldLocs frame_1_writes args s ++ Jvm.arrayLocs frame_1_arrays args s ++ Jvm.staticLocs frame_1_statics s) 16 128 → Post tb e args s (.returned v) u) :
    ArmFor flags0 classFile x code maxLocals ret World_1 tables_1 room_1 Calls_1 rest_1 Pre_1 Post := by
  intro l hfl _ _ p e ha hc hk s m args below hf hA hF happ hP
  obtain ⟨hcalls, hrest, hpre⟩ := hP
  obtain ⟨-, -, -, hnamed, -, -, -, hat⟩ := (Spec.applies_iff hf).mp happ
  obtain ⟨hg, hn⟩ := and_e (Cond.before_iff.mp (show (Jvm.Cond.and given_1 narrow_1).before args s = true from hpre))
  obtain ⟨g0, r0⟩ := and_e hg
  obtain ⟨v0, r1⟩ := and_e r0
  obtain ⟨w0, w1, rfl⟩ : ∃ w0 w1 : Value, args = #[w0, w1] := by
    have hs : args.size = 2 := by simpa [Cond.value, given_1] using g0
    obtain ⟨L⟩ := args
    match L, hs with
    | [w0, w1], _ => exact ⟨w0, w1, rfl⟩
  have hw := fun d (hd : d ∈ tables_1) => atoms_spec (ws := Jvm.Cond.code x code maxLocals ret :: tables_1) hat d (List.mem_cons_of_mem _ hd)
  obtain ⟨i0, ei0⟩ := is_v v0
  obtain rfl : w0 = (.int i0) := Option.some.inj ei0
  obtain ⟨i1, ei1⟩ := isL_v r1
  obtain rfl : w1 = (.long i1) := Option.some.inj ei1
  obtain ⟨n, o, h1, h2, h3, _, L, rfl, ⟨rfl, N⟩, hq⟩ := rm0 l s _ hw tables_1 i0 i1 s.heap s.heap.size (Nat.le_refl _) p e ha hc hk s m _ below hf ((Spec.applies_iff_loose hf).mp happ).1 ⟨rfl, State.Warmed39.refl s, rfl⟩ trivial
  refine ⟨n, _, h1, h2, h3, hpost _ _ _ _ _ _ ⟨Cond.after_iff.mpr rfl, Cond.after_iff.mpr (eq_i res_at (Term.int_eval (1)) rfl), trivial⟩ ⟨hq.1, hq.2.1, (hq.2.2.sift fun y hy => Or.inr (N y hy)).mono (by decide) (by decide)⟩⟩
theorem main_1_1 : Claimed_1_1 := comes_1 fun _ _ _ _ _ _ h hF => ⟨h.1, hF⟩
theorem main_1_2 : Claimed_1_2 := comes_1 fun _ _ _ _ _ _ h hF => ⟨h.2.1, hF⟩
end Jvm.Pilot.@@N@@
namespace Jvm.Pilot.@@N@@
open Jvm Jvm.ClassFile Sem Op Lib Jvm.Free Jvm.Stand Jvm.Pilot.@@N@@.Jvm.D
/-! MADE BY PROGRAM (witnessworld.py) out of the Statement's table words and the real class files: 11 classes; the members and pool entries that the words name. The judged class is class 1, her method 1. -/
namespace start1
open Jvm.ClassFile
def u (s : String) : CpInfo := .utf8 (stringToUtf16 s)
/-- a pool by its gaps: so many unusable entries, then the entry; so many at the end -/
def gap : Nat → List CpInfo → List CpInfo
  | 0, r => r
  | n + 1, r => .unusable :: gap n r
def poolList (es : List (Nat × CpInfo)) (last : Nat) : List CpInfo := es.foldr (fun e r => gap e.1 (e.2 :: r)) (gap last [])
def pool (es : List (Nat × CpInfo)) (last : Nat) : Array CpInfo := ⟨poolList es last⟩
def fileOf (pool : Array CpInfo) (this : Nat) (attrs : Array Attribute := #[]) (ms : Array MethodInfo := #[]) (fl : Nat := 33) (sup : Nat := 0) (ifs : Array Nat := #[]) (fds : Array FieldInfo := #[]) : ClassFile where
  minorVersion := 0
  majorVersion := 65
  constantPool := pool
  accessFlags := fl
  thisClass := this
  superClass := sup
  interfaces := ifs
  fields := fds
  methods := ms
  attributes := attrs
def plain (name : String) (sup : Option ClassId) : Class where
  name := name
  kind := .ordinary
  loader := none
  accessFlags := 33
  super := sup
  interfaces := #[]
  cf := none
  fields := #[]
  methods := #[]
  instanceTypes := #[]
  staticTypes := #[]
  resolved := #[]
  callSites := []
  init := .initialized
  statics := none
  mirror := none

def pool0 : Array CpInfo := pool [(5, u "<init>"), (0, u "()V"), (1, .class_ 10), (1, u "java/lang/Object")] 113

def k0c0 : Code := { maxStack := 0, maxLocals := 1, code := object_method_1_code, exceptionTable := #[], attributes := #[] }
def k0m0 : Method := { name := "<init>", desc := "()V", sig := { parameters := [], returnType := none }, accessFlags := 1, code := some k0c0 }
/-- java/lang/Object -/
def k0 : Class := { plain "java/lang/Object" none with
  accessFlags := 33
  interfaces := #[]
  cf := some (fileOf pool0 8 #[] #[{ accessFlags := 1, nameIndex := 5, descriptorIndex := 6, attributes := #[] }] 33 0 #[] #[])
  fields := #[]
  methods := #[k0m0]
  instanceTypes := #[]
  staticTypes := #[]
  resolved := Array.replicate 124 none
  statics := none }

def pool1 : Array CpInfo := pool [(2, .class_ 4), (1, u "java/lang/Object"), (0, u "<init>"), (0, u "()V"), (0, .integer 2147483647), (0, .methodref 9 10), (0, .class_ 11), (0, .nameAndType 12 13), (0, u "java/lang/Math"), (0, u "max"), (0, u "(II)I"), (2, .long 9223372036854775807), (1, .methodref 9 19), (0, .nameAndType 12 20), (0, u "(JJ)J"), (0, .class_ 22), (0, u "com/example/partwise/partwise/Limits"), (0, .methodref 21 24), (0, .nameAndType 5 25), (0, u "(IJ)V"), (0, .methodref 21 27), (0, .nameAndType 28 29), (0, u "mostBytesRead"), (0, u "()J"), (0, .class_ 31), (0, u "com/example/partwise/partwise/LimitsMostBytesReadPinLaw"), (2, u "law"), (0, u "(IJ)Z")] 3

def k1m0 : Method := { name := "<init>", desc := "()V", sig := { parameters := [], returnType := none }, accessFlags := 1, code := none }
def k1c1 : Code := { maxStack := 6, maxLocals := 8, code := code, exceptionTable := #[], attributes := #[] }
def k1m1 : Method := { name := "law", desc := "(IJ)Z", sig := { parameters := [.int, .long], returnType := some .boolean }, accessFlags := 9, code := some k1c1 }
/-- com/example/partwise/partwise/LimitsMostBytesReadPinLaw -/
def k1 : Class := { plain "com/example/partwise/partwise/LimitsMostBytesReadPinLaw" (some 0) with
  accessFlags := 49
  interfaces := #[]
  cf := some (fileOf pool1 30 #[] #[{ accessFlags := 1, nameIndex := 5, descriptorIndex := 6, attributes := #[] }, { accessFlags := 9, nameIndex := 34, descriptorIndex := 35, attributes := #[] }] 49 2 #[] #[])
  fields := #[]
  methods := #[k1m0, k1m1]
  instanceTypes := #[]
  staticTypes := #[]
  resolved := Array.replicate 39 none
  statics := none }

def pool2 : Array CpInfo := pool [(1, .class_ 2), (0, u "java/lang/Math"), (1, .class_ 6), (1, u "java/lang/Object"), (0, u "<init>"), (0, u "()V"), (89, .class_ 100), (1, u "java/lang/Math$RandomNumberGeneratorHolder"), (20, u "(JJ)J"), (50, u "negativeZeroFloatBits"), (0, u "J"), (2, u "negativeZeroDoubleBits"), (21, u "max"), (46, u "$assertionsDisabled"), (0, u "Z"), (88, u "(II)I"), (2, u "twoToTheDoubleScaleDown"), (0, u "D"), (4, u "twoToTheDoubleScaleUp"), (9, u "E"), (3, u "PI"), (2, u "TAU"), (2, u "DEGREES_TO_RADIANS"), (0, u "RADIANS_TO_DEGREES")] 94

def k2m0 : Method := { name := "<init>", desc := "()V", sig := { parameters := [], returnType := none }, accessFlags := 2, code := none }
def k2c1 : Code := { maxStack := 2, maxLocals := 2, code := jdk_29_method_65_code, exceptionTable := #[], attributes := #[] }
def k2m1 : Method := { name := "max", desc := "(II)I", sig := { parameters := [.int, .int], returnType := some .int }, accessFlags := 9, code := some k2c1 }
def k2c2 : Code := { maxStack := 4, maxLocals := 4, code := jdk_29_method_66_code, exceptionTable := #[], attributes := #[] }
def k2m2 : Method := { name := "max", desc := "(JJ)J", sig := { parameters := [.long, .long], returnType := some .long }, accessFlags := 9, code := some k2c2 }
/-- java/lang/Math -/
def k2 : Class := { plain "java/lang/Math" (some 0) with
  accessFlags := 49
  interfaces := #[]
  cf := some (fileOf pool2 1 #[.nestMembers #[98]] #[{ accessFlags := 2, nameIndex := 7, descriptorIndex := 8, attributes := #[] }, { accessFlags := 9, nameIndex := 198, descriptorIndex := 335, attributes := #[] }, { accessFlags := 9, nameIndex := 198, descriptorIndex := 121, attributes := #[] }] 49 4 #[] #[{ accessFlags := 25, nameIndex := 354, descriptorIndex := 339, attributes := #[] }, { accessFlags := 25, nameIndex := 358, descriptorIndex := 339, attributes := #[] }, { accessFlags := 25, nameIndex := 361, descriptorIndex := 339, attributes := #[] }, { accessFlags := 26, nameIndex := 364, descriptorIndex := 339, attributes := #[] }, { accessFlags := 26, nameIndex := 365, descriptorIndex := 339, attributes := #[] }, { accessFlags := 26, nameIndex := 172, descriptorIndex := 173, attributes := #[] }, { accessFlags := 26, nameIndex := 176, descriptorIndex := 173, attributes := #[] }, { accessFlags := 8, nameIndex := 344, descriptorIndex := 339, attributes := #[] }, { accessFlags := 8, nameIndex := 338, descriptorIndex := 339, attributes := #[] }, { accessFlags := 4120, nameIndex := 245, descriptorIndex := 246, attributes := #[] }])
  fields := #[{ name := "E", type := .double, accessFlags := 25, slot := 0, constantValue := 0 }, { name := "PI", type := .double, accessFlags := 25, slot := 1, constantValue := 0 }, { name := "TAU", type := .double, accessFlags := 25, slot := 2, constantValue := 0 }, { name := "DEGREES_TO_RADIANS", type := .double, accessFlags := 26, slot := 3, constantValue := 0 }, { name := "RADIANS_TO_DEGREES", type := .double, accessFlags := 26, slot := 4, constantValue := 0 }, { name := "negativeZeroFloatBits", type := .long, accessFlags := 26, slot := 5, constantValue := 0 }, { name := "negativeZeroDoubleBits", type := .long, accessFlags := 26, slot := 6, constantValue := 0 }, { name := "twoToTheDoubleScaleUp", type := .double, accessFlags := 8, slot := 7, constantValue := 0 }, { name := "twoToTheDoubleScaleDown", type := .double, accessFlags := 8, slot := 8, constantValue := 0 }, { name := "$assertionsDisabled", type := .boolean, accessFlags := 4120, slot := 9, constantValue := 0 }]
  methods := #[k2m0, k2m1, k2m2]
  instanceTypes := #[]
  staticTypes := #[.double, .double, .double, .double, .double, .long, .long, .double, .double, .boolean]
  resolved := Array.replicate 460 none
  statics := none }

def pool3 : Array CpInfo := pool [(1, .methodref 2 3), (0, .class_ 4), (0, .nameAndType 5 6), (0, u "java/lang/Object"), (0, u "<init>"), (0, u "()V"), (0, .class_ 8), (0, u "java/lang/Record")] 13

def k3c0 : Code := { maxStack := 1, maxLocals := 1, code := jdk_30_method_1_code, exceptionTable := #[], attributes := #[] }
def k3m0 : Method := { name := "<init>", desc := "()V", sig := { parameters := [], returnType := none }, accessFlags := 4, code := some k3c0 }
/-- java/lang/Record -/
def k3 : Class := { plain "java/lang/Record" (some 0) with
  accessFlags := 1057
  interfaces := #[]
  cf := some (fileOf pool3 7 #[] #[{ accessFlags := 4, nameIndex := 5, descriptorIndex := 6, attributes := #[] }] 1057 2 #[] #[])
  fields := #[]
  methods := #[k3m0]
  instanceTypes := #[]
  staticTypes := #[]
  resolved := Array.replicate 22 none
  statics := none }

def pool4 : Array CpInfo := pool [(3, .methodref 4 5), (0, .class_ 6), (0, .nameAndType 7 8), (0, u "java/lang/Record"), (0, u "<init>"), (0, u "()V"), (12, .fieldref 22 23), (0, .class_ 24), (0, .nameAndType 25 26), (0, u "com/example/partwise/partwise/Limits"), (0, u "maxDepth"), (0, u "I"), (0, .fieldref 22 28), (0, .nameAndType 29 30), (0, u "maxBytes"), (0, u "J"), (2, u "(IJ)V"), (0, .long 9223372036854775807), (23, u "DEFAULT"), (0, u "Lcom/example/partwise/partwise/Limits;"), (0, u "DEFAULT_MAX_DEPTH"), (2, u "NO_BYTE_LIMIT"), (8, u "mostBytesRead"), (0, u "()J")] 39

def k4c0 : Code := { maxStack := 4, maxLocals := 4, code := prog_1_method_1_code, exceptionTable := #[], attributes := #[] }
def k4m0 : Method := { name := "<init>", desc := "(IJ)V", sig := { parameters := [.int, .long], returnType := none }, accessFlags := 1, code := some k4c0 }
def k4c1 : Code := { maxStack := 4, maxLocals := 1, code := prog_1_method_4_code, exceptionTable := #[], attributes := #[] }
def k4m1 : Method := { name := "mostBytesRead", desc := "()J", sig := { parameters := [], returnType := some .long }, accessFlags := 1, code := some k4c1 }
/-- com/example/partwise/partwise/Limits -/
def k4 : Class := { plain "com/example/partwise/partwise/Limits" (some 3) with
  accessFlags := 49
  interfaces := #[]
  cf := some (fileOf pool4 22 #[] #[{ accessFlags := 1, nameIndex := 7, descriptorIndex := 33, attributes := #[] }, { accessFlags := 1, nameIndex := 72, descriptorIndex := 73, attributes := #[] }] 49 4 #[] #[{ accessFlags := 18, nameIndex := 25, descriptorIndex := 26, attributes := #[] }, { accessFlags := 18, nameIndex := 29, descriptorIndex := 30, attributes := #[] }, { accessFlags := 25, nameIndex := 60, descriptorIndex := 26, attributes := #[] }, { accessFlags := 25, nameIndex := 63, descriptorIndex := 30, attributes := #[] }, { accessFlags := 25, nameIndex := 58, descriptorIndex := 59, attributes := #[] }])
  fields := #[{ name := "maxDepth", type := .int, accessFlags := 18, slot := 0, constantValue := 0 }, { name := "maxBytes", type := .long, accessFlags := 18, slot := 1, constantValue := 0 }, { name := "DEFAULT_MAX_DEPTH", type := .int, accessFlags := 25, slot := 0, constantValue := 0 }, { name := "NO_BYTE_LIMIT", type := .long, accessFlags := 25, slot := 1, constantValue := 0 }, { name := "DEFAULT", type := (.object "com/example/partwise/partwise/Limits"), accessFlags := 25, slot := 2, constantValue := 0 }]
  methods := #[k4m0, k4m1]
  instanceTypes := #[.int, .long]
  staticTypes := #[.int, .long, (.object "com/example/partwise/partwise/Limits")]
  resolved := Array.replicate 113 none
  statics := none }

def pool5 : Array CpInfo := pool [(1, u "java/lang/Cloneable"), (0, .class_ 1), (0, u "java/lang/Object"), (0, .class_ 3)] 3

/-- java/lang/Cloneable -/
def k5 : Class := { plain "java/lang/Cloneable" (some 0) with
  accessFlags := 1537
  interfaces := #[]
  cf := some (fileOf pool5 2 #[] #[] 1537 4 #[] #[])
  fields := #[]
  methods := #[]
  instanceTypes := #[]
  staticTypes := #[]
  resolved := Array.replicate 8 none
  statics := none }

def pool6 : Array CpInfo := pool [(1, u "java/io/Serializable"), (0, .class_ 1), (0, u "java/lang/Object"), (0, .class_ 3)] 3

/-- java/io/Serializable -/
def k6 : Class := { plain "java/io/Serializable" (some 0) with
  accessFlags := 1537
  interfaces := #[]
  cf := some (fileOf pool6 2 #[] #[] 1537 4 #[] #[])
  fields := #[]
  methods := #[]
  instanceTypes := #[]
  staticTypes := #[]
  resolved := Array.replicate 8 none
  statics := none }

/-- the primitive byte -/
def k7 : Class := { plain "byte" none with kind := .primitive 'B', accessFlags := 0x411 }
/-- [B -/
def k8 : Class := { plain "[B" (some 0) with kind := .array 7 .byte, interfaces := #[5, 6], accessFlags := 1041 }

/-- the primitive int -/
def k9 : Class := { plain "int" none with kind := .primitive 'I', accessFlags := 0x411 }
/-- [I -/
def k10 : Class := { plain "[I" (some 0) with kind := .array 9 .int, interfaces := #[5, 6], accessFlags := 1041 }

def heap : Heap := #[]
def classes : Array Class := #[k0, k1, k2, k3, k4, k5, k6, k7, k8, k9, k10]
def interned : List (Array UInt16 × Addr) := []
def slotsUsed : Nat := 0
def theMethod : MethodId := ⟨1, 1⟩
def args0 : Array Value := #[.int 5, .long 5]
def aboutOver (below : List Frame) : State where
  vm := { classes := classes, interned := interned.toArray }
  heap := heap
  slotsUsed := slotsUsed
  threads := #[{ frames := .invoking theMethod args0 :: below }]
def below0 : List Frame := [.native { method := ⟨0, 0⟩, args := #[] }]
def about1 : State := aboutOver below0
def p0 : Program := .bare "" "" ""
def e0 : Env := launch0.env 0 0 0
theorem w_frames : about1.frames = Frame.invoking theMethod args0 :: below0 := rfl
set_option maxRecDepth 65536 in
theorem w_args : argsFit about1.vm theMethod args0 = true := by decide +kernel
set_option maxRecDepth 65536 in
theorem w_heap : heapFits about1 = true := by decide +kernel
set_option maxRecDepth 65536 in
theorem w_runnable : about1.curStatus? = some .runnable := by decide +kernel
set_option maxRecDepth 65536 in
theorem w_alone : about1.alone = true := by decide +kernel
set_option maxRecDepth 65536 in
theorem w_named : about1.methodNamed? x = some theMethod := by decide +kernel
set_option maxRecDepth 65536 in
theorem w_hears : about1.hears theMethod below0 = true := by decide +kernel
set_option maxRecDepth 65536 in
theorem w_ripe : about1.ripe theMethod args0 below0 = true := by decide +kernel
theorem w_running : about1.status = .running := rfl
set_option maxRecDepth 65536 in
theorem w_room : about1.hasRoom e0.platform room_1 = true :=
  launch0.hasRoom_least _ room_1 (by decide +kernel) (by decide +kernel) (by decide +kernel) (by decide +kernel) (by decide +kernel) (by decide +kernel)
theorem allAtoms_all (ts : List Jvm.Cond) (a : Array Jvm.Value) (st : Jvm.State) : (allAtoms ts).before a st = ts.all (fun c => c.before a st) := by
  induction ts with
  | nil => rfl
  | cons c t ih =>
    show (Jvm.Cond.and c (allAtoms t)).before a st = _
    rw [Jvm.Cond.before_and, ih, List.all_cons]
def words1 : List Jvm.Cond := Jvm.Cond.code x code maxLocals ret :: tables_1
/-- a 'code' word, met by the world's own term for the bytes: nothing is compared byte by byte -/
theorem code_word {y : MethodName} {bytes : ByteArray} {mx : Nat} {rt : Option FieldType} {a : Array Value} {s : State} {m : MethodId} {meth : Method} {c : Code} (h1 : s.methodNamed? y = some m) (h2 : s.vm.method? m = some meth) (h3 : meth.code = some c) (h4 : c.code = bytes)
    (h5 : (c.maxLocals == mx && c.exceptionTable.isEmpty && decide (c.maxStack ≤ mostOperands) && decide (meth.sig.returnType = rt) && !meth.locks && decide (parseMethodDescriptor y.desc = some meth.sig)) = true) : (Jvm.Cond.code y bytes mx rt).before a s = true := by
  simp only [Bool.and_eq_true, beq_iff_eq, Bool.not_eq_true', decide_eq_true_eq] at h5
  obtain ⟨⟨⟨⟨⟨g1, g2⟩, g3⟩, g4⟩, g5⟩, g6⟩ := h5
  simp [Cond.before, Cond.holds, Cond.value, h1, h2, h3, h4, g1, g2, g3, g4, g5, g6]
def isCode : Jvm.Cond → Bool
  | .code _ _ _ _ => true
  | _ => false
theorem all_split {L : List Jvm.Cond} {P : Jvm.Cond → Bool} (h1 : L.all (fun c => isCode c || P c) = true) (h2 : ∀ c ∈ L.filter isCode, P c = true) : L.all P = true := by
  refine List.all_eq_true.mpr fun c hc => ?_
  have h := List.all_eq_true.mp h1 c hc
  rcases Bool.eq_false_or_eq_true (isCode c) with hi | hi
  · exact h2 c (List.mem_filter.mpr ⟨hc, hi⟩)
  · simpa [hi] using h
set_option maxRecDepth 65536 in
theorem w_c0 : (Jvm.Cond.code x code maxLocals ret).before args0 about1 = true := code_word (m := ⟨1, 1⟩) (meth := k1m1) (c := k1c1) (by decide +kernel) rfl rfl rfl (by decide +kernel)
set_option maxRecDepth 65536 in
theorem w_c1 : (Jvm.Cond.code ({ cls := "java/lang/Math", name := "max", desc := "(II)I" } : Jvm.MethodName) jdk_29_method_65_code (2 : Nat) (Option.some Jvm.ClassFile.FieldType.int)).before args0 about1 = true := code_word (m := ⟨2, 1⟩) (meth := k2m1) (c := k2c1) (by decide +kernel) rfl rfl rfl (by decide +kernel)
set_option maxRecDepth 65536 in
theorem w_c2 : (Jvm.Cond.code ({ cls := "java/lang/Math", name := "max", desc := "(JJ)J" } : Jvm.MethodName) jdk_29_method_66_code (4 : Nat) (Option.some Jvm.ClassFile.FieldType.long)).before args0 about1 = true := code_word (m := ⟨2, 2⟩) (meth := k2m2) (c := k2c2) (by decide +kernel) rfl rfl rfl (by decide +kernel)
set_option maxRecDepth 65536 in
theorem w_c3 : (Jvm.Cond.code ({ cls := "com/example/partwise/partwise/Limits", name := "<init>", desc := "(IJ)V" } : Jvm.MethodName) prog_1_method_1_code (4 : Nat) (Option.none : Option Jvm.ClassFile.FieldType)).before args0 about1 = true := code_word (m := ⟨4, 0⟩) (meth := k4m0) (c := k4c0) (by decide +kernel) rfl rfl rfl (by decide +kernel)
set_option maxRecDepth 65536 in
theorem w_c4 : (Jvm.Cond.code ({ cls := "java/lang/Record", name := "<init>", desc := "()V" } : Jvm.MethodName) jdk_30_method_1_code (1 : Nat) (Option.none : Option Jvm.ClassFile.FieldType)).before args0 about1 = true := code_word (m := ⟨3, 0⟩) (meth := k3m0) (c := k3c0) (by decide +kernel) rfl rfl rfl (by decide +kernel)
set_option maxRecDepth 65536 in
theorem w_c5 : (Jvm.Cond.code ({ cls := "java/lang/Object", name := "<init>", desc := "()V" } : Jvm.MethodName) object_method_1_code (1 : Nat) (Option.none : Option Jvm.ClassFile.FieldType)).before args0 about1 = true := code_word (m := ⟨0, 0⟩) (meth := k0m0) (c := k0c0) (by decide +kernel) rfl rfl rfl (by decide +kernel)
set_option maxRecDepth 65536 in
theorem w_c6 : (Jvm.Cond.code ({ cls := "com/example/partwise/partwise/Limits", name := "mostBytesRead", desc := "()J" } : Jvm.MethodName) prog_1_method_4_code (1 : Nat) (Option.some Jvm.ClassFile.FieldType.long)).before args0 about1 = true := code_word (m := ⟨4, 1⟩) (meth := k4m1) (c := k4c1) (by decide +kernel) rfl rfl rfl (by decide +kernel)
def codes1 : List Jvm.Cond := [Jvm.Cond.code x code maxLocals ret, Jvm.Cond.code ({ cls := "java/lang/Math", name := "max", desc := "(II)I" } : Jvm.MethodName) jdk_29_method_65_code (2 : Nat) (Option.some Jvm.ClassFile.FieldType.int), Jvm.Cond.code ({ cls := "java/lang/Math", name := "max", desc := "(JJ)J" } : Jvm.MethodName) jdk_29_method_66_code (4 : Nat) (Option.some Jvm.ClassFile.FieldType.long), Jvm.Cond.code ({ cls := "com/example/partwise/partwise/Limits", name := "<init>", desc := "(IJ)V" } : Jvm.MethodName) prog_1_method_1_code (4 : Nat) (Option.none : Option Jvm.ClassFile.FieldType), Jvm.Cond.code ({ cls := "java/lang/Record", name := "<init>", desc := "()V" } : Jvm.MethodName) jdk_30_method_1_code (1 : Nat) (Option.none : Option Jvm.ClassFile.FieldType), Jvm.Cond.code ({ cls := "java/lang/Object", name := "<init>", desc := "()V" } : Jvm.MethodName) object_method_1_code (1 : Nat) (Option.none : Option Jvm.ClassFile.FieldType), Jvm.Cond.code ({ cls := "com/example/partwise/partwise/Limits", name := "mostBytesRead", desc := "()J" } : Jvm.MethodName) prog_1_method_4_code (1 : Nat) (Option.some Jvm.ClassFile.FieldType.long)]
set_option maxRecDepth 65536 in
theorem codes_eq : words1.filter isCode = codes1 := rfl
theorem w_codes : ∀ c ∈ words1.filter isCode, c.before args0 about1 = true := by
  rw [codes_eq]
  intro c hc
  simp only [codes1, List.mem_cons, List.not_mem_nil, or_false] at hc
  rcases hc with rfl | rfl | rfl | rfl | rfl | rfl | rfl
  · exact w_c0
  · exact w_c1
  · exact w_c2
  · exact w_c3
  · exact w_c4
  · exact w_c5
  · exact w_c6
set_option maxRecDepth 65536 in
theorem w_t1 : (words1.take 24).all (fun c => isCode c || c.before args0 about1) = true := by decide +kernel
set_option maxRecDepth 65536 in
theorem w_t2 : (words1.drop 24).all (fun c => isCode c || c.before args0 about1) = true := by decide +kernel
theorem w_tables : (allAtoms (Jvm.Cond.code x code maxLocals ret :: tables_1)).before args0 about1 = true := by
  rw [allAtoms_all]
  show words1.all (fun c => c.before args0 about1) = true
  refine all_split ?_ w_codes
  rw [← List.take_append_drop 24 words1, List.all_append, w_t1, w_t2]
  rfl
set_option maxRecDepth 65536 in
theorem w_case : (Jvm.Cond.and given_1 narrow_1).before args0 about1 = true := by decide +kernel
theorem w_applies : (headSpec (Jvm.Cond.code x code maxLocals ret :: tables_1) room_1).applies x e0.platform about1 = true :=
  (Spec.applies_iff w_frames).mpr ⟨w_running, w_runnable, w_alone, w_named, w_hears, w_ripe, w_room, w_tables⟩
theorem atStart : AtStart classFile x code maxLocals ret World_1 tables_1 room_1 Calls_1 rest_1 Pre_1 launch0 p0 e0 about1 theMethod args0 below0 :=
  ⟨lists_1, trivial, launch0.admits_env _ _ _, launch0.least_env, fairChoices_fair.cas, fairChoices_fair.clock, w_frames, w_args, w_heap, w_applies, trivial, trivial, w_case⟩
end start1
theorem witness_1 : WitnessClaimed_1 := ⟨start1.p0, start1.e0, start1.about1, start1.theMethod, start1.args0, start1.below0, start1.atStart⟩
end Jvm.Pilot.@@N@@
