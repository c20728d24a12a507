import JvmDerived
import JvmDerived.Pilot.@@N@@Statement
import JvmDerived.Pilot.@@N@@Code
set_option linter.unusedVariables false
set_option linter.unusedSimpArgs false
namespace Jvm.RoadKit
open Sem ClassFile Op Lib Jvm.Stand Jvm.Free Jvm.LawKit
section New
variable {p : Program} {l : Launch} {e : Env} {R : Room} {s : State} {m : MethodId} {args : Array Value} {below : List Frame} {meth : Method} {c : Code} {T : State} {locs : List Loc} {cells slots : Nat}
theorem retI (X : Stand p l e R s m args below meth c T locs cells slots) (hx : p.tables.exec = Jvm.exec) {pc : Nat} {Ls : Array Slot} {z : Int32} {rest : List Value} (hret : meth.sig.returnType = some .int) (hd : decode c.code pc = .ok (.ireturn, 1)) {fs : List Frame}
    (hl : ∀ (f : JFrame) (acts : List Action), f.method = m → f.locked = none → f.entered = [] → (doReturn e (T.setTop f) acts (some (.int z))).1 = T.setFrames fs) : Steps p.tables e below (T.setTop (mkF m pc Ls (.int z :: rest))) (T.setFrames fs) := by
  have hm' : T.vm.method? m = some meth := X.method'
  have hn : narrow .int (.int z) = .int z := rfl
  show Steps p.tables e below (T.setTop { method := m, pc := pc, locals := Ls, stack := _ :: rest, locked := none }) _
  jvm_step X.here [X.here.top, hx, hd, hm', hret, hn]
  first | (intro acts; rw [hl _ acts rfl rfl rfl]) | rw [hl _ _ rfl rfl rfl]
  exact Steps.refl _
theorem retA (X : Stand p l e R s m args below meth c T locs cells slots) (hx : p.tables.exec = Jvm.exec) {pc : Nat} {Ls : Array Slot} {z : Addr} {rest : List Value} {t : FieldType} (hret : meth.sig.returnType = some t) (ht : t.isReference = true) (hd : decode c.code pc = .ok (.areturn, 1)) {fs : List Frame}
    (hl : ∀ (f : JFrame) (acts : List Action), f.method = m → f.locked = none → f.entered = [] → (doReturn e (T.setTop f) acts (some (.ref z))).1 = T.setFrames fs) : Steps p.tables e below (T.setTop (mkF m pc Ls (.ref z :: rest))) (T.setFrames fs) := by
  have hm' : T.vm.method? m = some meth := X.method'
  show Steps p.tables e below (T.setTop { method := m, pc := pc, locals := Ls, stack := _ :: rest, locked := none }) _
  jvm_step X.here [X.here.top, hx, hd, hm', hret, ht, Value.isRef]
  first | (intro acts; rw [hl _ acts rfl rfl rfl]) | rw [hl _ _ rfl rfl rfl]
  exact Steps.refl _
theorem retJ (X : Stand p l e R s m args below meth c T locs cells slots) (hx : p.tables.exec = Jvm.exec) {pc : Nat} {Ls : Array Slot} {z : Int64} {rest : List Value} (hret : meth.sig.returnType = some .long) (hd : decode c.code pc = .ok (.lreturn, 1)) {fs : List Frame}
    (hl : ∀ (f : JFrame) (acts : List Action), f.method = m → f.locked = none → f.entered = [] → (doReturn e (T.setTop f) acts (some (.long z))).1 = T.setFrames fs) : Steps p.tables e below (T.setTop (mkF m pc Ls (.long z :: rest))) (T.setFrames fs) := by
  have hm' : T.vm.method? m = some meth := X.method'
  show Steps p.tables e below (T.setTop { method := m, pc := pc, locals := Ls, stack := _ :: rest, locked := none }) _
  jvm_step X.here [X.here.top, hx, hd, hm', hret]
  first | (intro acts; rw [hl _ acts rfl rfl rfl]) | rw [hl _ _ rfl rfl rfl]
  exact Steps.refl _
end New
end Jvm.RoadKit
namespace Jvm.Pilot.@@N@@
open Jvm Jvm.ClassFile Sem Op Lib Jvm.Free Jvm.Stand Jvm.LawKit Jvm.RoadKit Bundle Jvm.Pilot.@@N@@.Jvm.D
/-! My own frame of a walk: 'Done' says: from this frame the run ends, and Q holds of what came back, of the heap, and of the places written. -/
def Done (p : Program) (e : Env) (below : List Frame) (s : State) (R : Room) (Q : Option Value → Heap → List Loc → Prop) (T : State) (g : JFrame) : Prop :=
  ∃ s₂ o, Steps p.tables e below (T.setTop g) s₂ ∧ s₂.status = .running ∧ Ended s₂ below o ∧ ∃ v L, o = .returned v ∧ Q v s₂.heap L ∧ FrameEnd s o s₂ L R.cells R.slots
def Qp (h0 : Heap) (n0 : Nat) (z : Value) (v : Option Value) (h : Heap) (L : List Loc) : Prop := v = some z ∧ Fr n0 L ∧ h = h0
def Qv (h0 : Heap) (n0 : Nat) (v : Option Value) (h : Heap) (L : List Loc) : Prop := v = none ∧ Fr n0 L ∧ h = h0
def Ql (n0 : Nat) (z : Value) (v : Option Value) (h : Heap) (L : List Loc) : Prop := v = some z ∧ Fr n0 L
theorem Done.of {p : Program} {e : Env} {below : List Frame} {s : State} {R : Room} {Q : Option Value → Heap → List Loc → Prop} {T T' : State} {g g' : JFrame}
    (st : ∀ t, Steps p.tables e below (T'.setTop g') t → Steps p.tables e below (T.setTop g) t) (d : Done p e below s R Q T' g') : Done p e below s R Q T g := by
  obtain ⟨s₂, o, h1, h2⟩ := d
  exact ⟨s₂, o, st _ h1, h2⟩
section Ends
variable {p : Program} {l : Launch} {e : Env} {R : Room} {s : State} {m : MethodId} {args : Array Value} {below : List Frame} {meth : Method} {c : Code} {T : State} {locs : List Loc} {cells slots : Nat} {Q : Option Value → Heap → List Loc → Prop}
theorem doneI (X : Stand p l e R s m args below meth c T locs cells slots) (hx : p.tables.exec = Jvm.exec) {pc : Nat} {Ls : Array Slot} {z : Int32} {rest : List Value} (hret : meth.sig.returnType = some .int) (hlk : meth.locks = false) (hd : decode c.code pc = .ok (.ireturn, 1))
    (hQ : Q (some (.int z)) T.heap locs) (hc : cells ≤ R.cells) (hs : slots ≤ R.slots) : Done p e below s R Q T (mkF m pc Ls (.int z :: rest)) := by
  obtain ⟨fs, hr, hrun, hended, hW, hsame⟩ := X.leave (v := some (.int z)) (fun h => by rw [hret] at h; cases h) hlk
  exact ⟨_, _, retI X hx hret hd hr, hrun, hended, _, _, rfl, hQ, ⟨_, rfl⟩, hW, hsame.mono hc hs⟩
theorem doneN (t : FieldType) (X : Stand p l e R s m args below meth c T locs cells slots) (ht : t = .boolean ∨ t = .byte ∨ t = .char ∨ t = .short) (hx : p.tables.exec = Jvm.exec) {pc : Nat} {Ls : Array Slot} {z : Int32} {rest : List Value} (hret : meth.sig.returnType = some t) (hlk : meth.locks = false) (hd : decode c.code pc = .ok (.ireturn, 1))
    (hQ : Q (some (.int (nar t z))) T.heap locs) (hc : cells ≤ R.cells) (hs : slots ≤ R.slots) : Done p e below s R Q T (mkF m pc Ls (.int z :: rest)) := by
  obtain ⟨fs, hr, hrun, hended, hW, hsame⟩ := X.leave (v := some (.int (nar t z))) (fun h => by rw [hret] at h; cases h) hlk
  exact ⟨_, _, retN X hx hret ht hd hr, hrun, hended, _, _, rfl, hQ, ⟨_, rfl⟩, hW, hsame.mono hc hs⟩
theorem doneJ (X : Stand p l e R s m args below meth c T locs cells slots) (hx : p.tables.exec = Jvm.exec) {pc : Nat} {Ls : Array Slot} {z : Int64} {rest : List Value} (hret : meth.sig.returnType = some .long) (hlk : meth.locks = false) (hd : decode c.code pc = .ok (.lreturn, 1))
    (hQ : Q (some (.long z)) T.heap locs) (hc : cells ≤ R.cells) (hs : slots ≤ R.slots) : Done p e below s R Q T (mkF m pc Ls (.long z :: rest)) := by
  obtain ⟨fs, hr, hrun, hended, hW, hsame⟩ := X.leave (v := some (.long z)) (fun h => by rw [hret] at h; cases h) hlk
  exact ⟨_, _, retJ X hx hret hd hr, hrun, hended, _, _, rfl, hQ, ⟨_, rfl⟩, hW, hsame.mono hc hs⟩
theorem doneA (X : Stand p l e R s m args below meth c T locs cells slots) (hx : p.tables.exec = Jvm.exec) {pc : Nat} {Ls : Array Slot} {z : Addr} {rest : List Value} {t : FieldType} (hret : meth.sig.returnType = some t) (ht : t.isReference = true) (hlk : meth.locks = false) (hd : decode c.code pc = .ok (.areturn, 1))
    (hQ : Q (some (.ref z)) T.heap locs) (hc : cells ≤ R.cells) (hs : slots ≤ R.slots) : Done p e below s R Q T (mkF m pc Ls (.ref z :: rest)) := by
  obtain ⟨fs, hr, hrun, hended, hW, hsame⟩ := X.leave (v := some (.ref z)) (fun h => by rw [hret] at h; cases h) hlk
  exact ⟨_, _, retA X hx hret ht hd hr, hrun, hended, _, _, rfl, hQ, ⟨_, rfl⟩, hW, hsame.mono hc hs⟩
theorem doneV (X : Stand p l e R s m args below meth c T locs cells slots) (hx : p.tables.exec = Jvm.exec) {pc : Nat} {Ls : Array Slot} (hret : meth.sig.returnType = none) (hlk : meth.locks = false) (hd : decode c.code pc = .ok (.return_, 1))
    (hQ : Q none T.heap locs) (hc : cells ≤ R.cells) (hs : slots ≤ R.slots) : Done p e below s R Q T (mkF m pc Ls []) := by
  obtain ⟨fs, hr, hrun, hended, hW, hsame⟩ := X.leave (v := none) (fun _ => rfl) hlk
  exact ⟨_, _, X.returnOut hx hret hd hr, hrun, hended, _, _, rfl, hQ, ⟨_, rfl⟩, hW, hsame.mono hc hs⟩
end Ends
theorem lcLt_t {x y : Int64} (h : x < y) : ifCond.holds .lt (lcmpW x y) = true ∧ ifCond.holds .ge (lcmpW x y) = false := ⟨(if0 _ _).trans (tlt ((lw_lt x y).mpr h)).1, (if0 _ _).trans (tlt ((lw_lt x y).mpr h)).2.1⟩
theorem lcLt_f {x y : Int64} (h : ¬ x < y) : ifCond.holds .lt (lcmpW x y) = false ∧ ifCond.holds .ge (lcmpW x y) = true := ⟨(if0 _ _).trans (flt (fun q => h ((lw_lt x y).mp q))).1, (if0 _ _).trans (flt (fun q => h ((lw_lt x y).mp q))).2.1⟩
theorem lcGt_t {x y : Int64} (h : y < x) : ifCond.holds .gt (lcmpW x y) = true ∧ ifCond.holds .le (lcmpW x y) = false := ⟨(if0 _ _).trans (tlt ((lw_gt x y).mpr h)).2.2.1, (if0 _ _).trans (tlt ((lw_gt x y).mpr h)).2.2.2⟩
theorem lcGt_f {x y : Int64} (h : ¬ y < x) : ifCond.holds .gt (lcmpW x y) = false ∧ ifCond.holds .le (lcmpW x y) = true := ⟨(if0 _ _).trans (flt (fun q => h ((lw_gt x y).mp q))).2.2.1, (if0 _ _).trans (flt (fun q => h ((lw_gt x y).mp q))).2.2.2⟩
theorem lcEq_t {x y : Int64} (h : x = y) : ifCond.holds .eq (lcmpW x y) = true ∧ ifCond.holds .ne (lcmpW x y) = false := ⟨(if0 _ _).trans (teq ((lw_eq x y).mpr h)).1, (if0 _ _).trans (teq ((lw_eq x y).mpr h)).2⟩
theorem lcEq_f {x y : Int64} (h : ¬ x = y) : ifCond.holds .eq (lcmpW x y) = false ∧ ifCond.holds .ne (lcmpW x y) = true := ⟨(if0 _ _).trans (feq (fun q => h ((lw_eq x y).mp q))).1, (if0 _ _).trans (feq (fun q => h ((lw_eq x y).mp q))).2⟩
theorem own_selP {s : State} {args : Array Value} {y : MethodName} {n : Nat} (hins : (Cond.instantiable y.cls n).before args s = true) (hpriv : (Cond.privateMethod y).before args s = true) (hinst : (Cond.instanceMethod y).before args s = true) (hy : y.cls ≠ "java/lang/invoke/MethodHandle" ∧ y.cls ≠ "java/lang/invoke/VarHandle") :
    (Cond.selects y.cls y y).before args s = true := by
  obtain ⟨c, k, hc, hk, -, hniab, -, -⟩ := Cond.instantiable_spec hins
  exact selects_self_of_private hc hk (Bool.or_eq_false_iff.mp hniab).1 (Cond.privateMethod_at hpriv) hinst hy
theorem own_hat {c : Cell} {vs : List Int32} {j : Int32} (H : Has c (vs.map Value.int) (.int (0 : Int32))) (hin : ¬ (j < 0 ∨ c.slots.size ≤ j.toNatClampNeg)) : c.slots[j.toNatClampNeg]? = some (.int (vs.getD j.toNatClampNeg 0)) := by
  rw [H j.toNatClampNeg (Nat.lt_of_not_le fun q => hin (Or.inr q))]
  simp only [List.getD_eq_getElem?_getD, List.getElem?_map]
  cases vs[j.toNatClampNeg]? <;> rfl
theorem own_fin {n : Nat} (c : Int32) (h0 : 0 ≤ c.toInt) (h1 : c.toInt < n) : ∃ i : Fin n, c = Int32.ofInt (i.1 : Int) :=
  ⟨⟨c.toInt.toNat, by omega⟩, by show c = Int32.ofInt ((c.toInt.toNat : Nat) : Int); rw [Int.toNat_of_nonneg h0]; exact (Int32.ofInt_toInt c).symm⟩
theorem own_set (N i : Nat) (f : Nat → Int32) (v : Int32) : ((List.range N).map fun j => Value.int (f j)).set i (.int v) = (List.range N).map fun j => Value.int (if j = i then v else f j) := by
  apply List.ext_getElem
  · simp
  · intro k h1 h2
    rw [List.getElem_set]
    simp only [List.getElem_map, List.getElem_range]
    by_cases q : i = k
    · rw [if_pos q, if_pos q.symm]
    · rw [if_neg q, if_neg (Ne.symm q)]
theorem own_setA {Z : State} {h : Heap} {a : Addr} {k : ClassId} {ty : FieldType} {z : Int32} {N i : Nat} {f : Nat → Int32} {v : Int32} {dv : Value} (A : Arv Z h a k ty z (((List.range N).map fun j => Value.int (f j)).set i (.int v)) dv) :
    Arv Z h a k ty z ((List.range N).map fun j => Value.int (if j = i then v else f j)) dv := by rw [← own_set]; exact A
theorem own_hatF {c : Cell} {N : Nat} {f : Nat → Int32} {j : Int32} {d : Value} (H : Has c ((List.range N).map fun j => Value.int (f j)) d) (hN : c.slots.size = N) (hin : ¬ (j < 0 ∨ c.slots.size ≤ j.toNatClampNeg)) : c.slots[j.toNatClampNeg]? = some (.int (f j.toNatClampNeg)) := by
  have hl : j.toNatClampNeg < c.slots.size := Nat.lt_of_not_le fun q => hin (Or.inr q)
  rw [H j.toNatClampNeg hl, List.getD_eq_getElem?_getD, List.getElem?_map, List.getElem?_range (by omega)]
  rfl
theorem own_sz {c : Cell} {z : Int32} {N : Nat} (S : c.slots.size = z.toNatClampNeg) (h : z.toNatClampNeg = N := by decide) : c.slots.size = N := S.trans h
theorem own_len {c : Cell} {z j : Int32} {N : Nat} {f : Nat → Int32} (S : c.slots.size = z.toNatClampNeg) (hin : ¬ (j < 0 ∨ c.slots.size ≤ j.toNatClampNeg)) (h : z.toNatClampNeg = N := by decide) : j.toNatClampNeg < ((List.range N).map fun j => Value.int (f j)).length := by
  have : j.toNatClampNeg < c.slots.size := Nat.lt_of_not_le fun q => hin (Or.inr q)
  rw [List.length_map, List.length_range]; omega
theorem d5_0 : decode jdk_29_method_69_code 0 = .ok (.iload_n 0, 1) := by decide +kernel
theorem d5_1 : decode jdk_29_method_69_code 1 = .ok (.iload_n 1, 1) := by decide +kernel
theorem d5_2 : decode jdk_29_method_69_code 2 = .ok (.if_icmp .gt 7, 3) := by decide +kernel
theorem d5_5 : decode jdk_29_method_69_code 5 = .ok (.iload_n 0, 1) := by decide +kernel
theorem d5_6 : decode jdk_29_method_69_code 6 = .ok (.goto 4, 3) := by decide +kernel
theorem d5_9 : decode jdk_29_method_69_code 9 = .ok (.iload_n 1, 1) := by decide +kernel
theorem d5_10 : decode jdk_29_method_69_code 10 = .ok (.ireturn, 1) := by decide +kernel
def F5_0 (p1 : Int32) (p2 : Int32) : Int32 := (if p2 < p1 then p2 else p1)
set_option maxRecDepth 65536 in
set_option maxHeartbeats 40000000 in
theorem bk5_0 {p : Program} {l : Launch} {e : Env} {s : State} {m : MethodId} {args : Array Value} {below : List Frame} {meth : Method} {c : Code} {T0 : State} {locs : List Loc} {Z : State} {a0 : Array Value} {h0 : Heap} {n0 : Nat}
    (hx : p.tables.exec = Jvm.exec) (hZ : Z.Warmed39 s.vm) (hw : ∀ d ∈ tables_1, d.before a0 Z = true) (hby : c.code = jdk_29_method_69_code) (hml : c.maxLocals = 2) (hown : s.vm.findClass "java/lang/Math" = some m.cls) (hnm : meth.name = "min") (hret : meth.sig.returnType = some .int) (hlk : meth.locks = false)
    (X0 : Stand p l e ({ frames := 0, cells := 0, slots := 0, locals := 0 } : Room) s m args below meth c T0 locs 0 0) (N0 : Fr n0 locs) (e0 : T0.heap = h0) (p1 : Int32) (p2 : Int32) :
    Done p e below s ({ frames := 0, cells := 0, slots := 0, locals := 0 } : Room) (Qp h0 n0 (.int (F5_0 p1 p2))) T0 (mkF m 0 #[.val (.int p1), .val (.int p2)] []) := by
  unfold F5_0
  refine Done.of (T' := T0) (g' := (mkF m 2 #[.val (.int p1), .val (.int p2)] [(.int p2), (.int p1)])) (fun t k => ?_) ?_
  · show Steps p.tables e below (T0.setTop (mkF m 0 #[.val (.int p1), .val (.int p2)] [])) t
    refine XS.iloadN X0.here hx rfl (hb hby d5_0) rfl ?_
    show Steps p.tables e below (T0.setTop (mkF m 1 #[.val (.int p1), .val (.int p2)] [(.int p1)])) t
    refine XS.iloadN X0.here hx rfl (hb hby d5_1) rfl ?_
    exact k
  by_cases hc2_0 : p2 < p1
  · rw [if_pos hc2_0]
    refine Done.of (T' := T0) (g' := (mkF m 10 #[.val (.int p1), .val (.int p2)] [(.int p2)])) (fun t k => ?_) ?_
    · show Steps p.tables e below (T0.setTop (mkF m 2 #[.val (.int p1), .val (.int p2)] [(.int p2), (.int p1)])) t
      refine XS.icmpYes X0.here hx rfl (pc0 := 2) (pc' := 9) rfl (hb hby d5_2) rfl (tlt hc2_0).2.2.1 (by decide) (by decide) ?_
      show Steps p.tables e below (T0.setTop (mkF m 9 #[.val (.int p1), .val (.int p2)] [])) t
      refine XS.iloadN X0.here hx rfl (hb hby d5_9) rfl ?_
      exact k
    exact doneI X0 hx hret hlk (hb hby d5_10) ⟨rfl, N0, e0⟩ (by decide) (by decide)
  · rw [if_neg hc2_0]
    refine Done.of (T' := T0) (g' := (mkF m 10 #[.val (.int p1), .val (.int p2)] [(.int p1)])) (fun t k => ?_) ?_
    · show Steps p.tables e below (T0.setTop (mkF m 2 #[.val (.int p1), .val (.int p2)] [(.int p2), (.int p1)])) t
      refine XS.icmpNo X0.here hx rfl (hb hby d5_2) rfl (flt hc2_0).2.2.1 ?_
      show Steps p.tables e below (T0.setTop (mkF m 5 #[.val (.int p1), .val (.int p2)] [])) t
      refine XS.iloadN X0.here hx rfl (hb hby d5_5) rfl ?_
      show Steps p.tables e below (T0.setTop (mkF m 6 #[.val (.int p1), .val (.int p2)] [(.int p1)])) t
      refine XS.goto X0.here hx rfl (pc0 := 6) (pc' := 10) rfl (hb hby d5_6) (by decide) (by decide) ?_
      exact k
    exact doneI X0 hx hret hlk (hb hby d5_10) ⟨rfl, N0, e0⟩ (by decide) (by decide)
theorem ef_5 (m : MethodId) (p1 : Int32) (p2 : Int32) : entryFrame m #[(.int p1), (.int p2)] 2 = mkF m 0 #[.val (.int p1), .val (.int p2)] [] := by first | (simp [entryFrame, mkF, argsToLocals, Value.category, maxLocals]; done) | rfl
set_option maxRecDepth 65536 in
set_option maxHeartbeats 40000000 in
theorem rm5 (l : Launch) (Z : State) (a0 : Array Value) (hw : ∀ d ∈ tables_1, d.before a0 Z = true) (ws : List Jvm.Cond) (p1 : Int32) (p2 : Int32) (h0 : Heap) (n0 : Nat) :
    MetFree l (⟨"java/lang/Math", "min", "(II)I"⟩ : MethodName) (head1 (Jvm.Cond.code (⟨"java/lang/Math", "min", "(II)I"⟩ : MethodName) jdk_29_method_69_code 2 (some .int) :: ws) ({ frames := 0, cells := 0, slots := 0, locals := 0 } : Room)) (fun a U => a = #[(.int p1), (.int p2)] ∧ Z.Warmed39 U.vm ∧ U.heap = h0) (fun _ _ _ _ _ => True) (fun _ U o U' => ∃ v L, o = .returned v ∧ (Qp h0 n0 (.int (F5_0 p1 p2))) v U'.heap L ∧ FrameEnd U o U' L ({ frames := 0, cells := 0, slots := 0, locals := 0 } : Room).cells ({ frames := 0, cells := 0, slots := 0, locals := 0 } : Room).slots) := by
  refine MetFree.of_bodySF (Jvm.Free.JP.mathPlain rfl (by decide +kernel)) hisR ?_
  intro p e s m args below meth c s₁ Bd hml0 hP hK
  obtain ⟨rfl, hZ, hh⟩ := hP
  have hown : s.vm.findClass "java/lang/Math" = some m.cls := findClass_of_methodNamed Bd.named
  have hnm := (name_of_methodNamed Bd.named Bd.method).1
  have X0 : Stand p l e ({ frames := 0, cells := 0, slots := 0, locals := 0 } : Room) s m #[(.int p1), (.int p2)] below meth c s₁ [] 0 0 := Stand.of_body Bd
  have e0 : s₁.heap = h0 := by rw [← hh, Bd.state]; rfl
  have d := bk5_0 (n0 := n0) Bd.exec hZ hw Bd.bytes hml0 hown hnm Bd.returns (BodyLoose.notSynchronized Bd) X0 (Fr.nil n0) e0 p1 p2
  have d2 : Done p e below s ({ frames := 0, cells := 0, slots := 0, locals := 0 } : Room) (Qp h0 n0 (.int (F5_0 p1 p2))) s₁ (entryFrame m #[(.int p1), (.int p2)] 2) := by rw [ef_5]; exact d
  exact d2
theorem d6_0 : decode jdk_29_method_65_code 0 = .ok (.iload_n 0, 1) := by decide +kernel
theorem d6_1 : decode jdk_29_method_65_code 1 = .ok (.iload_n 1, 1) := by decide +kernel
theorem d6_2 : decode jdk_29_method_65_code 2 = .ok (.if_icmp .lt 7, 3) := by decide +kernel
theorem d6_5 : decode jdk_29_method_65_code 5 = .ok (.iload_n 0, 1) := by decide +kernel
theorem d6_6 : decode jdk_29_method_65_code 6 = .ok (.goto 4, 3) := by decide +kernel
theorem d6_9 : decode jdk_29_method_65_code 9 = .ok (.iload_n 1, 1) := by decide +kernel
theorem d6_10 : decode jdk_29_method_65_code 10 = .ok (.ireturn, 1) := by decide +kernel
def F6_0 (p1 : Int32) (p2 : Int32) : Int32 := (if p1 < p2 then p2 else p1)
set_option maxRecDepth 65536 in
set_option maxHeartbeats 40000000 in
theorem bk6_0 {p : Program} {l : Launch} {e : Env} {s : State} {m : MethodId} {args : Array Value} {below : List Frame} {meth : Method} {c : Code} {T0 : State} {locs : List Loc} {Z : State} {a0 : Array Value} {h0 : Heap} {n0 : Nat}
    (hx : p.tables.exec = Jvm.exec) (hZ : Z.Warmed39 s.vm) (hw : ∀ d ∈ tables_1, d.before a0 Z = true) (hby : c.code = jdk_29_method_65_code) (hml : c.maxLocals = 2) (hown : s.vm.findClass "java/lang/Math" = some m.cls) (hnm : meth.name = "max") (hret : meth.sig.returnType = some .int) (hlk : meth.locks = false)
    (X0 : Stand p l e ({ frames := 0, cells := 0, slots := 0, locals := 0 } : Room) s m args below meth c T0 locs 0 0) (N0 : Fr n0 locs) (e0 : T0.heap = h0) (p1 : Int32) (p2 : Int32) :
    Done p e below s ({ frames := 0, cells := 0, slots := 0, locals := 0 } : Room) (Qp h0 n0 (.int (F6_0 p1 p2))) T0 (mkF m 0 #[.val (.int p1), .val (.int p2)] []) := by
  unfold F6_0
  refine Done.of (T' := T0) (g' := (mkF m 2 #[.val (.int p1), .val (.int p2)] [(.int p2), (.int p1)])) (fun t k => ?_) ?_
  · show Steps p.tables e below (T0.setTop (mkF m 0 #[.val (.int p1), .val (.int p2)] [])) t
    refine XS.iloadN X0.here hx rfl (hb hby d6_0) rfl ?_
    show Steps p.tables e below (T0.setTop (mkF m 1 #[.val (.int p1), .val (.int p2)] [(.int p1)])) t
    refine XS.iloadN X0.here hx rfl (hb hby d6_1) rfl ?_
    exact k
  by_cases hc2_0 : p1 < p2
  · rw [if_pos hc2_0]
    refine Done.of (T' := T0) (g' := (mkF m 10 #[.val (.int p1), .val (.int p2)] [(.int p2)])) (fun t k => ?_) ?_
    · show Steps p.tables e below (T0.setTop (mkF m 2 #[.val (.int p1), .val (.int p2)] [(.int p2), (.int p1)])) t
      refine XS.icmpYes X0.here hx rfl (pc0 := 2) (pc' := 9) rfl (hb hby d6_2) rfl (tlt hc2_0).1 (by decide) (by decide) ?_
      show Steps p.tables e below (T0.setTop (mkF m 9 #[.val (.int p1), .val (.int p2)] [])) t
      refine XS.iloadN X0.here hx rfl (hb hby d6_9) rfl ?_
      exact k
    exact doneI X0 hx hret hlk (hb hby d6_10) ⟨rfl, N0, e0⟩ (by decide) (by decide)
  · rw [if_neg hc2_0]
    refine Done.of (T' := T0) (g' := (mkF m 10 #[.val (.int p1), .val (.int p2)] [(.int p1)])) (fun t k => ?_) ?_
    · show Steps p.tables e below (T0.setTop (mkF m 2 #[.val (.int p1), .val (.int p2)] [(.int p2), (.int p1)])) t
      refine XS.icmpNo X0.here hx rfl (hb hby d6_2) rfl (flt hc2_0).1 ?_
      show Steps p.tables e below (T0.setTop (mkF m 5 #[.val (.int p1), .val (.int p2)] [])) t
      refine XS.iloadN X0.here hx rfl (hb hby d6_5) rfl ?_
      show Steps p.tables e below (T0.setTop (mkF m 6 #[.val (.int p1), .val (.int p2)] [(.int p1)])) t
      refine XS.goto X0.here hx rfl (pc0 := 6) (pc' := 10) rfl (hb hby d6_6) (by decide) (by decide) ?_
      exact k
    exact doneI X0 hx hret hlk (hb hby d6_10) ⟨rfl, N0, e0⟩ (by decide) (by decide)
theorem ef_6 (m : MethodId) (p1 : Int32) (p2 : Int32) : entryFrame m #[(.int p1), (.int p2)] 2 = mkF m 0 #[.val (.int p1), .val (.int p2)] [] := by first | (simp [entryFrame, mkF, argsToLocals, Value.category, maxLocals]; done) | rfl
set_option maxRecDepth 65536 in
set_option maxHeartbeats 40000000 in
theorem rm6 (l : Launch) (Z : State) (a0 : Array Value) (hw : ∀ d ∈ tables_1, d.before a0 Z = true) (ws : List Jvm.Cond) (p1 : Int32) (p2 : Int32) (h0 : Heap) (n0 : Nat) :
    MetFree l (⟨"java/lang/Math", "max", "(II)I"⟩ : MethodName) (head1 (Jvm.Cond.code (⟨"java/lang/Math", "max", "(II)I"⟩ : MethodName) jdk_29_method_65_code 2 (some .int) :: ws) ({ frames := 0, cells := 0, slots := 0, locals := 0 } : Room)) (fun a U => a = #[(.int p1), (.int p2)] ∧ Z.Warmed39 U.vm ∧ U.heap = h0) (fun _ _ _ _ _ => True) (fun _ U o U' => ∃ v L, o = .returned v ∧ (Qp h0 n0 (.int (F6_0 p1 p2))) v U'.heap L ∧ FrameEnd U o U' L ({ frames := 0, cells := 0, slots := 0, locals := 0 } : Room).cells ({ frames := 0, cells := 0, slots := 0, locals := 0 } : Room).slots) := by
  refine MetFree.of_bodySF (Jvm.Free.JP.mathPlain rfl (by decide +kernel)) hisR ?_
  intro p e s m args below meth c s₁ Bd hml0 hP hK
  obtain ⟨rfl, hZ, hh⟩ := hP
  have hown : s.vm.findClass "java/lang/Math" = some m.cls := findClass_of_methodNamed Bd.named
  have hnm := (name_of_methodNamed Bd.named Bd.method).1
  have X0 : Stand p l e ({ frames := 0, cells := 0, slots := 0, locals := 0 } : Room) s m #[(.int p1), (.int p2)] below meth c s₁ [] 0 0 := Stand.of_body Bd
  have e0 : s₁.heap = h0 := by rw [← hh, Bd.state]; rfl
  have d := bk6_0 (n0 := n0) Bd.exec hZ hw Bd.bytes hml0 hown hnm Bd.returns (BodyLoose.notSynchronized Bd) X0 (Fr.nil n0) e0 p1 p2
  have d2 : Done p e below s ({ frames := 0, cells := 0, slots := 0, locals := 0 } : Room) (Qp h0 n0 (.int (F6_0 p1 p2))) s₁ (entryFrame m #[(.int p1), (.int p2)] 2) := by rw [ef_6]; exact d
  exact d2
theorem d1_0 : decode prog_12_method_1_code 0 = .ok (.aload_n 0, 1) := by decide +kernel
theorem d1_1 : decode prog_12_method_1_code 1 = .ok (.invokespecial 1, 3) := by decide +kernel
theorem d1_4 : decode prog_12_method_1_code 4 = .ok (.return_, 1) := by decide +kernel
set_option maxRecDepth 65536 in
set_option maxHeartbeats 40000000 in
theorem bk1_0 {p : Program} {l : Launch} {e : Env} {s : State} {m : MethodId} {args : Array Value} {below : List Frame} {meth : Method} {c : Code} {T0 : State} {locs : List Loc} {Z : State} {a0 : Array Value} {h0 : Heap} {n0 : Nat}
    (hx : p.tables.exec = Jvm.exec) (hZ : Z.Warmed39 s.vm) (hw : ∀ d ∈ tables_1, d.before a0 Z = true) (hby : c.code = prog_12_method_1_code) (hml : c.maxLocals = 1) (hown : s.vm.findClass "com/example/twinstream/twinstream/kafka/FetchBudget" = some m.cls) (hnm : meth.name = "<init>") (hret : meth.sig.returnType = none) (hlk : meth.locks = false)
    (X0 : Stand p l e ({ frames := 1, cells := 0, slots := 0, locals := 12 } : Room) s m args below meth c T0 locs 0 0) (N0 : Fr n0 locs) (e0 : T0.heap = h0) (a1 : Addr) :
    Done p e below s ({ frames := 1, cells := 0, slots := 0, locals := 12 } : Room) (Qv h0 n0) T0 (mkF m 0 #[.val (.ref a1)] []) := by
  refine Done.of (T' := T0) (g' := (mkF m 1 #[.val (.ref a1)] [(.ref a1)])) (fun t k => ?_) ?_
  · show Steps p.tables e below (T0.setTop (mkF m 0 #[.val (.ref a1)] [])) t
    refine XS.aloadN X0.here hx rfl (hb hby d1_0) rfl rfl ?_
    exact k
  obtain ⟨T1, X1, e1, st1⟩ := initO X0 hx hZ hown (hw _ (List.mem_of_getElem? (i := 7) rfl)) (hw _ (List.mem_of_getElem? (i := 8) rfl)) (hw _ (List.mem_of_getElem? (i := 9) rfl)) e0 (g := (mkF m 1 #[.val (.ref a1)] [(.ref a1)])) rfl (by rw [hml]; rfl) rfl (hb hby d1_1) (by decide) (W := 0) (by show 2 * 0 + _ ≤ _; exact Nat.le_of_eq rfl) (by decide)
  refine Done.of (g' := (mkF m 4 #[.val (.ref a1)] [])) st1 ?_
  exact doneV X1 hx hret hlk (hb hby d1_4) ⟨rfl, N0, e1⟩ (by decide) (by decide)
theorem ef_1 (m : MethodId) (a1 : Addr) : entryFrame m #[(.ref a1)] 1 = mkF m 0 #[.val (.ref a1)] [] := by first | (simp [entryFrame, mkF, argsToLocals, Value.category, maxLocals]; done) | rfl
theorem pn_1 : plainName "com/example/twinstream/twinstream/kafka/FetchBudget" = true := by first | (simp [plainName, overriddenIn]; done) | decide +kernel
set_option maxRecDepth 65536 in
set_option maxHeartbeats 40000000 in
theorem rm1 (l : Launch) (Z : State) (a0 : Array Value) (hw : ∀ d ∈ tables_1, d.before a0 Z = true) (ws : List Jvm.Cond) (a1 : Addr) (h0 : Heap) (n0 : Nat) :
    MetFree l (⟨"com/example/twinstream/twinstream/kafka/FetchBudget", "<init>", "()V"⟩ : MethodName) (head1 (Jvm.Cond.code (⟨"com/example/twinstream/twinstream/kafka/FetchBudget", "<init>", "()V"⟩ : MethodName) prog_12_method_1_code 1 none :: ws) ({ frames := 1, cells := 0, slots := 0, locals := 12 } : Room)) (fun a U => a = #[(.ref a1)] ∧ Z.Warmed39 U.vm ∧ U.heap = h0) (fun _ _ _ _ _ => True) (fun _ U o U' => ∃ v L, o = .returned v ∧ (Qv h0 n0) v U'.heap L ∧ FrameEnd U o U' L ({ frames := 1, cells := 0, slots := 0, locals := 12 } : Room).cells ({ frames := 1, cells := 0, slots := 0, locals := 12 } : Room).slots) := by
  refine MetFree.of_bodySF (plainFor_of_name pn_1) hisR ?_
  intro p e s m args below meth c s₁ Bd hml0 hP hK
  obtain ⟨rfl, hZ, hh⟩ := hP
  have hown : s.vm.findClass "com/example/twinstream/twinstream/kafka/FetchBudget" = some m.cls := findClass_of_methodNamed Bd.named
  have hnm := (name_of_methodNamed Bd.named Bd.method).1
  have X0 : Stand p l e ({ frames := 1, cells := 0, slots := 0, locals := 12 } : Room) s m #[(.ref a1)] below meth c s₁ [] 0 0 := Stand.of_body Bd
  have e0 : s₁.heap = h0 := by rw [← hh, Bd.state]; rfl
  have d := bk1_0 (n0 := n0) Bd.exec hZ hw Bd.bytes hml0 hown hnm Bd.returns (BodyLoose.notSynchronized Bd) X0 (Fr.nil n0) e0 a1
  have d2 : Done p e below s ({ frames := 1, cells := 0, slots := 0, locals := 12 } : Room) (Qv h0 n0) s₁ (entryFrame m #[(.ref a1)] 1) := by rw [ef_1]; exact d
  exact d2
def own_rv (w p : Int32) : Int32 := if (2097152 : Int32) < (w + p) then (0 : Int32) else (1 : Int32)
def own_rf (w p : Int32) : Int32 := if (2097152 : Int32) < (w + p) then w else (w + p)
theorem d3_0 : decode prog_12_method_4_code 0 = .ok (.aload_n 0, 1) := by decide +kernel
theorem d3_1 : decode prog_12_method_4_code 1 = .ok (.getfield 25, 3) := by decide +kernel
theorem d3_4 : decode prog_12_method_4_code 4 = .ok (.iload_n 1, 1) := by decide +kernel
theorem d3_5 : decode prog_12_method_4_code 5 = .ok (.iadd, 1) := by decide +kernel
theorem d3_6 : decode prog_12_method_4_code 6 = .ok (.ldc 11, 2) := by decide +kernel
theorem d3_8 : decode prog_12_method_4_code 8 = .ok (.if_icmp .gt 7, 3) := by decide +kernel
theorem d3_11 : decode prog_12_method_4_code 11 = .ok (.iconst 1, 1) := by decide +kernel
theorem d3_12 : decode prog_12_method_4_code 12 = .ok (.goto 4, 3) := by decide +kernel
theorem d3_15 : decode prog_12_method_4_code 15 = .ok (.iconst 0, 1) := by decide +kernel
theorem d3_16 : decode prog_12_method_4_code 16 = .ok (.istore_n 2, 1) := by decide +kernel
theorem d3_17 : decode prog_12_method_4_code 17 = .ok (.iload_n 2, 1) := by decide +kernel
theorem d3_18 : decode prog_12_method_4_code 18 = .ok (.ifCond .eq 13, 3) := by decide +kernel
theorem d3_21 : decode prog_12_method_4_code 21 = .ok (.aload_n 0, 1) := by decide +kernel
theorem d3_22 : decode prog_12_method_4_code 22 = .ok (.dup, 1) := by decide +kernel
theorem d3_23 : decode prog_12_method_4_code 23 = .ok (.getfield 25, 3) := by decide +kernel
theorem d3_26 : decode prog_12_method_4_code 26 = .ok (.iload_n 1, 1) := by decide +kernel
theorem d3_27 : decode prog_12_method_4_code 27 = .ok (.iadd, 1) := by decide +kernel
theorem d3_28 : decode prog_12_method_4_code 28 = .ok (.putfield 25, 3) := by decide +kernel
theorem d3_31 : decode prog_12_method_4_code 31 = .ok (.iload_n 2, 1) := by decide +kernel
theorem d3_32 : decode prog_12_method_4_code 32 = .ok (.ireturn, 1) := by decide +kernel
set_option maxRecDepth 65536 in
set_option maxHeartbeats 40000000 in
theorem bk3_0 {p : Program} {l : Launch} {e : Env} {s : State} {m : MethodId} {args : Array Value} {below : List Frame} {meth : Method} {c : Code} {T0 : State} {locs : List Loc} {Z : State} {a0 : Array Value} {h0 : Heap} {n0 : Nat}
    (hx : p.tables.exec = Jvm.exec) (hZ : Z.Warmed39 s.vm) (hw : ∀ d ∈ tables_1, d.before a0 Z = true) (hby : c.code = prog_12_method_4_code) (hml : c.maxLocals = 3) (hown : s.vm.findClass "com/example/twinstream/twinstream/kafka/FetchBudget" = some m.cls) (hnm : meth.name = "reserve") (hret : meth.sig.returnType = some .boolean) (hlk : meth.locks = false)
    (X0 : Stand p l e ({ frames := 0, cells := 0, slots := 0, locals := 0 } : Room) s m args below meth c T0 locs 0 0) (N0 : Fr n0 locs) (e0 : T0.heap = h0) (a1 : Addr) (p2 : Int32) (w : Int32) (E_a1 : Exa Z h0 a1 "com/example/twinstream/twinstream/kafka/FetchBudget") (F_reserved_a1 : Fld Z h0 a1 "com/example/twinstream/twinstream/kafka/FetchBudget" "reserved" "I" (.int w)) (g_a1 : n0 ≤ a1) :
    Done p e below s ({ frames := 0, cells := 0, slots := 0, locals := 0 } : Room) (fun v h L => v = some (.int (own_rv w p2)) ∧ Fr n0 L ∧ Keep h0 h [a1] ∧ Exa Z h a1 "com/example/twinstream/twinstream/kafka/FetchBudget" ∧ Fld Z h a1 "com/example/twinstream/twinstream/kafka/FetchBudget" "reserved" "I" (.int (own_rf w p2))) T0 (mkF m 0 #[.val (.ref a1), .val (.int p2), .unset] []) := by
  simp only [own_rv, own_rf]
  refine Done.of (T' := T0) (g' := (mkF m 1 #[.val (.ref a1), .val (.int p2), .unset] [(.ref a1)])) (fun t k => ?_) ?_
  · show Steps p.tables e below (T0.setTop (mkF m 0 #[.val (.ref a1), .val (.int p2), .unset] [])) t
    refine XS.aloadN X0.here hx rfl (hb hby d3_0) rfl rfl ?_
    exact k
  obtain ⟨T1, X1, e1, st1⟩ := getF X0 hx hZ hown (host := "") (Or.inl (hw _ (List.mem_of_getElem? (i := 16) rfl))) Via.refl e0 F_reserved_a1 (g := (mkF m 1 #[.val (.ref a1), .val (.int p2), .unset] [(.ref a1)])) rfl rfl (hb hby d3_1)
  refine Done.of (g' := (mkF m 4 #[.val (.ref a1), .val (.int p2), .unset] [(.int w)])) st1 ?_
  refine Done.of (T' := T1) (g' := (mkF m 8 #[.val (.ref a1), .val (.int p2), .unset] [(.int (2097152 : Int32)), (.int (w + p2))])) (fun t k => ?_) ?_
  · show Steps p.tables e below (T1.setTop (mkF m 4 #[.val (.ref a1), .val (.int p2), .unset] [(.int w)])) t
    refine XS.iloadN X1.here hx rfl (hb hby d3_4) rfl ?_
    show Steps p.tables e below (T1.setTop (mkF m 5 #[.val (.ref a1), .val (.int p2), .unset] [(.int p2), (.int w)])) t
    refine XS.iadd X1.here hx rfl (hb hby d3_5) rfl ?_
    show Steps p.tables e below (T1.setTop (mkF m 6 #[.val (.ref a1), .val (.int p2), .unset] [(.int (w + p2))])) t
    refine X1.ldcInt hx hown (mvT hZ (hw _ (List.mem_of_getElem? (i := 18) rfl))) (g := (mkF m 6 #[.val (.ref a1), .val (.int p2), .unset] [(.int (w + p2))])) rfl (hb hby d3_6) _ ?_
    exact k
  by_cases hc8_1 : (2097152 : Int32) < (w + p2)
  · simp only [if_pos hc8_1]
    refine Done.of (T' := T1) (g' := (mkF m 32 #[.val (.ref a1), .val (.int p2), .val (.int (0 : Int32))] [(.int (0 : Int32))])) (fun t k => ?_) ?_
    · show Steps p.tables e below (T1.setTop (mkF m 8 #[.val (.ref a1), .val (.int p2), .unset] [(.int (2097152 : Int32)), (.int (w + p2))])) t
      refine XS.icmpYes X1.here hx rfl (pc0 := 8) (pc' := 15) rfl (hb hby d3_8) rfl (tlt hc8_1).2.2.1 (by decide) (by decide) ?_
      show Steps p.tables e below (T1.setTop (mkF m 15 #[.val (.ref a1), .val (.int p2), .unset] [])) t
      refine XS.iconst X1.here hx rfl (hb hby d3_15) ?_
      show Steps p.tables e below (T1.setTop (mkF m 16 #[.val (.ref a1), .val (.int p2), .unset] [(.int (0 : Int32))])) t
      refine XS.istoreN X1.here hx rfl (hb hby d3_16) rfl (l' := #[.val (.ref a1), .val (.int p2), .val (.int (0 : Int32))]) rfl ?_
      show Steps p.tables e below (T1.setTop (mkF m 17 #[.val (.ref a1), .val (.int p2), .val (.int (0 : Int32))] [])) t
      refine XS.iloadN X1.here hx rfl (hb hby d3_17) rfl ?_
      show Steps p.tables e below (T1.setTop (mkF m 18 #[.val (.ref a1), .val (.int p2), .val (.int (0 : Int32))] [(.int (0 : Int32))])) t
      refine XS.ifYes X1.here hx rfl (pc0 := 18) (pc' := 31) rfl (hb hby d3_18) rfl ((if0 _ _).trans (teq (show (0 : Int32) = (0 : Int32) from by decide)).1) (by decide) (by decide) ?_
      show Steps p.tables e below (T1.setTop (mkF m 31 #[.val (.ref a1), .val (.int p2), .val (.int (0 : Int32))] [])) t
      refine XS.iloadN X1.here hx rfl (hb hby d3_31) rfl ?_
      exact k
    exact doneN (t := .boolean) X1 (by simp) hx hret hlk (hb hby d3_32) (by show _ ∧ _; rw [e1]; exact ⟨rfl, N0, (Keep.refl h0 [a1]), E_a1, F_reserved_a1⟩) (by decide) (by decide)
  · simp only [if_neg hc8_1]
    refine Done.of (T' := T1) (g' := (mkF m 23 #[.val (.ref a1), .val (.int p2), .val (.int (1 : Int32))] [(.ref a1), (.ref a1)])) (fun t k => ?_) ?_
    · show Steps p.tables e below (T1.setTop (mkF m 8 #[.val (.ref a1), .val (.int p2), .unset] [(.int (2097152 : Int32)), (.int (w + p2))])) t
      refine XS.icmpNo X1.here hx rfl (hb hby d3_8) rfl (flt hc8_1).2.2.1 ?_
      show Steps p.tables e below (T1.setTop (mkF m 11 #[.val (.ref a1), .val (.int p2), .unset] [])) t
      refine XS.iconst X1.here hx rfl (hb hby d3_11) ?_
      show Steps p.tables e below (T1.setTop (mkF m 12 #[.val (.ref a1), .val (.int p2), .unset] [(.int (1 : Int32))])) t
      refine XS.goto X1.here hx rfl (pc0 := 12) (pc' := 16) rfl (hb hby d3_12) (by decide) (by decide) ?_
      show Steps p.tables e below (T1.setTop (mkF m 16 #[.val (.ref a1), .val (.int p2), .unset] [(.int (1 : Int32))])) t
      refine XS.istoreN X1.here hx rfl (hb hby d3_16) rfl (l' := #[.val (.ref a1), .val (.int p2), .val (.int (1 : Int32))]) rfl ?_
      show Steps p.tables e below (T1.setTop (mkF m 17 #[.val (.ref a1), .val (.int p2), .val (.int (1 : Int32))] [])) t
      refine XS.iloadN X1.here hx rfl (hb hby d3_17) rfl ?_
      show Steps p.tables e below (T1.setTop (mkF m 18 #[.val (.ref a1), .val (.int p2), .val (.int (1 : Int32))] [(.int (1 : Int32))])) t
      refine XS.ifNo X1.here hx rfl (hb hby d3_18) rfl ((if0 _ _).trans (feq (show ¬ ((1 : Int32) = (0 : Int32)) from by decide)).1) ?_
      show Steps p.tables e below (T1.setTop (mkF m 21 #[.val (.ref a1), .val (.int p2), .val (.int (1 : Int32))] [])) t
      refine XS.aloadN X1.here hx rfl (hb hby d3_21) rfl rfl ?_
      show Steps p.tables e below (T1.setTop (mkF m 22 #[.val (.ref a1), .val (.int p2), .val (.int (1 : Int32))] [(.ref a1)])) t
      refine XS.dup X1.here hx rfl (hb hby d3_22) rfl rfl ?_
      exact k
    obtain ⟨T3, X3, e3, st3⟩ := getF X1 hx hZ hown (host := "") (Or.inl (hw _ (List.mem_of_getElem? (i := 16) rfl))) Via.refl e1 F_reserved_a1 (g := (mkF m 23 #[.val (.ref a1), .val (.int p2), .val (.int (1 : Int32))] [(.ref a1), (.ref a1)])) rfl rfl (hb hby d3_23)
    refine Done.of (g' := (mkF m 26 #[.val (.ref a1), .val (.int p2), .val (.int (1 : Int32))] [(.int w), (.ref a1)])) st3 ?_
    refine Done.of (T' := T3) (g' := (mkF m 28 #[.val (.ref a1), .val (.int p2), .val (.int (1 : Int32))] [(.int (w + p2)), (.ref a1)])) (fun t k => ?_) ?_
    · show Steps p.tables e below (T3.setTop (mkF m 26 #[.val (.ref a1), .val (.int p2), .val (.int (1 : Int32))] [(.int w), (.ref a1)])) t
      refine XS.iloadN X3.here hx rfl (hb hby d3_26) rfl ?_
      show Steps p.tables e below (T3.setTop (mkF m 27 #[.val (.ref a1), .val (.int p2), .val (.int (1 : Int32))] [(.int p2), (.int w), (.ref a1)])) t
      refine XS.iadd X3.here hx rfl (hb hby d3_27) rfl ?_
      exact k
    obtain ⟨T4, h4, X4, e4, W4, st4⟩ := putF X3 hx hZ hown (host := "") (Or.inl (hw _ (List.mem_of_getElem? (i := 16) rfl))) Via.refl e3 F_reserved_a1 E_a1 (Or.inl (hw _ (List.mem_of_getElem? (i := 17) rfl))) (hw _ (List.mem_of_getElem? (i := 2) rfl)) (ty := .int) (by decide) rfl rfl (g := (mkF m 28 #[.val (.ref a1), .val (.int p2), .val (.int (1 : Int32))] [(.int (w + p2)), (.ref a1)])) rfl rfl (hb hby d3_28)
    have Fw4 := F_reserved_a1.same W4
    have f1 := E_a1.wr W4
    have N4 := Fr.snoc X4 N0 g_a1
    have K4 : Keep h0 h4 [a1] := (Keep.refl h0 [a1]).wr W4 (Or.inl (List.mem_of_getElem? (i := 0) rfl))
    refine Done.of (g' := (mkF m 31 #[.val (.ref a1), .val (.int p2), .val (.int (1 : Int32))] [])) st4 ?_
    refine Done.of (T' := T4) (g' := (mkF m 32 #[.val (.ref a1), .val (.int p2), .val (.int (1 : Int32))] [(.int (1 : Int32))])) (fun t k => ?_) ?_
    · show Steps p.tables e below (T4.setTop (mkF m 31 #[.val (.ref a1), .val (.int p2), .val (.int (1 : Int32))] [])) t
      refine XS.iloadN X4.here hx rfl (hb hby d3_31) rfl ?_
      exact k
    exact doneN (t := .boolean) X4 (by simp) hx hret hlk (hb hby d3_32) (by show _ ∧ _; rw [e4]; exact ⟨rfl, N4, K4, f1, Fw4⟩) (by decide) (by decide)
theorem ef_3 (m : MethodId) (a1 : Addr) (p2 : Int32) : entryFrame m #[(.ref a1), (.int p2)] 3 = mkF m 0 #[.val (.ref a1), .val (.int p2), .unset] [] := by first | (simp [entryFrame, mkF, argsToLocals, Value.category, maxLocals]; done) | rfl
theorem pn_3 : plainName "com/example/twinstream/twinstream/kafka/FetchBudget" = true := by first | (simp [plainName, overriddenIn]; done) | decide +kernel
def Q3 (Z : State) (a1 : Addr) (p2 : Int32) (h0 : Heap) (n0 : Nat) (w : Int32) (v : Option Value) (h : Heap) (L : List Loc) : Prop := v = some (.int (own_rv w p2)) ∧ Fr n0 L ∧ Keep h0 h [a1] ∧ Exa Z h a1 "com/example/twinstream/twinstream/kafka/FetchBudget" ∧ Fld Z h a1 "com/example/twinstream/twinstream/kafka/FetchBudget" "reserved" "I" (.int (own_rf w p2))
set_option maxRecDepth 65536 in
set_option maxHeartbeats 40000000 in
theorem rm3 (l : Launch) (Z : State) (a0 : Array Value) (hw : ∀ d ∈ tables_1, d.before a0 Z = true) (ws : List Jvm.Cond) (a1 : Addr) (p2 : Int32) (h0 : Heap) (n0 : Nat) (w : Int32) (E_a1 : Exa Z h0 a1 "com/example/twinstream/twinstream/kafka/FetchBudget") (F_reserved_a1 : Fld Z h0 a1 "com/example/twinstream/twinstream/kafka/FetchBudget" "reserved" "I" (.int w)) (g_a1 : n0 ≤ a1) :
    MetFree l (⟨"com/example/twinstream/twinstream/kafka/FetchBudget", "reserve", "(I)Z"⟩ : MethodName) (head1 (Jvm.Cond.code (⟨"com/example/twinstream/twinstream/kafka/FetchBudget", "reserve", "(I)Z"⟩ : MethodName) prog_12_method_4_code 3 (some .boolean) :: ws) ({ frames := 0, cells := 0, slots := 0, locals := 0 } : Room)) (fun a U => a = #[(.ref a1), (.int p2)] ∧ Z.Warmed39 U.vm ∧ U.heap = h0) (fun _ _ _ _ _ => True) (fun _ U o U' => ∃ v L, o = .returned v ∧ (Q3 Z a1 p2 h0 n0 w) v U'.heap L ∧ FrameEnd U o U' L ({ frames := 0, cells := 0, slots := 0, locals := 0 } : Room).cells ({ frames := 0, cells := 0, slots := 0, locals := 0 } : Room).slots) := by
  refine MetFree.of_bodySF (plainFor_of_name pn_3) hisR ?_
  intro p e s m args below meth c s₁ Bd hml0 hP hK
  obtain ⟨rfl, hZ, hh⟩ := hP
  have hown : s.vm.findClass "com/example/twinstream/twinstream/kafka/FetchBudget" = some m.cls := findClass_of_methodNamed Bd.named
  have hnm := (name_of_methodNamed Bd.named Bd.method).1
  have X0 : Stand p l e ({ frames := 0, cells := 0, slots := 0, locals := 0 } : Room) s m #[(.ref a1), (.int p2)] below meth c s₁ [] 0 0 := Stand.of_body Bd
  have e0 : s₁.heap = h0 := by rw [← hh, Bd.state]; rfl
  have d := bk3_0 (n0 := n0) Bd.exec hZ hw Bd.bytes hml0 hown hnm Bd.returns (BodyLoose.notSynchronized Bd) X0 (Fr.nil n0) e0 a1 p2 w E_a1 F_reserved_a1 g_a1
  have d2 : Done p e below s ({ frames := 0, cells := 0, slots := 0, locals := 0 } : Room) (Q3 Z a1 p2 h0 n0 w) s₁ (entryFrame m #[(.ref a1), (.int p2)] 3) := by rw [ef_3]; exact d
  exact d2
theorem pd_0 : parseMethodDescriptor "(II)I" = some ⟨[.int, .int], some .int⟩ := by decide +kernel
theorem d4_0 : decode method_2_code 0 = .ok (.ldc 9, 2) := by decide +kernel
theorem d4_2 : decode method_2_code 2 = .ok (.istore 4, 2) := by decide +kernel
theorem d4_4 : decode method_2_code 4 = .ok (.iload_n 2, 1) := by decide +kernel
theorem d4_5 : decode method_2_code 5 = .ok (.iconst 1, 1) := by decide +kernel
theorem d4_6 : decode method_2_code 6 = .ok (.iand, 1) := by decide +kernel
theorem d4_7 : decode method_2_code 7 = .ok (.ifCond .eq 23, 3) := by decide +kernel
theorem d4_10 : decode method_2_code 10 = .ok (.iconst 0, 1) := by decide +kernel
theorem d4_11 : decode method_2_code 11 = .ok (.iload 4, 2) := by decide +kernel
theorem d4_13 : decode method_2_code 13 = .ok (.iload 4, 2) := by decide +kernel
theorem d4_15 : decode method_2_code 15 = .ok (.iload_n 1, 1) := by decide +kernel
theorem d4_16 : decode method_2_code 16 = .ok (.isub, 1) := by decide +kernel
theorem d4_17 : decode method_2_code 17 = .ok (.iload_n 3, 1) := by decide +kernel
theorem d4_18 : decode method_2_code 18 = .ok (.iconst 3, 1) := by decide +kernel
theorem d4_19 : decode method_2_code 19 = .ok (.iand, 1) := by decide +kernel
theorem d4_20 : decode method_2_code 20 = .ok (.iconst 1, 1) := by decide +kernel
theorem d4_21 : decode method_2_code 21 = .ok (.isub, 1) := by decide +kernel
theorem d4_22 : decode method_2_code 22 = .ok (.iadd, 1) := by decide +kernel
theorem d4_23 : decode method_2_code 23 = .ok (.invokestatic 10, 3) := by decide +kernel
theorem d4_26 : decode method_2_code 26 = .ok (.invokestatic 16, 3) := by decide +kernel
theorem d4_29 : decode method_2_code 29 = .ok (.ireturn, 1) := by decide +kernel
theorem d4_30 : decode method_2_code 30 = .ok (.iload_n 0, 1) := by decide +kernel
theorem d4_31 : decode method_2_code 31 = .ok (.ldc 19, 2) := by decide +kernel
theorem d4_33 : decode method_2_code 33 = .ok (.iand, 1) := by decide +kernel
theorem d4_34 : decode method_2_code 34 = .ok (.iload 4, 2) := by decide +kernel
theorem d4_36 : decode method_2_code 36 = .ok (.iconst 1, 1) := by decide +kernel
theorem d4_37 : decode method_2_code 37 = .ok (.iadd, 1) := by decide +kernel
theorem d4_38 : decode method_2_code 38 = .ok (.irem, 1) := by decide +kernel
theorem d4_39 : decode method_2_code 39 = .ok (.ireturn, 1) := by decide +kernel
def F4_0 (p1 : Int32) (p2 : Int32) (p3 : Int32) (p4 : Int32) : Int32 := (if (p3 &&& (1 : Int32)) = (0 : Int32) then ((p1 &&& (2147483647 : Int32)) % (2097153 : Int32)) else (F6_0 (0 : Int32) (F5_0 (2097152 : Int32) (((2097152 : Int32) - p2) + ((p4 &&& (3 : Int32)) - (1 : Int32))))))
set_option maxRecDepth 65536 in
set_option maxHeartbeats 40000000 in
theorem bk4_0 {p : Program} {l : Launch} {e : Env} {s : State} {m : MethodId} {args : Array Value} {below : List Frame} {meth : Method} {c : Code} {T0 : State} {locs : List Loc} {Z : State} {a0 : Array Value} {h0 : Heap} {n0 : Nat}
    (hx : p.tables.exec = Jvm.exec) (hZ : Z.Warmed39 s.vm) (hw : ∀ d ∈ tables_1, d.before a0 Z = true) (hby : c.code = method_2_code) (hml : c.maxLocals = 5) (hown : s.vm.findClass "com/example/twinstream/twinstream/kafka/FetchBudgetReservePinLaw" = some m.cls) (hnm : meth.name = "pick") (hret : meth.sig.returnType = some .int) (hlk : meth.locks = false)
    (X0 : Stand p l e ({ frames := 1, cells := 0, slots := 0, locals := 14 } : Room) s m args below meth c T0 locs 0 0) (N0 : Fr n0 locs) (e0 : T0.heap = h0) (p1 : Int32) (p2 : Int32) (p3 : Int32) (p4 : Int32) :
    Done p e below s ({ frames := 1, cells := 0, slots := 0, locals := 14 } : Room) (Qp h0 n0 (.int (F4_0 p1 p2 p3 p4))) T0 (mkF m 0 #[.val (.int p1), .val (.int p2), .val (.int p3), .val (.int p4), .unset] []) := by
  unfold F4_0
  refine Done.of (T' := T0) (g' := (mkF m 7 #[.val (.int p1), .val (.int p2), .val (.int p3), .val (.int p4), .val (.int (2097152 : Int32))] [(.int (p3 &&& (1 : Int32)))])) (fun t k => ?_) ?_
  · show Steps p.tables e below (T0.setTop (mkF m 0 #[.val (.int p1), .val (.int p2), .val (.int p3), .val (.int p4), .unset] [])) t
    refine X0.ldcInt hx hown (mvT hZ (hw _ (List.mem_of_getElem? (i := 0) rfl))) (g := (mkF m 0 #[.val (.int p1), .val (.int p2), .val (.int p3), .val (.int p4), .unset] [])) rfl (hb hby d4_0) _ ?_
    show Steps p.tables e below (T0.setTop (mkF m 2 #[.val (.int p1), .val (.int p2), .val (.int p3), .val (.int p4), .unset] [(.int (2097152 : Int32))])) t
    refine XS.istore X0.here hx rfl (hb hby d4_2) rfl (l' := #[.val (.int p1), .val (.int p2), .val (.int p3), .val (.int p4), .val (.int (2097152 : Int32))]) rfl ?_
    show Steps p.tables e below (T0.setTop (mkF m 4 #[.val (.int p1), .val (.int p2), .val (.int p3), .val (.int p4), .val (.int (2097152 : Int32))] [])) t
    refine XS.iloadN X0.here hx rfl (hb hby d4_4) rfl ?_
    show Steps p.tables e below (T0.setTop (mkF m 5 #[.val (.int p1), .val (.int p2), .val (.int p3), .val (.int p4), .val (.int (2097152 : Int32))] [(.int p3)])) t
    refine XS.iconst X0.here hx rfl (hb hby d4_5) ?_
    show Steps p.tables e below (T0.setTop (mkF m 6 #[.val (.int p1), .val (.int p2), .val (.int p3), .val (.int p4), .val (.int (2097152 : Int32))] [(.int (1 : Int32)), (.int p3)])) t
    refine XS.iand X0.here hx rfl (hb hby d4_6) rfl ?_
    exact k
  by_cases hc7_0 : (p3 &&& (1 : Int32)) = (0 : Int32)
  · rw [if_pos hc7_0]
    refine Done.of (T' := T0) (g' := (mkF m 39 #[.val (.int p1), .val (.int p2), .val (.int p3), .val (.int p4), .val (.int (2097152 : Int32))] [(.int ((p1 &&& (2147483647 : Int32)) % (2097153 : Int32)))])) (fun t k => ?_) ?_
    · show Steps p.tables e below (T0.setTop (mkF m 7 #[.val (.int p1), .val (.int p2), .val (.int p3), .val (.int p4), .val (.int (2097152 : Int32))] [(.int (p3 &&& (1 : Int32)))])) t
      refine XS.ifYes X0.here hx rfl (pc0 := 7) (pc' := 30) rfl (hb hby d4_7) rfl ((if0 _ _).trans (teq hc7_0).1) (by decide) (by decide) ?_
      show Steps p.tables e below (T0.setTop (mkF m 30 #[.val (.int p1), .val (.int p2), .val (.int p3), .val (.int p4), .val (.int (2097152 : Int32))] [])) t
      refine XS.iloadN X0.here hx rfl (hb hby d4_30) rfl ?_
      show Steps p.tables e below (T0.setTop (mkF m 31 #[.val (.int p1), .val (.int p2), .val (.int p3), .val (.int p4), .val (.int (2097152 : Int32))] [(.int p1)])) t
      refine X0.ldcInt hx hown (mvT hZ (hw _ (List.mem_of_getElem? (i := 10) rfl))) (g := (mkF m 31 #[.val (.int p1), .val (.int p2), .val (.int p3), .val (.int p4), .val (.int (2097152 : Int32))] [(.int p1)])) rfl (hb hby d4_31) _ ?_
      show Steps p.tables e below (T0.setTop (mkF m 33 #[.val (.int p1), .val (.int p2), .val (.int p3), .val (.int p4), .val (.int (2097152 : Int32))] [(.int (2147483647 : Int32)), (.int p1)])) t
      refine XS.iand X0.here hx rfl (hb hby d4_33) rfl ?_
      show Steps p.tables e below (T0.setTop (mkF m 34 #[.val (.int p1), .val (.int p2), .val (.int p3), .val (.int p4), .val (.int (2097152 : Int32))] [(.int (p1 &&& (2147483647 : Int32)))])) t
      refine XS.iload X0.here hx rfl (hb hby d4_34) rfl ?_
      show Steps p.tables e below (T0.setTop (mkF m 36 #[.val (.int p1), .val (.int p2), .val (.int p3), .val (.int p4), .val (.int (2097152 : Int32))] [(.int (2097152 : Int32)), (.int (p1 &&& (2147483647 : Int32)))])) t
      refine XS.iconst X0.here hx rfl (hb hby d4_36) ?_
      show Steps p.tables e below (T0.setTop (mkF m 37 #[.val (.int p1), .val (.int p2), .val (.int p3), .val (.int p4), .val (.int (2097152 : Int32))] [(.int (1 : Int32)), (.int (2097152 : Int32)), (.int (p1 &&& (2147483647 : Int32)))])) t
      refine XS.iadd X0.here hx rfl (hb hby d4_37) rfl ?_
      show Steps p.tables e below (T0.setTop (mkF m 38 #[.val (.int p1), .val (.int p2), .val (.int p3), .val (.int p4), .val (.int (2097152 : Int32))] [(.int (2097153 : Int32)), (.int (p1 &&& (2147483647 : Int32)))])) t
      refine iremM X0 hx rfl (hb hby d4_38) rfl (by decide) ?_
      exact k
    exact doneI X0 hx hret hlk (hb hby d4_39) ⟨rfl, N0, e0⟩ (by decide) (by decide)
  · rw [if_neg hc7_0]
    refine Done.of (T' := T0) (g' := (mkF m 23 #[.val (.int p1), .val (.int p2), .val (.int p3), .val (.int p4), .val (.int (2097152 : Int32))] [(.int (((2097152 : Int32) - p2) + ((p4 &&& (3 : Int32)) - (1 : Int32)))), (.int (2097152 : Int32)), (.int (0 : Int32))])) (fun t k => ?_) ?_
    · show Steps p.tables e below (T0.setTop (mkF m 7 #[.val (.int p1), .val (.int p2), .val (.int p3), .val (.int p4), .val (.int (2097152 : Int32))] [(.int (p3 &&& (1 : Int32)))])) t
      refine XS.ifNo X0.here hx rfl (hb hby d4_7) rfl ((if0 _ _).trans (feq hc7_0).1) ?_
      show Steps p.tables e below (T0.setTop (mkF m 10 #[.val (.int p1), .val (.int p2), .val (.int p3), .val (.int p4), .val (.int (2097152 : Int32))] [])) t
      refine XS.iconst X0.here hx rfl (hb hby d4_10) ?_
      show Steps p.tables e below (T0.setTop (mkF m 11 #[.val (.int p1), .val (.int p2), .val (.int p3), .val (.int p4), .val (.int (2097152 : Int32))] [(.int (0 : Int32))])) t
      refine XS.iload X0.here hx rfl (hb hby d4_11) rfl ?_
      show Steps p.tables e below (T0.setTop (mkF m 13 #[.val (.int p1), .val (.int p2), .val (.int p3), .val (.int p4), .val (.int (2097152 : Int32))] [(.int (2097152 : Int32)), (.int (0 : Int32))])) t
      refine XS.iload X0.here hx rfl (hb hby d4_13) rfl ?_
      show Steps p.tables e below (T0.setTop (mkF m 15 #[.val (.int p1), .val (.int p2), .val (.int p3), .val (.int p4), .val (.int (2097152 : Int32))] [(.int (2097152 : Int32)), (.int (2097152 : Int32)), (.int (0 : Int32))])) t
      refine XS.iloadN X0.here hx rfl (hb hby d4_15) rfl ?_
      show Steps p.tables e below (T0.setTop (mkF m 16 #[.val (.int p1), .val (.int p2), .val (.int p3), .val (.int p4), .val (.int (2097152 : Int32))] [(.int p2), (.int (2097152 : Int32)), (.int (2097152 : Int32)), (.int (0 : Int32))])) t
      refine XS.isub X0.here hx rfl (hb hby d4_16) rfl ?_
      show Steps p.tables e below (T0.setTop (mkF m 17 #[.val (.int p1), .val (.int p2), .val (.int p3), .val (.int p4), .val (.int (2097152 : Int32))] [(.int ((2097152 : Int32) - p2)), (.int (2097152 : Int32)), (.int (0 : Int32))])) t
      refine XS.iloadN X0.here hx rfl (hb hby d4_17) rfl ?_
      show Steps p.tables e below (T0.setTop (mkF m 18 #[.val (.int p1), .val (.int p2), .val (.int p3), .val (.int p4), .val (.int (2097152 : Int32))] [(.int p4), (.int ((2097152 : Int32) - p2)), (.int (2097152 : Int32)), (.int (0 : Int32))])) t
      refine XS.iconst X0.here hx rfl (hb hby d4_18) ?_
      show Steps p.tables e below (T0.setTop (mkF m 19 #[.val (.int p1), .val (.int p2), .val (.int p3), .val (.int p4), .val (.int (2097152 : Int32))] [(.int (3 : Int32)), (.int p4), (.int ((2097152 : Int32) - p2)), (.int (2097152 : Int32)), (.int (0 : Int32))])) t
      refine XS.iand X0.here hx rfl (hb hby d4_19) rfl ?_
      show Steps p.tables e below (T0.setTop (mkF m 20 #[.val (.int p1), .val (.int p2), .val (.int p3), .val (.int p4), .val (.int (2097152 : Int32))] [(.int (p4 &&& (3 : Int32))), (.int ((2097152 : Int32) - p2)), (.int (2097152 : Int32)), (.int (0 : Int32))])) t
      refine XS.iconst X0.here hx rfl (hb hby d4_20) ?_
      show Steps p.tables e below (T0.setTop (mkF m 21 #[.val (.int p1), .val (.int p2), .val (.int p3), .val (.int p4), .val (.int (2097152 : Int32))] [(.int (1 : Int32)), (.int (p4 &&& (3 : Int32))), (.int ((2097152 : Int32) - p2)), (.int (2097152 : Int32)), (.int (0 : Int32))])) t
      refine XS.isub X0.here hx rfl (hb hby d4_21) rfl ?_
      show Steps p.tables e below (T0.setTop (mkF m 22 #[.val (.int p1), .val (.int p2), .val (.int p3), .val (.int p4), .val (.int (2097152 : Int32))] [(.int ((p4 &&& (3 : Int32)) - (1 : Int32))), (.int ((2097152 : Int32) - p2)), (.int (2097152 : Int32)), (.int (0 : Int32))])) t
      refine XS.iadd X0.here hx rfl (hb hby d4_22) rfl ?_
      exact k
    obtain ⟨_, _, ⟨T2, L2, k2, n2⟩, -, X2, ⟨Lc2, hQ2, l2, y2, z2⟩, st2⟩ := Jvm.LawKit.callS X0 hx (y := (⟨"java/lang/Math", "min", "(II)I"⟩ : MethodName)) hown (mvT hZ (hw _ (List.mem_of_getElem? (i := 23) rfl))) (mvT hZ (hw _ (List.mem_of_getElem? (i := 24) rfl))) (mvT hZ (hw _ (List.mem_of_getElem? (i := 25) rfl))) (mvT hZ (hw _ (List.mem_of_getElem? (i := 26) rfl))) (by decide) (backOf (W := 1) (rm5 l Z a0 hw [] (2097152 : Int32) (((2097152 : Int32) - p2) + ((p4 &&& (3 : Int32)) - (1 : Int32))) h0 n0) hZ (hw _ (List.mem_of_getElem? (i := 26) rfl)) (hw _ (List.mem_of_getElem? (i := 25) rfl)) (by decide) (by decide)) (g := (mkF m 23 #[.val (.int p1), .val (.int p2), .val (.int p3), .val (.int p4), .val (.int (2097152 : Int32))] [(.int (((2097152 : Int32) - p2) + ((p4 &&& (3 : Int32)) - (1 : Int32)))), (.int (2097152 : Int32)), (.int (0 : Int32))])) rfl (by rw [hml]; rfl) (argsL := [(.int (2097152 : Int32)), (.int (((2097152 : Int32) - p2) + ((p4 &&& (3 : Int32)) - (1 : Int32))))]) (rest := [(.int (0 : Int32))]) (lenOf pd_0 rfl) rfl (by show 2 * 0 + _ ≤ _; exact Nat.le_of_eq rfl) (hb hby d4_23) (fun _ _ => ⟨rfl, e0, (by decide : 0 + 0 ≤ _), (by decide : 0 + 0 ≤ _)⟩)
    dsimp only [Pt.U, Pt.locs, Pt.cells, Pt.slots] at X2 l2 y2 z2 st2 hQ2
    subst l2 y2 z2
    obtain ⟨rfl, N2q, e2⟩ := hQ2
    have N2 := Fr.app N0 N2q
    replace X2 : Stand p l e ({ frames := 1, cells := 0, slots := 0, locals := 14 } : Room) s m args below meth c T2 _ 0 0 := X2
    refine Done.of (g' := (mkF m 26 #[.val (.int p1), .val (.int p2), .val (.int p3), .val (.int p4), .val (.int (2097152 : Int32))] [(.int (F5_0 (2097152 : Int32) (((2097152 : Int32) - p2) + ((p4 &&& (3 : Int32)) - (1 : Int32))))), (.int (0 : Int32))])) st2 ?_
    obtain ⟨_, _, ⟨T3, L3, k3, n3⟩, -, X3, ⟨Lc3, hQ3, l3, y3, z3⟩, st3⟩ := Jvm.LawKit.callS X2 hx (y := (⟨"java/lang/Math", "max", "(II)I"⟩ : MethodName)) hown (mvT hZ (hw _ (List.mem_of_getElem? (i := 27) rfl))) (mvT hZ (hw _ (List.mem_of_getElem? (i := 28) rfl))) (mvT hZ (hw _ (List.mem_of_getElem? (i := 25) rfl))) (mvT hZ (hw _ (List.mem_of_getElem? (i := 29) rfl))) (by decide) (backOf (W := 0) (rm6 l Z a0 hw [] (0 : Int32) (F5_0 (2097152 : Int32) (((2097152 : Int32) - p2) + ((p4 &&& (3 : Int32)) - (1 : Int32)))) h0 n0) hZ (hw _ (List.mem_of_getElem? (i := 29) rfl)) (hw _ (List.mem_of_getElem? (i := 25) rfl)) (by decide) (by decide)) (g := (mkF m 26 #[.val (.int p1), .val (.int p2), .val (.int p3), .val (.int p4), .val (.int (2097152 : Int32))] [(.int (F5_0 (2097152 : Int32) (((2097152 : Int32) - p2) + ((p4 &&& (3 : Int32)) - (1 : Int32))))), (.int (0 : Int32))])) rfl (by rw [hml]; rfl) (argsL := [(.int (0 : Int32)), (.int (F5_0 (2097152 : Int32) (((2097152 : Int32) - p2) + ((p4 &&& (3 : Int32)) - (1 : Int32)))))]) (rest := []) (lenOf pd_0 rfl) rfl (by show 2 * 0 + _ ≤ _; exact Nat.le_of_eq rfl) (hb hby d4_26) (fun _ _ => ⟨rfl, e2, (by decide : 0 + 0 ≤ _), (by decide : 0 + 0 ≤ _)⟩)
    dsimp only [Pt.U, Pt.locs, Pt.cells, Pt.slots] at X3 l3 y3 z3 st3 hQ3
    subst l3 y3 z3
    obtain ⟨rfl, N3q, e3⟩ := hQ3
    have N3 := Fr.app N2 N3q
    replace X3 : Stand p l e ({ frames := 1, cells := 0, slots := 0, locals := 14 } : Room) s m args below meth c T3 _ 0 0 := X3
    refine Done.of (g' := (mkF m 29 #[.val (.int p1), .val (.int p2), .val (.int p3), .val (.int p4), .val (.int (2097152 : Int32))] [(.int (F6_0 (0 : Int32) (F5_0 (2097152 : Int32) (((2097152 : Int32) - p2) + ((p4 &&& (3 : Int32)) - (1 : Int32))))))])) st3 ?_
    exact doneI X3 hx hret hlk (hb hby d4_29) ⟨rfl, N3, e3⟩ (by decide) (by decide)
theorem ef_4 (m : MethodId) (p1 : Int32) (p2 : Int32) (p3 : Int32) (p4 : Int32) : entryFrame m #[(.int p1), (.int p2), (.int p3), (.int p4)] 5 = mkF m 0 #[.val (.int p1), .val (.int p2), .val (.int p3), .val (.int p4), .unset] [] := by first | (simp [entryFrame, mkF, argsToLocals, Value.category, maxLocals]; done) | rfl
theorem pn_4 : plainName "com/example/twinstream/twinstream/kafka/FetchBudgetReservePinLaw" = true := by first | (simp [plainName, overriddenIn]; done) | decide +kernel
set_option maxRecDepth 65536 in
set_option maxHeartbeats 40000000 in
theorem rm4 (l : Launch) (Z : State) (a0 : Array Value) (hw : ∀ d ∈ tables_1, d.before a0 Z = true) (ws : List Jvm.Cond) (p1 : Int32) (p2 : Int32) (p3 : Int32) (p4 : Int32) (h0 : Heap) (n0 : Nat) :
    MetFree l (⟨"com/example/twinstream/twinstream/kafka/FetchBudgetReservePinLaw", "pick", "(IIII)I"⟩ : MethodName) (head1 (Jvm.Cond.code (⟨"com/example/twinstream/twinstream/kafka/FetchBudgetReservePinLaw", "pick", "(IIII)I"⟩ : MethodName) method_2_code 5 (some .int) :: ws) ({ frames := 1, cells := 0, slots := 0, locals := 14 } : Room)) (fun a U => a = #[(.int p1), (.int p2), (.int p3), (.int p4)] ∧ Z.Warmed39 U.vm ∧ U.heap = h0) (fun _ _ _ _ _ => True) (fun _ U o U' => ∃ v L, o = .returned v ∧ (Qp h0 n0 (.int (F4_0 p1 p2 p3 p4))) v U'.heap L ∧ FrameEnd U o U' L ({ frames := 1, cells := 0, slots := 0, locals := 14 } : Room).cells ({ frames := 1, cells := 0, slots := 0, locals := 14 } : Room).slots) := by
  refine MetFree.of_bodySF (plainFor_of_name pn_4) hisR ?_
  intro p e s m args below meth c s₁ Bd hml0 hP hK
  obtain ⟨rfl, hZ, hh⟩ := hP
  have hown : s.vm.findClass "com/example/twinstream/twinstream/kafka/FetchBudgetReservePinLaw" = some m.cls := findClass_of_methodNamed Bd.named
  have hnm := (name_of_methodNamed Bd.named Bd.method).1
  have X0 : Stand p l e ({ frames := 1, cells := 0, slots := 0, locals := 14 } : Room) s m #[(.int p1), (.int p2), (.int p3), (.int p4)] below meth c s₁ [] 0 0 := Stand.of_body Bd
  have e0 : s₁.heap = h0 := by rw [← hh, Bd.state]; rfl
  have d := bk4_0 (n0 := n0) Bd.exec hZ hw Bd.bytes hml0 hown hnm Bd.returns (BodyLoose.notSynchronized Bd) X0 (Fr.nil n0) e0 p1 p2 p3 p4
  have d2 : Done p e below s ({ frames := 1, cells := 0, slots := 0, locals := 14 } : Room) (Qp h0 n0 (.int (F4_0 p1 p2 p3 p4))) s₁ (entryFrame m #[(.int p1), (.int p2), (.int p3), (.int p4)] 5) := by rw [ef_4]; exact d
  exact d2
theorem pd_1 : parseMethodDescriptor "()V" = some ⟨[], none⟩ := by decide +kernel
theorem pd_2 : parseMethodDescriptor "(I)Z" = some ⟨[.int], some .boolean⟩ := by decide +kernel
theorem pd_3 : parseMethodDescriptor "(IIII)I" = some ⟨[.int, .int, .int, .int], some .int⟩ := by decide +kernel
def F0_164 (i0 : Int32) (i1 : Int32) (i2 : Int32) (i3 : Int32) (i4 : Int32) (i6 : Int32) (i7 : Int32) (i8 : Int32) (i9 : Int32) (i10 : Int32) (i11 : Int32) (i12 : Int32) (i13 : Int32) (i14 : Int32) (w_reserved_o5 : Int32) : Int32 := (if (own_rv w_reserved_o5 (i4 - i8)) = (0 : Int32) then (0 : Int32) else (if (own_rv (own_rf w_reserved_o5 (i4 - i8)) (1 : Int32)) = (0 : Int32) then (1 : Int32) else (0 : Int32)))
set_option maxRecDepth 65536 in
set_option maxHeartbeats 40000000 in
theorem bk0_164 {p : Program} {l : Launch} {e : Env} {s : State} {m : MethodId} {args : Array Value} {below : List Frame} {meth : Method} {c : Code} {T0 : State} {locs : List Loc} {Z : State} {a0 : Array Value} {h0 : Heap} {n0 : Nat}
    (hx : p.tables.exec = Jvm.exec) (hZ : Z.Warmed39 s.vm) (hw : ∀ d ∈ tables_1, d.before a0 Z = true) (hby : c.code = code) (hml : c.maxLocals = 17) (hown : s.vm.findClass "com/example/twinstream/twinstream/kafka/FetchBudgetReservePinLaw" = some m.cls) (hnm : meth.name = "law") (hret : meth.sig.returnType = some .boolean) (hlk : meth.locks = false)
    (X0 : Stand p l e room_1 s m args below meth c T0 locs 1 1) (N0 : Fr n0 locs) (e0 : T0.heap = h0) (i0 : Int32) (i1 : Int32) (i2 : Int32) (i3 : Int32) (i4 : Int32) (o5 : Addr) (i6 : Int32) (i7 : Int32) (i8 : Int32) (i9 : Int32) (i10 : Int32) (i11 : Int32) (i12 : Int32) (i13 : Int32) (i14 : Int32) (Z0 : n0 ≤ h0.size) (w_reserved_o5 : Int32) (E_o5 : Exa Z h0 o5 "com/example/twinstream/twinstream/kafka/FetchBudget") (F_reserved_o5 : Fld Z h0 o5 "com/example/twinstream/twinstream/kafka/FetchBudget" "reserved" "I" (.int w_reserved_o5)) (g_o5 : n0 ≤ o5) :
    Done p e below s room_1 (Ql n0 (.int (F0_164 i0 i1 i2 i3 i4 i6 i7 i8 i9 i10 i11 i12 i13 i14 w_reserved_o5))) T0 (mkF m 164 #[.val (.int i0), .val (.int i1), .val (.int i2), .val (.int i3), .val (.int i4), .val (.ref o5), .val (.int i6), .val (.int i7), .val (.int i8), .val (.int i9), .val (.int i10), .val (.int i11), .val (.int i12), .val (.int i13), .val (.int i14), .unset, .unset] []) := by
  unfold F0_164
  refine Done.of (T' := T0) (g' := (mkF m 171 #[.val (.int i0), .val (.int i1), .val (.int i2), .val (.int i3), .val (.int i4), .val (.ref o5), .val (.int i6), .val (.int i7), .val (.int i8), .val (.int i9), .val (.int i10), .val (.int i11), .val (.int i12), .val (.int i13), .val (.int i14), .unset, .unset] [(.int (i4 - i8)), (.ref o5)])) (fun t k => ?_) ?_
  · show Steps p.tables e below (T0.setTop (mkF m 164 #[.val (.int i0), .val (.int i1), .val (.int i2), .val (.int i3), .val (.int i4), .val (.ref o5), .val (.int i6), .val (.int i7), .val (.int i8), .val (.int i9), .val (.int i10), .val (.int i11), .val (.int i12), .val (.int i13), .val (.int i14), .unset, .unset] [])) t
    refine XS.aload X0.here hx rfl (hb hby at_164) rfl rfl ?_
    show Steps p.tables e below (T0.setTop (mkF m 166 #[.val (.int i0), .val (.int i1), .val (.int i2), .val (.int i3), .val (.int i4), .val (.ref o5), .val (.int i6), .val (.int i7), .val (.int i8), .val (.int i9), .val (.int i10), .val (.int i11), .val (.int i12), .val (.int i13), .val (.int i14), .unset, .unset] [(.ref o5)])) t
    refine XS.iload X0.here hx rfl (hb hby at_166) rfl ?_
    show Steps p.tables e below (T0.setTop (mkF m 168 #[.val (.int i0), .val (.int i1), .val (.int i2), .val (.int i3), .val (.int i4), .val (.ref o5), .val (.int i6), .val (.int i7), .val (.int i8), .val (.int i9), .val (.int i10), .val (.int i11), .val (.int i12), .val (.int i13), .val (.int i14), .unset, .unset] [(.int i4), (.ref o5)])) t
    refine XS.iload X0.here hx rfl (hb hby at_168) rfl ?_
    show Steps p.tables e below (T0.setTop (mkF m 170 #[.val (.int i0), .val (.int i1), .val (.int i2), .val (.int i3), .val (.int i4), .val (.ref o5), .val (.int i6), .val (.int i7), .val (.int i8), .val (.int i9), .val (.int i10), .val (.int i11), .val (.int i12), .val (.int i13), .val (.int i14), .unset, .unset] [(.int i8), (.int i4), (.ref o5)])) t
    refine XS.isub X0.here hx rfl (hb hby at_170) rfl ?_
    exact k
  obtain ⟨cq1, kq1, q1a, q1b, q1c⟩ := isOf hZ e0 E_o5
  obtain ⟨_, _, ⟨T1, L1, k1, n1⟩, -, X1, ⟨Lc1, hQ1, l1, y1, z1⟩, st1⟩ := X0.virtualBack hx (y := (⟨"com/example/twinstream/twinstream/kafka/FetchBudget", "reserve", "(I)Z"⟩ : MethodName)) (z := (⟨"com/example/twinstream/twinstream/kafka/FetchBudget", "reserve", "(I)Z"⟩ : MethodName)) hown (mvT hZ (hw _ (List.mem_of_getElem? (i := 11) rfl))) (mvT hZ (hw _ (List.mem_of_getElem? (i := 12) rfl))) (notFace_of_selects (args := #[]) (mvT hZ (hw _ (List.mem_of_getElem? (i := 14) rfl)))) (mvT hZ (hw _ (List.mem_of_getElem? (i := 14) rfl))) (mvT hZ (hw _ (List.mem_of_getElem? (i := 13) rfl))) (by decide) (backOf (W := 0) (rm3 l Z a0 hw [] o5 (i4 - i8) h0 n0 w_reserved_o5 E_o5 F_reserved_o5 g_o5) hZ (hw _ (List.mem_of_getElem? (i := 15) rfl)) (hw _ (List.mem_of_getElem? (i := 3) rfl)) (by decide) (by decide)) q1a q1c (g := (mkF m 171 #[.val (.int i0), .val (.int i1), .val (.int i2), .val (.int i3), .val (.int i4), .val (.ref o5), .val (.int i6), .val (.int i7), .val (.int i8), .val (.int i9), .val (.int i10), .val (.int i11), .val (.int i12), .val (.int i13), .val (.int i14), .unset, .unset] [(.int (i4 - i8)), (.ref o5)])) rfl (by rw [hml]; rfl) (Steps.refl _) (argsL := [(.int (i4 - i8))]) (rest := []) (lenOf pd_2 rfl) rfl (by show 2 * 0 + _ ≤ _; exact Nat.le_of_eq rfl) (hb hby at_171) (fun _ _ => ⟨rfl, e0, (by decide : 1 + 0 ≤ _), (by decide : 1 + 0 ≤ _)⟩)
  dsimp only [Pt.U, Pt.locs, Pt.cells, Pt.slots] at X1 l1 y1 z1 st1 hQ1
  subst l1 y1 z1
  obtain ⟨h1, e1⟩ : ∃ z, T1.heap = z := ⟨_, rfl⟩
  rw [e1] at hQ1
  obtain ⟨rfl, N1q, K1, E1, F1_reserved⟩ := hQ1
  have N1 := Fr.app N0 N1q
  replace X1 : Stand p l e room_1 s m args below meth c T1 _ 1 1 := X1
  refine Done.of (g' := (mkF m 174 #[.val (.int i0), .val (.int i1), .val (.int i2), .val (.int i3), .val (.int i4), .val (.ref o5), .val (.int i6), .val (.int i7), .val (.int i8), .val (.int i9), .val (.int i10), .val (.int i11), .val (.int i12), .val (.int i13), .val (.int i14), .unset, .unset] [(.int (own_rv w_reserved_o5 (i4 - i8)))])) (fun t k => st1.trans k) ?_
  refine Done.of (T' := T1) (g' := (mkF m 179 #[.val (.int i0), .val (.int i1), .val (.int i2), .val (.int i3), .val (.int i4), .val (.ref o5), .val (.int i6), .val (.int i7), .val (.int i8), .val (.int i9), .val (.int i10), .val (.int i11), .val (.int i12), .val (.int i13), .val (.int i14), .val (.int (own_rv w_reserved_o5 (i4 - i8))), .unset] [(.int (1 : Int32)), (.ref o5)])) (fun t k => ?_) ?_
  · show Steps p.tables e below (T1.setTop (mkF m 174 #[.val (.int i0), .val (.int i1), .val (.int i2), .val (.int i3), .val (.int i4), .val (.ref o5), .val (.int i6), .val (.int i7), .val (.int i8), .val (.int i9), .val (.int i10), .val (.int i11), .val (.int i12), .val (.int i13), .val (.int i14), .unset, .unset] [(.int (own_rv w_reserved_o5 (i4 - i8)))])) t
    refine XS.istore X1.here hx rfl (hb hby at_174) rfl (l' := #[.val (.int i0), .val (.int i1), .val (.int i2), .val (.int i3), .val (.int i4), .val (.ref o5), .val (.int i6), .val (.int i7), .val (.int i8), .val (.int i9), .val (.int i10), .val (.int i11), .val (.int i12), .val (.int i13), .val (.int i14), .val (.int (own_rv w_reserved_o5 (i4 - i8))), .unset]) rfl ?_
    show Steps p.tables e below (T1.setTop (mkF m 176 #[.val (.int i0), .val (.int i1), .val (.int i2), .val (.int i3), .val (.int i4), .val (.ref o5), .val (.int i6), .val (.int i7), .val (.int i8), .val (.int i9), .val (.int i10), .val (.int i11), .val (.int i12), .val (.int i13), .val (.int i14), .val (.int (own_rv w_reserved_o5 (i4 - i8))), .unset] [])) t
    refine XS.aload X1.here hx rfl (hb hby at_176) rfl rfl ?_
    show Steps p.tables e below (T1.setTop (mkF m 178 #[.val (.int i0), .val (.int i1), .val (.int i2), .val (.int i3), .val (.int i4), .val (.ref o5), .val (.int i6), .val (.int i7), .val (.int i8), .val (.int i9), .val (.int i10), .val (.int i11), .val (.int i12), .val (.int i13), .val (.int i14), .val (.int (own_rv w_reserved_o5 (i4 - i8))), .unset] [(.ref o5)])) t
    refine XS.iconst X1.here hx rfl (hb hby at_178) ?_
    exact k
  obtain ⟨cq2, kq2, q2a, q2b, q2c⟩ := isOf hZ e1 E1
  obtain ⟨_, _, ⟨T2, L2, k2, n2⟩, -, X2, ⟨Lc2, hQ2, l2, y2, z2⟩, st2⟩ := X1.virtualBack hx (y := (⟨"com/example/twinstream/twinstream/kafka/FetchBudget", "reserve", "(I)Z"⟩ : MethodName)) (z := (⟨"com/example/twinstream/twinstream/kafka/FetchBudget", "reserve", "(I)Z"⟩ : MethodName)) hown (mvT hZ (hw _ (List.mem_of_getElem? (i := 11) rfl))) (mvT hZ (hw _ (List.mem_of_getElem? (i := 12) rfl))) (notFace_of_selects (args := #[]) (mvT hZ (hw _ (List.mem_of_getElem? (i := 14) rfl)))) (mvT hZ (hw _ (List.mem_of_getElem? (i := 14) rfl))) (mvT hZ (hw _ (List.mem_of_getElem? (i := 13) rfl))) (by decide) (backOf (W := 0) (rm3 l Z a0 hw [] o5 (1 : Int32) h1 n0 (own_rf w_reserved_o5 (i4 - i8)) E1 F1_reserved g_o5) hZ (hw _ (List.mem_of_getElem? (i := 15) rfl)) (hw _ (List.mem_of_getElem? (i := 3) rfl)) (by decide) (by decide)) q2a q2c (g := (mkF m 179 #[.val (.int i0), .val (.int i1), .val (.int i2), .val (.int i3), .val (.int i4), .val (.ref o5), .val (.int i6), .val (.int i7), .val (.int i8), .val (.int i9), .val (.int i10), .val (.int i11), .val (.int i12), .val (.int i13), .val (.int i14), .val (.int (own_rv w_reserved_o5 (i4 - i8))), .unset] [(.int (1 : Int32)), (.ref o5)])) rfl (by rw [hml]; rfl) (Steps.refl _) (argsL := [(.int (1 : Int32))]) (rest := []) (lenOf pd_2 rfl) rfl (by show 2 * 0 + _ ≤ _; exact Nat.le_of_eq rfl) (hb hby at_179) (fun _ _ => ⟨rfl, e1, (by decide : 1 + 0 ≤ _), (by decide : 1 + 0 ≤ _)⟩)
  dsimp only [Pt.U, Pt.locs, Pt.cells, Pt.slots] at X2 l2 y2 z2 st2 hQ2
  subst l2 y2 z2
  obtain ⟨h2, e2⟩ : ∃ z, T2.heap = z := ⟨_, rfl⟩
  rw [e2] at hQ2
  obtain ⟨rfl, N2q, K2, E2, F2_reserved⟩ := hQ2
  have N2 := Fr.app N1 N2q
  replace X2 : Stand p l e room_1 s m args below meth c T2 _ 1 1 := X2
  refine Done.of (g' := (mkF m 182 #[.val (.int i0), .val (.int i1), .val (.int i2), .val (.int i3), .val (.int i4), .val (.ref o5), .val (.int i6), .val (.int i7), .val (.int i8), .val (.int i9), .val (.int i10), .val (.int i11), .val (.int i12), .val (.int i13), .val (.int i14), .val (.int (own_rv w_reserved_o5 (i4 - i8))), .unset] [(.int (own_rv (own_rf w_reserved_o5 (i4 - i8)) (1 : Int32)))])) (fun t k => st2.trans k) ?_
  refine Done.of (T' := T2) (g' := (mkF m 186 #[.val (.int i0), .val (.int i1), .val (.int i2), .val (.int i3), .val (.int i4), .val (.ref o5), .val (.int i6), .val (.int i7), .val (.int i8), .val (.int i9), .val (.int i10), .val (.int i11), .val (.int i12), .val (.int i13), .val (.int i14), .val (.int (own_rv w_reserved_o5 (i4 - i8))), .val (.int (own_rv (own_rf w_reserved_o5 (i4 - i8)) (1 : Int32)))] [(.int (own_rv w_reserved_o5 (i4 - i8)))])) (fun t k => ?_) ?_
  · show Steps p.tables e below (T2.setTop (mkF m 182 #[.val (.int i0), .val (.int i1), .val (.int i2), .val (.int i3), .val (.int i4), .val (.ref o5), .val (.int i6), .val (.int i7), .val (.int i8), .val (.int i9), .val (.int i10), .val (.int i11), .val (.int i12), .val (.int i13), .val (.int i14), .val (.int (own_rv w_reserved_o5 (i4 - i8))), .unset] [(.int (own_rv (own_rf w_reserved_o5 (i4 - i8)) (1 : Int32)))])) t
    refine XS.istore X2.here hx rfl (hb hby at_182) rfl (l' := #[.val (.int i0), .val (.int i1), .val (.int i2), .val (.int i3), .val (.int i4), .val (.ref o5), .val (.int i6), .val (.int i7), .val (.int i8), .val (.int i9), .val (.int i10), .val (.int i11), .val (.int i12), .val (.int i13), .val (.int i14), .val (.int (own_rv w_reserved_o5 (i4 - i8))), .val (.int (own_rv (own_rf w_reserved_o5 (i4 - i8)) (1 : Int32)))]) rfl ?_
    show Steps p.tables e below (T2.setTop (mkF m 184 #[.val (.int i0), .val (.int i1), .val (.int i2), .val (.int i3), .val (.int i4), .val (.ref o5), .val (.int i6), .val (.int i7), .val (.int i8), .val (.int i9), .val (.int i10), .val (.int i11), .val (.int i12), .val (.int i13), .val (.int i14), .val (.int (own_rv w_reserved_o5 (i4 - i8))), .val (.int (own_rv (own_rf w_reserved_o5 (i4 - i8)) (1 : Int32)))] [])) t
    refine XS.iload X2.here hx rfl (hb hby at_184) rfl ?_
    exact k
  by_cases hc186_2 : (own_rv w_reserved_o5 (i4 - i8)) = (0 : Int32)
  · rw [if_pos hc186_2]
    refine Done.of (T' := T2) (g' := (mkF m 199 #[.val (.int i0), .val (.int i1), .val (.int i2), .val (.int i3), .val (.int i4), .val (.ref o5), .val (.int i6), .val (.int i7), .val (.int i8), .val (.int i9), .val (.int i10), .val (.int i11), .val (.int i12), .val (.int i13), .val (.int i14), .val (.int (own_rv w_reserved_o5 (i4 - i8))), .val (.int (own_rv (own_rf w_reserved_o5 (i4 - i8)) (1 : Int32)))] [(.int (0 : Int32))])) (fun t k => ?_) ?_
    · show Steps p.tables e below (T2.setTop (mkF m 186 #[.val (.int i0), .val (.int i1), .val (.int i2), .val (.int i3), .val (.int i4), .val (.ref o5), .val (.int i6), .val (.int i7), .val (.int i8), .val (.int i9), .val (.int i10), .val (.int i11), .val (.int i12), .val (.int i13), .val (.int i14), .val (.int (own_rv w_reserved_o5 (i4 - i8))), .val (.int (own_rv (own_rf w_reserved_o5 (i4 - i8)) (1 : Int32)))] [(.int (own_rv w_reserved_o5 (i4 - i8)))])) t
      refine XS.ifYes X2.here hx rfl (pc0 := 186) (pc' := 198) rfl (hb hby at_186) rfl ((if0 _ _).trans (teq hc186_2).1) (by decide) (by decide) ?_
      show Steps p.tables e below (T2.setTop (mkF m 198 #[.val (.int i0), .val (.int i1), .val (.int i2), .val (.int i3), .val (.int i4), .val (.ref o5), .val (.int i6), .val (.int i7), .val (.int i8), .val (.int i9), .val (.int i10), .val (.int i11), .val (.int i12), .val (.int i13), .val (.int i14), .val (.int (own_rv w_reserved_o5 (i4 - i8))), .val (.int (own_rv (own_rf w_reserved_o5 (i4 - i8)) (1 : Int32)))] [])) t
      refine XS.iconst X2.here hx rfl (hb hby at_198) ?_
      exact k
    exact doneN (t := .boolean) X2 (by simp) hx hret hlk (hb hby at_199) ⟨rfl, N2⟩ (by decide) (by decide)
  · rw [if_neg hc186_2]
    refine Done.of (T' := T2) (g' := (mkF m 191 #[.val (.int i0), .val (.int i1), .val (.int i2), .val (.int i3), .val (.int i4), .val (.ref o5), .val (.int i6), .val (.int i7), .val (.int i8), .val (.int i9), .val (.int i10), .val (.int i11), .val (.int i12), .val (.int i13), .val (.int i14), .val (.int (own_rv w_reserved_o5 (i4 - i8))), .val (.int (own_rv (own_rf w_reserved_o5 (i4 - i8)) (1 : Int32)))] [(.int (own_rv (own_rf w_reserved_o5 (i4 - i8)) (1 : Int32)))])) (fun t k => ?_) ?_
    · show Steps p.tables e below (T2.setTop (mkF m 186 #[.val (.int i0), .val (.int i1), .val (.int i2), .val (.int i3), .val (.int i4), .val (.ref o5), .val (.int i6), .val (.int i7), .val (.int i8), .val (.int i9), .val (.int i10), .val (.int i11), .val (.int i12), .val (.int i13), .val (.int i14), .val (.int (own_rv w_reserved_o5 (i4 - i8))), .val (.int (own_rv (own_rf w_reserved_o5 (i4 - i8)) (1 : Int32)))] [(.int (own_rv w_reserved_o5 (i4 - i8)))])) t
      refine XS.ifNo X2.here hx rfl (hb hby at_186) rfl ((if0 _ _).trans (feq hc186_2).1) ?_
      show Steps p.tables e below (T2.setTop (mkF m 189 #[.val (.int i0), .val (.int i1), .val (.int i2), .val (.int i3), .val (.int i4), .val (.ref o5), .val (.int i6), .val (.int i7), .val (.int i8), .val (.int i9), .val (.int i10), .val (.int i11), .val (.int i12), .val (.int i13), .val (.int i14), .val (.int (own_rv w_reserved_o5 (i4 - i8))), .val (.int (own_rv (own_rf w_reserved_o5 (i4 - i8)) (1 : Int32)))] [])) t
      refine XS.iload X2.here hx rfl (hb hby at_189) rfl ?_
      exact k
    by_cases hc191_3 : (own_rv (own_rf w_reserved_o5 (i4 - i8)) (1 : Int32)) = (0 : Int32)
    · rw [if_pos hc191_3]
      refine Done.of (T' := T2) (g' := (mkF m 199 #[.val (.int i0), .val (.int i1), .val (.int i2), .val (.int i3), .val (.int i4), .val (.ref o5), .val (.int i6), .val (.int i7), .val (.int i8), .val (.int i9), .val (.int i10), .val (.int i11), .val (.int i12), .val (.int i13), .val (.int i14), .val (.int (own_rv w_reserved_o5 (i4 - i8))), .val (.int (own_rv (own_rf w_reserved_o5 (i4 - i8)) (1 : Int32)))] [(.int (1 : Int32))])) (fun t k => ?_) ?_
      · show Steps p.tables e below (T2.setTop (mkF m 191 #[.val (.int i0), .val (.int i1), .val (.int i2), .val (.int i3), .val (.int i4), .val (.ref o5), .val (.int i6), .val (.int i7), .val (.int i8), .val (.int i9), .val (.int i10), .val (.int i11), .val (.int i12), .val (.int i13), .val (.int i14), .val (.int (own_rv w_reserved_o5 (i4 - i8))), .val (.int (own_rv (own_rf w_reserved_o5 (i4 - i8)) (1 : Int32)))] [(.int (own_rv (own_rf w_reserved_o5 (i4 - i8)) (1 : Int32)))])) t
        refine XS.ifNo X2.here hx rfl (hb hby at_191) rfl ((if0 _ _).trans (teq hc191_3).2) ?_
        show Steps p.tables e below (T2.setTop (mkF m 194 #[.val (.int i0), .val (.int i1), .val (.int i2), .val (.int i3), .val (.int i4), .val (.ref o5), .val (.int i6), .val (.int i7), .val (.int i8), .val (.int i9), .val (.int i10), .val (.int i11), .val (.int i12), .val (.int i13), .val (.int i14), .val (.int (own_rv w_reserved_o5 (i4 - i8))), .val (.int (own_rv (own_rf w_reserved_o5 (i4 - i8)) (1 : Int32)))] [])) t
        refine XS.iconst X2.here hx rfl (hb hby at_194) ?_
        show Steps p.tables e below (T2.setTop (mkF m 195 #[.val (.int i0), .val (.int i1), .val (.int i2), .val (.int i3), .val (.int i4), .val (.ref o5), .val (.int i6), .val (.int i7), .val (.int i8), .val (.int i9), .val (.int i10), .val (.int i11), .val (.int i12), .val (.int i13), .val (.int i14), .val (.int (own_rv w_reserved_o5 (i4 - i8))), .val (.int (own_rv (own_rf w_reserved_o5 (i4 - i8)) (1 : Int32)))] [(.int (1 : Int32))])) t
        refine XS.goto X2.here hx rfl (pc0 := 195) (pc' := 199) rfl (hb hby at_195) (by decide) (by decide) ?_
        exact k
      exact doneN (t := .boolean) X2 (by simp) hx hret hlk (hb hby at_199) ⟨rfl, N2⟩ (by decide) (by decide)
    · rw [if_neg hc191_3]
      refine Done.of (T' := T2) (g' := (mkF m 199 #[.val (.int i0), .val (.int i1), .val (.int i2), .val (.int i3), .val (.int i4), .val (.ref o5), .val (.int i6), .val (.int i7), .val (.int i8), .val (.int i9), .val (.int i10), .val (.int i11), .val (.int i12), .val (.int i13), .val (.int i14), .val (.int (own_rv w_reserved_o5 (i4 - i8))), .val (.int (own_rv (own_rf w_reserved_o5 (i4 - i8)) (1 : Int32)))] [(.int (0 : Int32))])) (fun t k => ?_) ?_
      · show Steps p.tables e below (T2.setTop (mkF m 191 #[.val (.int i0), .val (.int i1), .val (.int i2), .val (.int i3), .val (.int i4), .val (.ref o5), .val (.int i6), .val (.int i7), .val (.int i8), .val (.int i9), .val (.int i10), .val (.int i11), .val (.int i12), .val (.int i13), .val (.int i14), .val (.int (own_rv w_reserved_o5 (i4 - i8))), .val (.int (own_rv (own_rf w_reserved_o5 (i4 - i8)) (1 : Int32)))] [(.int (own_rv (own_rf w_reserved_o5 (i4 - i8)) (1 : Int32)))])) t
        refine XS.ifYes X2.here hx rfl (pc0 := 191) (pc' := 198) rfl (hb hby at_191) rfl ((if0 _ _).trans (feq hc191_3).2) (by decide) (by decide) ?_
        show Steps p.tables e below (T2.setTop (mkF m 198 #[.val (.int i0), .val (.int i1), .val (.int i2), .val (.int i3), .val (.int i4), .val (.ref o5), .val (.int i6), .val (.int i7), .val (.int i8), .val (.int i9), .val (.int i10), .val (.int i11), .val (.int i12), .val (.int i13), .val (.int i14), .val (.int (own_rv w_reserved_o5 (i4 - i8))), .val (.int (own_rv (own_rf w_reserved_o5 (i4 - i8)) (1 : Int32)))] [])) t
        refine XS.iconst X2.here hx rfl (hb hby at_198) ?_
        exact k
      exact doneN (t := .boolean) X2 (by simp) hx hret hlk (hb hby at_199) ⟨rfl, N2⟩ (by decide) (by decide)
def F0_141 (i0 : Int32) (i1 : Int32) (i2 : Int32) (i3 : Int32) (i4 : Int32) (i6 : Int32) (i7 : Int32) (i8 : Int32) (i9 : Int32) (i10 : Int32) (i11 : Int32) (i12 : Int32) (i13 : Int32) (x0 : Int32) (w_reserved_o5 : Int32) : Int32 := (if i13 = x0 then (if x0 = (0 : Int32) then (F0_164 i0 i1 i2 i3 i4 i6 i7 i8 i9 i10 i11 i12 i13 x0 w_reserved_o5) else (F0_164 i0 i1 i2 i3 i4 i6 i7 (i8 + i12) i9 i10 i11 i12 i13 x0 w_reserved_o5)) else (0 : Int32))
set_option maxRecDepth 65536 in
set_option maxHeartbeats 40000000 in
theorem bk0_141 {p : Program} {l : Launch} {e : Env} {s : State} {m : MethodId} {args : Array Value} {below : List Frame} {meth : Method} {c : Code} {T0 : State} {locs : List Loc} {Z : State} {a0 : Array Value} {h0 : Heap} {n0 : Nat}
    (hx : p.tables.exec = Jvm.exec) (hZ : Z.Warmed39 s.vm) (hw : ∀ d ∈ tables_1, d.before a0 Z = true) (hby : c.code = code) (hml : c.maxLocals = 17) (hown : s.vm.findClass "com/example/twinstream/twinstream/kafka/FetchBudgetReservePinLaw" = some m.cls) (hnm : meth.name = "law") (hret : meth.sig.returnType = some .boolean) (hlk : meth.locks = false)
    (X0 : Stand p l e room_1 s m args below meth c T0 locs 1 1) (N0 : Fr n0 locs) (e0 : T0.heap = h0) (i0 : Int32) (i1 : Int32) (i2 : Int32) (i3 : Int32) (i4 : Int32) (o5 : Addr) (i6 : Int32) (i7 : Int32) (i8 : Int32) (i9 : Int32) (i10 : Int32) (i11 : Int32) (i12 : Int32) (i13 : Int32) (x0 : Int32) (Z0 : n0 ≤ h0.size) (w_reserved_o5 : Int32) (E_o5 : Exa Z h0 o5 "com/example/twinstream/twinstream/kafka/FetchBudget") (F_reserved_o5 : Fld Z h0 o5 "com/example/twinstream/twinstream/kafka/FetchBudget" "reserved" "I" (.int w_reserved_o5)) (g_o5 : n0 ≤ o5) :
    Done p e below s room_1 (Ql n0 (.int (F0_141 i0 i1 i2 i3 i4 i6 i7 i8 i9 i10 i11 i12 i13 x0 w_reserved_o5))) T0 (mkF m 141 #[.val (.int i0), .val (.int i1), .val (.int i2), .val (.int i3), .val (.int i4), .val (.ref o5), .val (.int i6), .val (.int i7), .val (.int i8), .val (.int i9), .val (.int i10), .val (.int i11), .val (.int i12), .val (.int i13), .unset, .unset, .unset] [(.int x0)]) := by
  unfold F0_141
  refine Done.of (T' := T0) (g' := (mkF m 147 #[.val (.int i0), .val (.int i1), .val (.int i2), .val (.int i3), .val (.int i4), .val (.ref o5), .val (.int i6), .val (.int i7), .val (.int i8), .val (.int i9), .val (.int i10), .val (.int i11), .val (.int i12), .val (.int i13), .val (.int x0), .unset, .unset] [(.int x0), (.int i13)])) (fun t k => ?_) ?_
  · show Steps p.tables e below (T0.setTop (mkF m 141 #[.val (.int i0), .val (.int i1), .val (.int i2), .val (.int i3), .val (.int i4), .val (.ref o5), .val (.int i6), .val (.int i7), .val (.int i8), .val (.int i9), .val (.int i10), .val (.int i11), .val (.int i12), .val (.int i13), .unset, .unset, .unset] [(.int x0)])) t
    refine XS.istore X0.here hx rfl (hb hby at_141) rfl (l' := #[.val (.int i0), .val (.int i1), .val (.int i2), .val (.int i3), .val (.int i4), .val (.ref o5), .val (.int i6), .val (.int i7), .val (.int i8), .val (.int i9), .val (.int i10), .val (.int i11), .val (.int i12), .val (.int i13), .val (.int x0), .unset, .unset]) rfl ?_
    show Steps p.tables e below (T0.setTop (mkF m 143 #[.val (.int i0), .val (.int i1), .val (.int i2), .val (.int i3), .val (.int i4), .val (.ref o5), .val (.int i6), .val (.int i7), .val (.int i8), .val (.int i9), .val (.int i10), .val (.int i11), .val (.int i12), .val (.int i13), .val (.int x0), .unset, .unset] [])) t
    refine XS.iload X0.here hx rfl (hb hby at_143) rfl ?_
    show Steps p.tables e below (T0.setTop (mkF m 145 #[.val (.int i0), .val (.int i1), .val (.int i2), .val (.int i3), .val (.int i4), .val (.ref o5), .val (.int i6), .val (.int i7), .val (.int i8), .val (.int i9), .val (.int i10), .val (.int i11), .val (.int i12), .val (.int i13), .val (.int x0), .unset, .unset] [(.int i13)])) t
    refine XS.iload X0.here hx rfl (hb hby at_145) rfl ?_
    exact k
  by_cases hc147_0 : i13 = x0
  · rw [if_pos hc147_0]
    refine Done.of (T' := T0) (g' := (mkF m 154 #[.val (.int i0), .val (.int i1), .val (.int i2), .val (.int i3), .val (.int i4), .val (.ref o5), .val (.int i6), .val (.int i7), .val (.int i8), .val (.int i9), .val (.int i10), .val (.int i11), .val (.int i12), .val (.int i13), .val (.int x0), .unset, .unset] [(.int x0)])) (fun t k => ?_) ?_
    · show Steps p.tables e below (T0.setTop (mkF m 147 #[.val (.int i0), .val (.int i1), .val (.int i2), .val (.int i3), .val (.int i4), .val (.ref o5), .val (.int i6), .val (.int i7), .val (.int i8), .val (.int i9), .val (.int i10), .val (.int i11), .val (.int i12), .val (.int i13), .val (.int x0), .unset, .unset] [(.int x0), (.int i13)])) t
      refine XS.icmpYes X0.here hx rfl (pc0 := 147) (pc' := 152) rfl (hb hby at_147) rfl (teq hc147_0).1 (by decide) (by decide) ?_
      show Steps p.tables e below (T0.setTop (mkF m 152 #[.val (.int i0), .val (.int i1), .val (.int i2), .val (.int i3), .val (.int i4), .val (.ref o5), .val (.int i6), .val (.int i7), .val (.int i8), .val (.int i9), .val (.int i10), .val (.int i11), .val (.int i12), .val (.int i13), .val (.int x0), .unset, .unset] [])) t
      refine XS.iload X0.here hx rfl (hb hby at_152) rfl ?_
      exact k
    by_cases hc154_1 : x0 = (0 : Int32)
    · rw [if_pos hc154_1]
      refine Done.of (T' := T0) (g' := (mkF m 164 #[.val (.int i0), .val (.int i1), .val (.int i2), .val (.int i3), .val (.int i4), .val (.ref o5), .val (.int i6), .val (.int i7), .val (.int i8), .val (.int i9), .val (.int i10), .val (.int i11), .val (.int i12), .val (.int i13), .val (.int x0), .unset, .unset] [])) (fun t k => ?_) ?_
      · show Steps p.tables e below (T0.setTop (mkF m 154 #[.val (.int i0), .val (.int i1), .val (.int i2), .val (.int i3), .val (.int i4), .val (.ref o5), .val (.int i6), .val (.int i7), .val (.int i8), .val (.int i9), .val (.int i10), .val (.int i11), .val (.int i12), .val (.int i13), .val (.int x0), .unset, .unset] [(.int x0)])) t
        refine XS.ifYes X0.here hx rfl (pc0 := 154) (pc' := 164) rfl (hb hby at_154) rfl ((if0 _ _).trans (teq hc154_1).1) (by decide) (by decide) ?_
        exact k
      exact bk0_164 hx hZ hw hby hml hown hnm hret hlk X0 N0 e0 i0 i1 i2 i3 i4 o5 i6 i7 i8 i9 i10 i11 i12 i13 x0 Z0 w_reserved_o5 E_o5 F_reserved_o5 g_o5
    · rw [if_neg hc154_1]
      refine Done.of (T' := T0) (g' := (mkF m 164 #[.val (.int i0), .val (.int i1), .val (.int i2), .val (.int i3), .val (.int i4), .val (.ref o5), .val (.int i6), .val (.int i7), .val (.int (i8 + i12)), .val (.int i9), .val (.int i10), .val (.int i11), .val (.int i12), .val (.int i13), .val (.int x0), .unset, .unset] [])) (fun t k => ?_) ?_
      · show Steps p.tables e below (T0.setTop (mkF m 154 #[.val (.int i0), .val (.int i1), .val (.int i2), .val (.int i3), .val (.int i4), .val (.ref o5), .val (.int i6), .val (.int i7), .val (.int i8), .val (.int i9), .val (.int i10), .val (.int i11), .val (.int i12), .val (.int i13), .val (.int x0), .unset, .unset] [(.int x0)])) t
        refine XS.ifNo X0.here hx rfl (hb hby at_154) rfl ((if0 _ _).trans (feq hc154_1).1) ?_
        show Steps p.tables e below (T0.setTop (mkF m 157 #[.val (.int i0), .val (.int i1), .val (.int i2), .val (.int i3), .val (.int i4), .val (.ref o5), .val (.int i6), .val (.int i7), .val (.int i8), .val (.int i9), .val (.int i10), .val (.int i11), .val (.int i12), .val (.int i13), .val (.int x0), .unset, .unset] [])) t
        refine XS.iload X0.here hx rfl (hb hby at_157) rfl ?_
        show Steps p.tables e below (T0.setTop (mkF m 159 #[.val (.int i0), .val (.int i1), .val (.int i2), .val (.int i3), .val (.int i4), .val (.ref o5), .val (.int i6), .val (.int i7), .val (.int i8), .val (.int i9), .val (.int i10), .val (.int i11), .val (.int i12), .val (.int i13), .val (.int x0), .unset, .unset] [(.int i8)])) t
        refine XS.iload X0.here hx rfl (hb hby at_159) rfl ?_
        show Steps p.tables e below (T0.setTop (mkF m 161 #[.val (.int i0), .val (.int i1), .val (.int i2), .val (.int i3), .val (.int i4), .val (.ref o5), .val (.int i6), .val (.int i7), .val (.int i8), .val (.int i9), .val (.int i10), .val (.int i11), .val (.int i12), .val (.int i13), .val (.int x0), .unset, .unset] [(.int i12), (.int i8)])) t
        refine XS.iadd X0.here hx rfl (hb hby at_161) rfl ?_
        show Steps p.tables e below (T0.setTop (mkF m 162 #[.val (.int i0), .val (.int i1), .val (.int i2), .val (.int i3), .val (.int i4), .val (.ref o5), .val (.int i6), .val (.int i7), .val (.int i8), .val (.int i9), .val (.int i10), .val (.int i11), .val (.int i12), .val (.int i13), .val (.int x0), .unset, .unset] [(.int (i8 + i12))])) t
        refine XS.istore X0.here hx rfl (hb hby at_162) rfl (l' := #[.val (.int i0), .val (.int i1), .val (.int i2), .val (.int i3), .val (.int i4), .val (.ref o5), .val (.int i6), .val (.int i7), .val (.int (i8 + i12)), .val (.int i9), .val (.int i10), .val (.int i11), .val (.int i12), .val (.int i13), .val (.int x0), .unset, .unset]) rfl ?_
        exact k
      exact bk0_164 hx hZ hw hby hml hown hnm hret hlk X0 N0 e0 i0 i1 i2 i3 i4 o5 i6 i7 (i8 + i12) i9 i10 i11 i12 i13 x0 Z0 w_reserved_o5 E_o5 F_reserved_o5 g_o5
  · rw [if_neg hc147_0]
    refine Done.of (T' := T0) (g' := (mkF m 151 #[.val (.int i0), .val (.int i1), .val (.int i2), .val (.int i3), .val (.int i4), .val (.ref o5), .val (.int i6), .val (.int i7), .val (.int i8), .val (.int i9), .val (.int i10), .val (.int i11), .val (.int i12), .val (.int i13), .val (.int x0), .unset, .unset] [(.int (0 : Int32))])) (fun t k => ?_) ?_
    · show Steps p.tables e below (T0.setTop (mkF m 147 #[.val (.int i0), .val (.int i1), .val (.int i2), .val (.int i3), .val (.int i4), .val (.ref o5), .val (.int i6), .val (.int i7), .val (.int i8), .val (.int i9), .val (.int i10), .val (.int i11), .val (.int i12), .val (.int i13), .val (.int x0), .unset, .unset] [(.int x0), (.int i13)])) t
      refine XS.icmpNo X0.here hx rfl (hb hby at_147) rfl (feq hc147_0).1 ?_
      show Steps p.tables e below (T0.setTop (mkF m 150 #[.val (.int i0), .val (.int i1), .val (.int i2), .val (.int i3), .val (.int i4), .val (.ref o5), .val (.int i6), .val (.int i7), .val (.int i8), .val (.int i9), .val (.int i10), .val (.int i11), .val (.int i12), .val (.int i13), .val (.int x0), .unset, .unset] [])) t
      refine XS.iconst X0.here hx rfl (hb hby at_150) ?_
      exact k
    exact doneN (t := .boolean) X0 (by simp) hx hret hlk (hb hby at_151) ⟨rfl, N0⟩ (by decide) (by decide)
def F0_103 (i0 : Int32) (i1 : Int32) (i2 : Int32) (i3 : Int32) (i4 : Int32) (i6 : Int32) (i7 : Int32) (i8 : Int32) (i9 : Int32) (i10 : Int32) (i11 : Int32) (w_reserved_o5 : Int32) : Int32 := (if i4 < (i8 + (F4_0 i2 i8 (i3 >>> ((3 : Int32) &&& 31)) (i3 >>> ((4 : Int32) &&& 31)))) then (F0_141 i0 i1 i2 i3 i4 i6 i7 i8 i9 i10 i11 (F4_0 i2 i8 (i3 >>> ((3 : Int32) &&& 31)) (i3 >>> ((4 : Int32) &&& 31))) (own_rv w_reserved_o5 (F4_0 i2 i8 (i3 >>> ((3 : Int32) &&& 31)) (i3 >>> ((4 : Int32) &&& 31)))) (0 : Int32) (own_rf w_reserved_o5 (F4_0 i2 i8 (i3 >>> ((3 : Int32) &&& 31)) (i3 >>> ((4 : Int32) &&& 31))))) else (F0_141 i0 i1 i2 i3 i4 i6 i7 i8 i9 i10 i11 (F4_0 i2 i8 (i3 >>> ((3 : Int32) &&& 31)) (i3 >>> ((4 : Int32) &&& 31))) (own_rv w_reserved_o5 (F4_0 i2 i8 (i3 >>> ((3 : Int32) &&& 31)) (i3 >>> ((4 : Int32) &&& 31)))) (1 : Int32) (own_rf w_reserved_o5 (F4_0 i2 i8 (i3 >>> ((3 : Int32) &&& 31)) (i3 >>> ((4 : Int32) &&& 31))))))
set_option maxRecDepth 65536 in
set_option maxHeartbeats 40000000 in
theorem bk0_103 {p : Program} {l : Launch} {e : Env} {s : State} {m : MethodId} {args : Array Value} {below : List Frame} {meth : Method} {c : Code} {T0 : State} {locs : List Loc} {Z : State} {a0 : Array Value} {h0 : Heap} {n0 : Nat}
    (hx : p.tables.exec = Jvm.exec) (hZ : Z.Warmed39 s.vm) (hw : ∀ d ∈ tables_1, d.before a0 Z = true) (hby : c.code = code) (hml : c.maxLocals = 17) (hown : s.vm.findClass "com/example/twinstream/twinstream/kafka/FetchBudgetReservePinLaw" = some m.cls) (hnm : meth.name = "law") (hret : meth.sig.returnType = some .boolean) (hlk : meth.locks = false)
    (X0 : Stand p l e room_1 s m args below meth c T0 locs 1 1) (N0 : Fr n0 locs) (e0 : T0.heap = h0) (i0 : Int32) (i1 : Int32) (i2 : Int32) (i3 : Int32) (i4 : Int32) (o5 : Addr) (i6 : Int32) (i7 : Int32) (i8 : Int32) (i9 : Int32) (i10 : Int32) (i11 : Int32) (Z0 : n0 ≤ h0.size) (w_reserved_o5 : Int32) (E_o5 : Exa Z h0 o5 "com/example/twinstream/twinstream/kafka/FetchBudget") (F_reserved_o5 : Fld Z h0 o5 "com/example/twinstream/twinstream/kafka/FetchBudget" "reserved" "I" (.int w_reserved_o5)) (g_o5 : n0 ≤ o5) :
    Done p e below s room_1 (Ql n0 (.int (F0_103 i0 i1 i2 i3 i4 i6 i7 i8 i9 i10 i11 w_reserved_o5))) T0 (mkF m 103 #[.val (.int i0), .val (.int i1), .val (.int i2), .val (.int i3), .val (.int i4), .val (.ref o5), .val (.int i6), .val (.int i7), .val (.int i8), .val (.int i9), .val (.int i10), .val (.int i11), .unset, .unset, .unset, .unset, .unset] []) := by
  unfold F0_103
  refine Done.of (T' := T0) (g' := (mkF m 112 #[.val (.int i0), .val (.int i1), .val (.int i2), .val (.int i3), .val (.int i4), .val (.ref o5), .val (.int i6), .val (.int i7), .val (.int i8), .val (.int i9), .val (.int i10), .val (.int i11), .unset, .unset, .unset, .unset, .unset] [(.int (i3 >>> ((4 : Int32) &&& 31))), (.int (i3 >>> ((3 : Int32) &&& 31))), (.int i8), (.int i2)])) (fun t k => ?_) ?_
  · show Steps p.tables e below (T0.setTop (mkF m 103 #[.val (.int i0), .val (.int i1), .val (.int i2), .val (.int i3), .val (.int i4), .val (.ref o5), .val (.int i6), .val (.int i7), .val (.int i8), .val (.int i9), .val (.int i10), .val (.int i11), .unset, .unset, .unset, .unset, .unset] [])) t
    refine XS.iloadN X0.here hx rfl (hb hby at_103) rfl ?_
    show Steps p.tables e below (T0.setTop (mkF m 104 #[.val (.int i0), .val (.int i1), .val (.int i2), .val (.int i3), .val (.int i4), .val (.ref o5), .val (.int i6), .val (.int i7), .val (.int i8), .val (.int i9), .val (.int i10), .val (.int i11), .unset, .unset, .unset, .unset, .unset] [(.int i2)])) t
    refine XS.iload X0.here hx rfl (hb hby at_104) rfl ?_
    show Steps p.tables e below (T0.setTop (mkF m 106 #[.val (.int i0), .val (.int i1), .val (.int i2), .val (.int i3), .val (.int i4), .val (.ref o5), .val (.int i6), .val (.int i7), .val (.int i8), .val (.int i9), .val (.int i10), .val (.int i11), .unset, .unset, .unset, .unset, .unset] [(.int i8), (.int i2)])) t
    refine XS.iloadN X0.here hx rfl (hb hby at_106) rfl ?_
    show Steps p.tables e below (T0.setTop (mkF m 107 #[.val (.int i0), .val (.int i1), .val (.int i2), .val (.int i3), .val (.int i4), .val (.ref o5), .val (.int i6), .val (.int i7), .val (.int i8), .val (.int i9), .val (.int i10), .val (.int i11), .unset, .unset, .unset, .unset, .unset] [(.int i3), (.int i8), (.int i2)])) t
    refine XS.iconst X0.here hx rfl (hb hby at_107) ?_
    show Steps p.tables e below (T0.setTop (mkF m 108 #[.val (.int i0), .val (.int i1), .val (.int i2), .val (.int i3), .val (.int i4), .val (.ref o5), .val (.int i6), .val (.int i7), .val (.int i8), .val (.int i9), .val (.int i10), .val (.int i11), .unset, .unset, .unset, .unset, .unset] [(.int (3 : Int32)), (.int i3), (.int i8), (.int i2)])) t
    refine XS.ishr X0.here hx rfl (hb hby at_108) rfl ?_
    show Steps p.tables e below (T0.setTop (mkF m 109 #[.val (.int i0), .val (.int i1), .val (.int i2), .val (.int i3), .val (.int i4), .val (.ref o5), .val (.int i6), .val (.int i7), .val (.int i8), .val (.int i9), .val (.int i10), .val (.int i11), .unset, .unset, .unset, .unset, .unset] [(.int (i3 >>> ((3 : Int32) &&& 31))), (.int i8), (.int i2)])) t
    refine XS.iloadN X0.here hx rfl (hb hby at_109) rfl ?_
    show Steps p.tables e below (T0.setTop (mkF m 110 #[.val (.int i0), .val (.int i1), .val (.int i2), .val (.int i3), .val (.int i4), .val (.ref o5), .val (.int i6), .val (.int i7), .val (.int i8), .val (.int i9), .val (.int i10), .val (.int i11), .unset, .unset, .unset, .unset, .unset] [(.int i3), (.int (i3 >>> ((3 : Int32) &&& 31))), (.int i8), (.int i2)])) t
    refine XS.iconst X0.here hx rfl (hb hby at_110) ?_
    show Steps p.tables e below (T0.setTop (mkF m 111 #[.val (.int i0), .val (.int i1), .val (.int i2), .val (.int i3), .val (.int i4), .val (.ref o5), .val (.int i6), .val (.int i7), .val (.int i8), .val (.int i9), .val (.int i10), .val (.int i11), .unset, .unset, .unset, .unset, .unset] [(.int (4 : Int32)), (.int i3), (.int (i3 >>> ((3 : Int32) &&& 31))), (.int i8), (.int i2)])) t
    refine XS.ishr X0.here hx rfl (hb hby at_111) rfl ?_
    exact k
  obtain ⟨_, _, ⟨T1, L1, k1, n1⟩, -, X1, ⟨Lc1, hQ1, l1, y1, z1⟩, st1⟩ := Jvm.LawKit.callS X0 hx (y := (⟨"com/example/twinstream/twinstream/kafka/FetchBudgetReservePinLaw", "pick", "(IIII)I"⟩ : MethodName)) hown (mvT hZ (hw _ (List.mem_of_getElem? (i := 19) rfl))) (mvT hZ (hw _ (List.mem_of_getElem? (i := 20) rfl))) (mvT hZ (hw _ (List.mem_of_getElem? (i := 21) rfl))) (mvT hZ (hw _ (List.mem_of_getElem? (i := 22) rfl))) (by decide) (backOf (W := 0) (rm4 l Z a0 hw [] i2 i8 (i3 >>> ((3 : Int32) &&& 31)) (i3 >>> ((4 : Int32) &&& 31)) h0 n0) hZ (hw _ (List.mem_of_getElem? (i := 22) rfl)) (hw _ (List.mem_of_getElem? (i := 21) rfl)) (by decide) (by decide)) (g := (mkF m 112 #[.val (.int i0), .val (.int i1), .val (.int i2), .val (.int i3), .val (.int i4), .val (.ref o5), .val (.int i6), .val (.int i7), .val (.int i8), .val (.int i9), .val (.int i10), .val (.int i11), .unset, .unset, .unset, .unset, .unset] [(.int (i3 >>> ((4 : Int32) &&& 31))), (.int (i3 >>> ((3 : Int32) &&& 31))), (.int i8), (.int i2)])) rfl (by rw [hml]; rfl) (argsL := [(.int i2), (.int i8), (.int (i3 >>> ((3 : Int32) &&& 31))), (.int (i3 >>> ((4 : Int32) &&& 31)))]) (rest := []) (lenOf pd_3 rfl) rfl (by show 2 * 0 + _ ≤ _; exact Nat.le_of_eq rfl) (hb hby at_112) (fun _ _ => ⟨rfl, e0, (by decide : 1 + 0 ≤ _), (by decide : 1 + 0 ≤ _)⟩)
  dsimp only [Pt.U, Pt.locs, Pt.cells, Pt.slots] at X1 l1 y1 z1 st1 hQ1
  subst l1 y1 z1
  obtain ⟨rfl, N1q, e1⟩ := hQ1
  have N1 := Fr.app N0 N1q
  replace X1 : Stand p l e room_1 s m args below meth c T1 _ 1 1 := X1
  refine Done.of (g' := (mkF m 115 #[.val (.int i0), .val (.int i1), .val (.int i2), .val (.int i3), .val (.int i4), .val (.ref o5), .val (.int i6), .val (.int i7), .val (.int i8), .val (.int i9), .val (.int i10), .val (.int i11), .unset, .unset, .unset, .unset, .unset] [(.int (F4_0 i2 i8 (i3 >>> ((3 : Int32) &&& 31)) (i3 >>> ((4 : Int32) &&& 31))))])) st1 ?_
  refine Done.of (T' := T1) (g' := (mkF m 121 #[.val (.int i0), .val (.int i1), .val (.int i2), .val (.int i3), .val (.int i4), .val (.ref o5), .val (.int i6), .val (.int i7), .val (.int i8), .val (.int i9), .val (.int i10), .val (.int i11), .val (.int (F4_0 i2 i8 (i3 >>> ((3 : Int32) &&& 31)) (i3 >>> ((4 : Int32) &&& 31)))), .unset, .unset, .unset, .unset] [(.int (F4_0 i2 i8 (i3 >>> ((3 : Int32) &&& 31)) (i3 >>> ((4 : Int32) &&& 31)))), (.ref o5)])) (fun t k => ?_) ?_
  · show Steps p.tables e below (T1.setTop (mkF m 115 #[.val (.int i0), .val (.int i1), .val (.int i2), .val (.int i3), .val (.int i4), .val (.ref o5), .val (.int i6), .val (.int i7), .val (.int i8), .val (.int i9), .val (.int i10), .val (.int i11), .unset, .unset, .unset, .unset, .unset] [(.int (F4_0 i2 i8 (i3 >>> ((3 : Int32) &&& 31)) (i3 >>> ((4 : Int32) &&& 31))))])) t
    refine XS.istore X1.here hx rfl (hb hby at_115) rfl (l' := #[.val (.int i0), .val (.int i1), .val (.int i2), .val (.int i3), .val (.int i4), .val (.ref o5), .val (.int i6), .val (.int i7), .val (.int i8), .val (.int i9), .val (.int i10), .val (.int i11), .val (.int (F4_0 i2 i8 (i3 >>> ((3 : Int32) &&& 31)) (i3 >>> ((4 : Int32) &&& 31)))), .unset, .unset, .unset, .unset]) rfl ?_
    show Steps p.tables e below (T1.setTop (mkF m 117 #[.val (.int i0), .val (.int i1), .val (.int i2), .val (.int i3), .val (.int i4), .val (.ref o5), .val (.int i6), .val (.int i7), .val (.int i8), .val (.int i9), .val (.int i10), .val (.int i11), .val (.int (F4_0 i2 i8 (i3 >>> ((3 : Int32) &&& 31)) (i3 >>> ((4 : Int32) &&& 31)))), .unset, .unset, .unset, .unset] [])) t
    refine XS.aload X1.here hx rfl (hb hby at_117) rfl rfl ?_
    show Steps p.tables e below (T1.setTop (mkF m 119 #[.val (.int i0), .val (.int i1), .val (.int i2), .val (.int i3), .val (.int i4), .val (.ref o5), .val (.int i6), .val (.int i7), .val (.int i8), .val (.int i9), .val (.int i10), .val (.int i11), .val (.int (F4_0 i2 i8 (i3 >>> ((3 : Int32) &&& 31)) (i3 >>> ((4 : Int32) &&& 31)))), .unset, .unset, .unset, .unset] [(.ref o5)])) t
    refine XS.iload X1.here hx rfl (hb hby at_119) rfl ?_
    exact k
  obtain ⟨cq2, kq2, q2a, q2b, q2c⟩ := isOf hZ e1 E_o5
  obtain ⟨_, _, ⟨T2, L2, k2, n2⟩, -, X2, ⟨Lc2, hQ2, l2, y2, z2⟩, st2⟩ := X1.virtualBack hx (y := (⟨"com/example/twinstream/twinstream/kafka/FetchBudget", "reserve", "(I)Z"⟩ : MethodName)) (z := (⟨"com/example/twinstream/twinstream/kafka/FetchBudget", "reserve", "(I)Z"⟩ : MethodName)) hown (mvT hZ (hw _ (List.mem_of_getElem? (i := 11) rfl))) (mvT hZ (hw _ (List.mem_of_getElem? (i := 12) rfl))) (notFace_of_selects (args := #[]) (mvT hZ (hw _ (List.mem_of_getElem? (i := 14) rfl)))) (mvT hZ (hw _ (List.mem_of_getElem? (i := 14) rfl))) (mvT hZ (hw _ (List.mem_of_getElem? (i := 13) rfl))) (by decide) (backOf (W := 0) (rm3 l Z a0 hw [] o5 (F4_0 i2 i8 (i3 >>> ((3 : Int32) &&& 31)) (i3 >>> ((4 : Int32) &&& 31))) h0 n0 w_reserved_o5 E_o5 F_reserved_o5 g_o5) hZ (hw _ (List.mem_of_getElem? (i := 15) rfl)) (hw _ (List.mem_of_getElem? (i := 3) rfl)) (by decide) (by decide)) q2a q2c (g := (mkF m 121 #[.val (.int i0), .val (.int i1), .val (.int i2), .val (.int i3), .val (.int i4), .val (.ref o5), .val (.int i6), .val (.int i7), .val (.int i8), .val (.int i9), .val (.int i10), .val (.int i11), .val (.int (F4_0 i2 i8 (i3 >>> ((3 : Int32) &&& 31)) (i3 >>> ((4 : Int32) &&& 31)))), .unset, .unset, .unset, .unset] [(.int (F4_0 i2 i8 (i3 >>> ((3 : Int32) &&& 31)) (i3 >>> ((4 : Int32) &&& 31)))), (.ref o5)])) rfl (by rw [hml]; rfl) (Steps.refl _) (argsL := [(.int (F4_0 i2 i8 (i3 >>> ((3 : Int32) &&& 31)) (i3 >>> ((4 : Int32) &&& 31))))]) (rest := []) (lenOf pd_2 rfl) rfl (by show 2 * 0 + _ ≤ _; exact Nat.le_of_eq rfl) (hb hby at_121) (fun _ _ => ⟨rfl, e1, (by decide : 1 + 0 ≤ _), (by decide : 1 + 0 ≤ _)⟩)
  dsimp only [Pt.U, Pt.locs, Pt.cells, Pt.slots] at X2 l2 y2 z2 st2 hQ2
  subst l2 y2 z2
  obtain ⟨h2, e2⟩ : ∃ z, T2.heap = z := ⟨_, rfl⟩
  rw [e2] at hQ2
  obtain ⟨rfl, N2q, K2, E2, F2_reserved⟩ := hQ2
  have N2 := Fr.app N1 N2q
  replace X2 : Stand p l e room_1 s m args below meth c T2 _ 1 1 := X2
  refine Done.of (g' := (mkF m 124 #[.val (.int i0), .val (.int i1), .val (.int i2), .val (.int i3), .val (.int i4), .val (.ref o5), .val (.int i6), .val (.int i7), .val (.int i8), .val (.int i9), .val (.int i10), .val (.int i11), .val (.int (F4_0 i2 i8 (i3 >>> ((3 : Int32) &&& 31)) (i3 >>> ((4 : Int32) &&& 31)))), .unset, .unset, .unset, .unset] [(.int (own_rv w_reserved_o5 (F4_0 i2 i8 (i3 >>> ((3 : Int32) &&& 31)) (i3 >>> ((4 : Int32) &&& 31)))))])) (fun t k => st2.trans k) ?_
  refine Done.of (T' := T2) (g' := (mkF m 133 #[.val (.int i0), .val (.int i1), .val (.int i2), .val (.int i3), .val (.int i4), .val (.ref o5), .val (.int i6), .val (.int i7), .val (.int i8), .val (.int i9), .val (.int i10), .val (.int i11), .val (.int (F4_0 i2 i8 (i3 >>> ((3 : Int32) &&& 31)) (i3 >>> ((4 : Int32) &&& 31)))), .val (.int (own_rv w_reserved_o5 (F4_0 i2 i8 (i3 >>> ((3 : Int32) &&& 31)) (i3 >>> ((4 : Int32) &&& 31))))), .unset, .unset, .unset] [(.int i4), (.int (i8 + (F4_0 i2 i8 (i3 >>> ((3 : Int32) &&& 31)) (i3 >>> ((4 : Int32) &&& 31)))))])) (fun t k => ?_) ?_
  · show Steps p.tables e below (T2.setTop (mkF m 124 #[.val (.int i0), .val (.int i1), .val (.int i2), .val (.int i3), .val (.int i4), .val (.ref o5), .val (.int i6), .val (.int i7), .val (.int i8), .val (.int i9), .val (.int i10), .val (.int i11), .val (.int (F4_0 i2 i8 (i3 >>> ((3 : Int32) &&& 31)) (i3 >>> ((4 : Int32) &&& 31)))), .unset, .unset, .unset, .unset] [(.int (own_rv w_reserved_o5 (F4_0 i2 i8 (i3 >>> ((3 : Int32) &&& 31)) (i3 >>> ((4 : Int32) &&& 31)))))])) t
    refine XS.istore X2.here hx rfl (hb hby at_124) rfl (l' := #[.val (.int i0), .val (.int i1), .val (.int i2), .val (.int i3), .val (.int i4), .val (.ref o5), .val (.int i6), .val (.int i7), .val (.int i8), .val (.int i9), .val (.int i10), .val (.int i11), .val (.int (F4_0 i2 i8 (i3 >>> ((3 : Int32) &&& 31)) (i3 >>> ((4 : Int32) &&& 31)))), .val (.int (own_rv w_reserved_o5 (F4_0 i2 i8 (i3 >>> ((3 : Int32) &&& 31)) (i3 >>> ((4 : Int32) &&& 31))))), .unset, .unset, .unset]) rfl ?_
    show Steps p.tables e below (T2.setTop (mkF m 126 #[.val (.int i0), .val (.int i1), .val (.int i2), .val (.int i3), .val (.int i4), .val (.ref o5), .val (.int i6), .val (.int i7), .val (.int i8), .val (.int i9), .val (.int i10), .val (.int i11), .val (.int (F4_0 i2 i8 (i3 >>> ((3 : Int32) &&& 31)) (i3 >>> ((4 : Int32) &&& 31)))), .val (.int (own_rv w_reserved_o5 (F4_0 i2 i8 (i3 >>> ((3 : Int32) &&& 31)) (i3 >>> ((4 : Int32) &&& 31))))), .unset, .unset, .unset] [])) t
    refine XS.iload X2.here hx rfl (hb hby at_126) rfl ?_
    show Steps p.tables e below (T2.setTop (mkF m 128 #[.val (.int i0), .val (.int i1), .val (.int i2), .val (.int i3), .val (.int i4), .val (.ref o5), .val (.int i6), .val (.int i7), .val (.int i8), .val (.int i9), .val (.int i10), .val (.int i11), .val (.int (F4_0 i2 i8 (i3 >>> ((3 : Int32) &&& 31)) (i3 >>> ((4 : Int32) &&& 31)))), .val (.int (own_rv w_reserved_o5 (F4_0 i2 i8 (i3 >>> ((3 : Int32) &&& 31)) (i3 >>> ((4 : Int32) &&& 31))))), .unset, .unset, .unset] [(.int i8)])) t
    refine XS.iload X2.here hx rfl (hb hby at_128) rfl ?_
    show Steps p.tables e below (T2.setTop (mkF m 130 #[.val (.int i0), .val (.int i1), .val (.int i2), .val (.int i3), .val (.int i4), .val (.ref o5), .val (.int i6), .val (.int i7), .val (.int i8), .val (.int i9), .val (.int i10), .val (.int i11), .val (.int (F4_0 i2 i8 (i3 >>> ((3 : Int32) &&& 31)) (i3 >>> ((4 : Int32) &&& 31)))), .val (.int (own_rv w_reserved_o5 (F4_0 i2 i8 (i3 >>> ((3 : Int32) &&& 31)) (i3 >>> ((4 : Int32) &&& 31))))), .unset, .unset, .unset] [(.int (F4_0 i2 i8 (i3 >>> ((3 : Int32) &&& 31)) (i3 >>> ((4 : Int32) &&& 31)))), (.int i8)])) t
    refine XS.iadd X2.here hx rfl (hb hby at_130) rfl ?_
    show Steps p.tables e below (T2.setTop (mkF m 131 #[.val (.int i0), .val (.int i1), .val (.int i2), .val (.int i3), .val (.int i4), .val (.ref o5), .val (.int i6), .val (.int i7), .val (.int i8), .val (.int i9), .val (.int i10), .val (.int i11), .val (.int (F4_0 i2 i8 (i3 >>> ((3 : Int32) &&& 31)) (i3 >>> ((4 : Int32) &&& 31)))), .val (.int (own_rv w_reserved_o5 (F4_0 i2 i8 (i3 >>> ((3 : Int32) &&& 31)) (i3 >>> ((4 : Int32) &&& 31))))), .unset, .unset, .unset] [(.int (i8 + (F4_0 i2 i8 (i3 >>> ((3 : Int32) &&& 31)) (i3 >>> ((4 : Int32) &&& 31)))))])) t
    refine XS.iload X2.here hx rfl (hb hby at_131) rfl ?_
    exact k
  by_cases hc133_2 : i4 < (i8 + (F4_0 i2 i8 (i3 >>> ((3 : Int32) &&& 31)) (i3 >>> ((4 : Int32) &&& 31))))
  · rw [if_pos hc133_2]
    refine Done.of (T' := T2) (g' := (mkF m 141 #[.val (.int i0), .val (.int i1), .val (.int i2), .val (.int i3), .val (.int i4), .val (.ref o5), .val (.int i6), .val (.int i7), .val (.int i8), .val (.int i9), .val (.int i10), .val (.int i11), .val (.int (F4_0 i2 i8 (i3 >>> ((3 : Int32) &&& 31)) (i3 >>> ((4 : Int32) &&& 31)))), .val (.int (own_rv w_reserved_o5 (F4_0 i2 i8 (i3 >>> ((3 : Int32) &&& 31)) (i3 >>> ((4 : Int32) &&& 31))))), .unset, .unset, .unset] [(.int (0 : Int32))])) (fun t k => ?_) ?_
    · show Steps p.tables e below (T2.setTop (mkF m 133 #[.val (.int i0), .val (.int i1), .val (.int i2), .val (.int i3), .val (.int i4), .val (.ref o5), .val (.int i6), .val (.int i7), .val (.int i8), .val (.int i9), .val (.int i10), .val (.int i11), .val (.int (F4_0 i2 i8 (i3 >>> ((3 : Int32) &&& 31)) (i3 >>> ((4 : Int32) &&& 31)))), .val (.int (own_rv w_reserved_o5 (F4_0 i2 i8 (i3 >>> ((3 : Int32) &&& 31)) (i3 >>> ((4 : Int32) &&& 31))))), .unset, .unset, .unset] [(.int i4), (.int (i8 + (F4_0 i2 i8 (i3 >>> ((3 : Int32) &&& 31)) (i3 >>> ((4 : Int32) &&& 31)))))])) t
      refine XS.icmpYes X2.here hx rfl (pc0 := 133) (pc' := 140) rfl (hb hby at_133) rfl (tlt hc133_2).2.2.1 (by decide) (by decide) ?_
      show Steps p.tables e below (T2.setTop (mkF m 140 #[.val (.int i0), .val (.int i1), .val (.int i2), .val (.int i3), .val (.int i4), .val (.ref o5), .val (.int i6), .val (.int i7), .val (.int i8), .val (.int i9), .val (.int i10), .val (.int i11), .val (.int (F4_0 i2 i8 (i3 >>> ((3 : Int32) &&& 31)) (i3 >>> ((4 : Int32) &&& 31)))), .val (.int (own_rv w_reserved_o5 (F4_0 i2 i8 (i3 >>> ((3 : Int32) &&& 31)) (i3 >>> ((4 : Int32) &&& 31))))), .unset, .unset, .unset] [])) t
      refine XS.iconst X2.here hx rfl (hb hby at_140) ?_
      exact k
    exact bk0_141 hx hZ hw hby hml hown hnm hret hlk X2 N2 e2 i0 i1 i2 i3 i4 o5 i6 i7 i8 i9 i10 i11 (F4_0 i2 i8 (i3 >>> ((3 : Int32) &&& 31)) (i3 >>> ((4 : Int32) &&& 31))) (own_rv w_reserved_o5 (F4_0 i2 i8 (i3 >>> ((3 : Int32) &&& 31)) (i3 >>> ((4 : Int32) &&& 31)))) (0 : Int32) (Nat.le_trans Z0 K2.1) (own_rf w_reserved_o5 (F4_0 i2 i8 (i3 >>> ((3 : Int32) &&& 31)) (i3 >>> ((4 : Int32) &&& 31)))) E2 F2_reserved g_o5
  · rw [if_neg hc133_2]
    refine Done.of (T' := T2) (g' := (mkF m 141 #[.val (.int i0), .val (.int i1), .val (.int i2), .val (.int i3), .val (.int i4), .val (.ref o5), .val (.int i6), .val (.int i7), .val (.int i8), .val (.int i9), .val (.int i10), .val (.int i11), .val (.int (F4_0 i2 i8 (i3 >>> ((3 : Int32) &&& 31)) (i3 >>> ((4 : Int32) &&& 31)))), .val (.int (own_rv w_reserved_o5 (F4_0 i2 i8 (i3 >>> ((3 : Int32) &&& 31)) (i3 >>> ((4 : Int32) &&& 31))))), .unset, .unset, .unset] [(.int (1 : Int32))])) (fun t k => ?_) ?_
    · show Steps p.tables e below (T2.setTop (mkF m 133 #[.val (.int i0), .val (.int i1), .val (.int i2), .val (.int i3), .val (.int i4), .val (.ref o5), .val (.int i6), .val (.int i7), .val (.int i8), .val (.int i9), .val (.int i10), .val (.int i11), .val (.int (F4_0 i2 i8 (i3 >>> ((3 : Int32) &&& 31)) (i3 >>> ((4 : Int32) &&& 31)))), .val (.int (own_rv w_reserved_o5 (F4_0 i2 i8 (i3 >>> ((3 : Int32) &&& 31)) (i3 >>> ((4 : Int32) &&& 31))))), .unset, .unset, .unset] [(.int i4), (.int (i8 + (F4_0 i2 i8 (i3 >>> ((3 : Int32) &&& 31)) (i3 >>> ((4 : Int32) &&& 31)))))])) t
      refine XS.icmpNo X2.here hx rfl (hb hby at_133) rfl (flt hc133_2).2.2.1 ?_
      show Steps p.tables e below (T2.setTop (mkF m 136 #[.val (.int i0), .val (.int i1), .val (.int i2), .val (.int i3), .val (.int i4), .val (.ref o5), .val (.int i6), .val (.int i7), .val (.int i8), .val (.int i9), .val (.int i10), .val (.int i11), .val (.int (F4_0 i2 i8 (i3 >>> ((3 : Int32) &&& 31)) (i3 >>> ((4 : Int32) &&& 31)))), .val (.int (own_rv w_reserved_o5 (F4_0 i2 i8 (i3 >>> ((3 : Int32) &&& 31)) (i3 >>> ((4 : Int32) &&& 31))))), .unset, .unset, .unset] [])) t
      refine XS.iconst X2.here hx rfl (hb hby at_136) ?_
      show Steps p.tables e below (T2.setTop (mkF m 137 #[.val (.int i0), .val (.int i1), .val (.int i2), .val (.int i3), .val (.int i4), .val (.ref o5), .val (.int i6), .val (.int i7), .val (.int i8), .val (.int i9), .val (.int i10), .val (.int i11), .val (.int (F4_0 i2 i8 (i3 >>> ((3 : Int32) &&& 31)) (i3 >>> ((4 : Int32) &&& 31)))), .val (.int (own_rv w_reserved_o5 (F4_0 i2 i8 (i3 >>> ((3 : Int32) &&& 31)) (i3 >>> ((4 : Int32) &&& 31))))), .unset, .unset, .unset] [(.int (1 : Int32))])) t
      refine XS.goto X2.here hx rfl (pc0 := 137) (pc' := 141) rfl (hb hby at_137) (by decide) (by decide) ?_
      exact k
    exact bk0_141 hx hZ hw hby hml hown hnm hret hlk X2 N2 e2 i0 i1 i2 i3 i4 o5 i6 i7 i8 i9 i10 i11 (F4_0 i2 i8 (i3 >>> ((3 : Int32) &&& 31)) (i3 >>> ((4 : Int32) &&& 31))) (own_rv w_reserved_o5 (F4_0 i2 i8 (i3 >>> ((3 : Int32) &&& 31)) (i3 >>> ((4 : Int32) &&& 31)))) (1 : Int32) (Nat.le_trans Z0 K2.1) (own_rf w_reserved_o5 (F4_0 i2 i8 (i3 >>> ((3 : Int32) &&& 31)) (i3 >>> ((4 : Int32) &&& 31)))) E2 F2_reserved g_o5
def F0_80 (i0 : Int32) (i1 : Int32) (i2 : Int32) (i3 : Int32) (i4 : Int32) (i6 : Int32) (i7 : Int32) (i8 : Int32) (i9 : Int32) (i10 : Int32) (x0 : Int32) (w_reserved_o5 : Int32) : Int32 := (if i10 = x0 then (if x0 = (0 : Int32) then (F0_103 i0 i1 i2 i3 i4 i6 i7 i8 i9 i10 x0 w_reserved_o5) else (F0_103 i0 i1 i2 i3 i4 i6 i7 (i8 + i9) i9 i10 x0 w_reserved_o5)) else (0 : Int32))
set_option maxRecDepth 65536 in
set_option maxHeartbeats 40000000 in
theorem bk0_80 {p : Program} {l : Launch} {e : Env} {s : State} {m : MethodId} {args : Array Value} {below : List Frame} {meth : Method} {c : Code} {T0 : State} {locs : List Loc} {Z : State} {a0 : Array Value} {h0 : Heap} {n0 : Nat}
    (hx : p.tables.exec = Jvm.exec) (hZ : Z.Warmed39 s.vm) (hw : ∀ d ∈ tables_1, d.before a0 Z = true) (hby : c.code = code) (hml : c.maxLocals = 17) (hown : s.vm.findClass "com/example/twinstream/twinstream/kafka/FetchBudgetReservePinLaw" = some m.cls) (hnm : meth.name = "law") (hret : meth.sig.returnType = some .boolean) (hlk : meth.locks = false)
    (X0 : Stand p l e room_1 s m args below meth c T0 locs 1 1) (N0 : Fr n0 locs) (e0 : T0.heap = h0) (i0 : Int32) (i1 : Int32) (i2 : Int32) (i3 : Int32) (i4 : Int32) (o5 : Addr) (i6 : Int32) (i7 : Int32) (i8 : Int32) (i9 : Int32) (i10 : Int32) (x0 : Int32) (Z0 : n0 ≤ h0.size) (w_reserved_o5 : Int32) (E_o5 : Exa Z h0 o5 "com/example/twinstream/twinstream/kafka/FetchBudget") (F_reserved_o5 : Fld Z h0 o5 "com/example/twinstream/twinstream/kafka/FetchBudget" "reserved" "I" (.int w_reserved_o5)) (g_o5 : n0 ≤ o5) :
    Done p e below s room_1 (Ql n0 (.int (F0_80 i0 i1 i2 i3 i4 i6 i7 i8 i9 i10 x0 w_reserved_o5))) T0 (mkF m 80 #[.val (.int i0), .val (.int i1), .val (.int i2), .val (.int i3), .val (.int i4), .val (.ref o5), .val (.int i6), .val (.int i7), .val (.int i8), .val (.int i9), .val (.int i10), .unset, .unset, .unset, .unset, .unset, .unset] [(.int x0)]) := by
  unfold F0_80
  refine Done.of (T' := T0) (g' := (mkF m 86 #[.val (.int i0), .val (.int i1), .val (.int i2), .val (.int i3), .val (.int i4), .val (.ref o5), .val (.int i6), .val (.int i7), .val (.int i8), .val (.int i9), .val (.int i10), .val (.int x0), .unset, .unset, .unset, .unset, .unset] [(.int x0), (.int i10)])) (fun t k => ?_) ?_
  · show Steps p.tables e below (T0.setTop (mkF m 80 #[.val (.int i0), .val (.int i1), .val (.int i2), .val (.int i3), .val (.int i4), .val (.ref o5), .val (.int i6), .val (.int i7), .val (.int i8), .val (.int i9), .val (.int i10), .unset, .unset, .unset, .unset, .unset, .unset] [(.int x0)])) t
    refine XS.istore X0.here hx rfl (hb hby at_80) rfl (l' := #[.val (.int i0), .val (.int i1), .val (.int i2), .val (.int i3), .val (.int i4), .val (.ref o5), .val (.int i6), .val (.int i7), .val (.int i8), .val (.int i9), .val (.int i10), .val (.int x0), .unset, .unset, .unset, .unset, .unset]) rfl ?_
    show Steps p.tables e below (T0.setTop (mkF m 82 #[.val (.int i0), .val (.int i1), .val (.int i2), .val (.int i3), .val (.int i4), .val (.ref o5), .val (.int i6), .val (.int i7), .val (.int i8), .val (.int i9), .val (.int i10), .val (.int x0), .unset, .unset, .unset, .unset, .unset] [])) t
    refine XS.iload X0.here hx rfl (hb hby at_82) rfl ?_
    show Steps p.tables e below (T0.setTop (mkF m 84 #[.val (.int i0), .val (.int i1), .val (.int i2), .val (.int i3), .val (.int i4), .val (.ref o5), .val (.int i6), .val (.int i7), .val (.int i8), .val (.int i9), .val (.int i10), .val (.int x0), .unset, .unset, .unset, .unset, .unset] [(.int i10)])) t
    refine XS.iload X0.here hx rfl (hb hby at_84) rfl ?_
    exact k
  by_cases hc86_0 : i10 = x0
  · rw [if_pos hc86_0]
    refine Done.of (T' := T0) (g' := (mkF m 93 #[.val (.int i0), .val (.int i1), .val (.int i2), .val (.int i3), .val (.int i4), .val (.ref o5), .val (.int i6), .val (.int i7), .val (.int i8), .val (.int i9), .val (.int i10), .val (.int x0), .unset, .unset, .unset, .unset, .unset] [(.int x0)])) (fun t k => ?_) ?_
    · show Steps p.tables e below (T0.setTop (mkF m 86 #[.val (.int i0), .val (.int i1), .val (.int i2), .val (.int i3), .val (.int i4), .val (.ref o5), .val (.int i6), .val (.int i7), .val (.int i8), .val (.int i9), .val (.int i10), .val (.int x0), .unset, .unset, .unset, .unset, .unset] [(.int x0), (.int i10)])) t
      refine XS.icmpYes X0.here hx rfl (pc0 := 86) (pc' := 91) rfl (hb hby at_86) rfl (teq hc86_0).1 (by decide) (by decide) ?_
      show Steps p.tables e below (T0.setTop (mkF m 91 #[.val (.int i0), .val (.int i1), .val (.int i2), .val (.int i3), .val (.int i4), .val (.ref o5), .val (.int i6), .val (.int i7), .val (.int i8), .val (.int i9), .val (.int i10), .val (.int x0), .unset, .unset, .unset, .unset, .unset] [])) t
      refine XS.iload X0.here hx rfl (hb hby at_91) rfl ?_
      exact k
    by_cases hc93_1 : x0 = (0 : Int32)
    · rw [if_pos hc93_1]
      refine Done.of (T' := T0) (g' := (mkF m 103 #[.val (.int i0), .val (.int i1), .val (.int i2), .val (.int i3), .val (.int i4), .val (.ref o5), .val (.int i6), .val (.int i7), .val (.int i8), .val (.int i9), .val (.int i10), .val (.int x0), .unset, .unset, .unset, .unset, .unset] [])) (fun t k => ?_) ?_
      · show Steps p.tables e below (T0.setTop (mkF m 93 #[.val (.int i0), .val (.int i1), .val (.int i2), .val (.int i3), .val (.int i4), .val (.ref o5), .val (.int i6), .val (.int i7), .val (.int i8), .val (.int i9), .val (.int i10), .val (.int x0), .unset, .unset, .unset, .unset, .unset] [(.int x0)])) t
        refine XS.ifYes X0.here hx rfl (pc0 := 93) (pc' := 103) rfl (hb hby at_93) rfl ((if0 _ _).trans (teq hc93_1).1) (by decide) (by decide) ?_
        exact k
      exact bk0_103 hx hZ hw hby hml hown hnm hret hlk X0 N0 e0 i0 i1 i2 i3 i4 o5 i6 i7 i8 i9 i10 x0 Z0 w_reserved_o5 E_o5 F_reserved_o5 g_o5
    · rw [if_neg hc93_1]
      refine Done.of (T' := T0) (g' := (mkF m 103 #[.val (.int i0), .val (.int i1), .val (.int i2), .val (.int i3), .val (.int i4), .val (.ref o5), .val (.int i6), .val (.int i7), .val (.int (i8 + i9)), .val (.int i9), .val (.int i10), .val (.int x0), .unset, .unset, .unset, .unset, .unset] [])) (fun t k => ?_) ?_
      · show Steps p.tables e below (T0.setTop (mkF m 93 #[.val (.int i0), .val (.int i1), .val (.int i2), .val (.int i3), .val (.int i4), .val (.ref o5), .val (.int i6), .val (.int i7), .val (.int i8), .val (.int i9), .val (.int i10), .val (.int x0), .unset, .unset, .unset, .unset, .unset] [(.int x0)])) t
        refine XS.ifNo X0.here hx rfl (hb hby at_93) rfl ((if0 _ _).trans (feq hc93_1).1) ?_
        show Steps p.tables e below (T0.setTop (mkF m 96 #[.val (.int i0), .val (.int i1), .val (.int i2), .val (.int i3), .val (.int i4), .val (.ref o5), .val (.int i6), .val (.int i7), .val (.int i8), .val (.int i9), .val (.int i10), .val (.int x0), .unset, .unset, .unset, .unset, .unset] [])) t
        refine XS.iload X0.here hx rfl (hb hby at_96) rfl ?_
        show Steps p.tables e below (T0.setTop (mkF m 98 #[.val (.int i0), .val (.int i1), .val (.int i2), .val (.int i3), .val (.int i4), .val (.ref o5), .val (.int i6), .val (.int i7), .val (.int i8), .val (.int i9), .val (.int i10), .val (.int x0), .unset, .unset, .unset, .unset, .unset] [(.int i8)])) t
        refine XS.iload X0.here hx rfl (hb hby at_98) rfl ?_
        show Steps p.tables e below (T0.setTop (mkF m 100 #[.val (.int i0), .val (.int i1), .val (.int i2), .val (.int i3), .val (.int i4), .val (.ref o5), .val (.int i6), .val (.int i7), .val (.int i8), .val (.int i9), .val (.int i10), .val (.int x0), .unset, .unset, .unset, .unset, .unset] [(.int i9), (.int i8)])) t
        refine XS.iadd X0.here hx rfl (hb hby at_100) rfl ?_
        show Steps p.tables e below (T0.setTop (mkF m 101 #[.val (.int i0), .val (.int i1), .val (.int i2), .val (.int i3), .val (.int i4), .val (.ref o5), .val (.int i6), .val (.int i7), .val (.int i8), .val (.int i9), .val (.int i10), .val (.int x0), .unset, .unset, .unset, .unset, .unset] [(.int (i8 + i9))])) t
        refine XS.istore X0.here hx rfl (hb hby at_101) rfl (l' := #[.val (.int i0), .val (.int i1), .val (.int i2), .val (.int i3), .val (.int i4), .val (.ref o5), .val (.int i6), .val (.int i7), .val (.int (i8 + i9)), .val (.int i9), .val (.int i10), .val (.int x0), .unset, .unset, .unset, .unset, .unset]) rfl ?_
        exact k
      exact bk0_103 hx hZ hw hby hml hown hnm hret hlk X0 N0 e0 i0 i1 i2 i3 i4 o5 i6 i7 (i8 + i9) i9 i10 x0 Z0 w_reserved_o5 E_o5 F_reserved_o5 g_o5
  · rw [if_neg hc86_0]
    refine Done.of (T' := T0) (g' := (mkF m 90 #[.val (.int i0), .val (.int i1), .val (.int i2), .val (.int i3), .val (.int i4), .val (.ref o5), .val (.int i6), .val (.int i7), .val (.int i8), .val (.int i9), .val (.int i10), .val (.int x0), .unset, .unset, .unset, .unset, .unset] [(.int (0 : Int32))])) (fun t k => ?_) ?_
    · show Steps p.tables e below (T0.setTop (mkF m 86 #[.val (.int i0), .val (.int i1), .val (.int i2), .val (.int i3), .val (.int i4), .val (.ref o5), .val (.int i6), .val (.int i7), .val (.int i8), .val (.int i9), .val (.int i10), .val (.int x0), .unset, .unset, .unset, .unset, .unset] [(.int x0), (.int i10)])) t
      refine XS.icmpNo X0.here hx rfl (hb hby at_86) rfl (feq hc86_0).1 ?_
      show Steps p.tables e below (T0.setTop (mkF m 89 #[.val (.int i0), .val (.int i1), .val (.int i2), .val (.int i3), .val (.int i4), .val (.ref o5), .val (.int i6), .val (.int i7), .val (.int i8), .val (.int i9), .val (.int i10), .val (.int x0), .unset, .unset, .unset, .unset, .unset] [])) t
      refine XS.iconst X0.here hx rfl (hb hby at_89) ?_
      exact k
    exact doneN (t := .boolean) X0 (by simp) hx hret hlk (hb hby at_90) ⟨rfl, N0⟩ (by decide) (by decide)
def F0_0 (p1 : Int32) (p2 : Int32) (p3 : Int32) (p4 : Int32) : Int32 := (if (own_rv (0 : Int32) ((p1 &&& (2147483647 : Int32)) % (2097153 : Int32))) = (0 : Int32) then (0 : Int32) else (if (2097152 : Int32) < (((p1 &&& (2147483647 : Int32)) % (2097153 : Int32)) + (F4_0 p2 ((p1 &&& (2147483647 : Int32)) % (2097153 : Int32)) p4 (p4 >>> ((1 : Int32) &&& 31)))) then (F0_80 p1 p2 p3 p4 (2097152 : Int32) ((p1 &&& (2147483647 : Int32)) % (2097153 : Int32)) (own_rv (0 : Int32) ((p1 &&& (2147483647 : Int32)) % (2097153 : Int32))) ((p1 &&& (2147483647 : Int32)) % (2097153 : Int32)) (F4_0 p2 ((p1 &&& (2147483647 : Int32)) % (2097153 : Int32)) p4 (p4 >>> ((1 : Int32) &&& 31))) (own_rv (own_rf (0 : Int32) ((p1 &&& (2147483647 : Int32)) % (2097153 : Int32))) (F4_0 p2 ((p1 &&& (2147483647 : Int32)) % (2097153 : Int32)) p4 (p4 >>> ((1 : Int32) &&& 31)))) (0 : Int32) (own_rf (own_rf (0 : Int32) ((p1 &&& (2147483647 : Int32)) % (2097153 : Int32))) (F4_0 p2 ((p1 &&& (2147483647 : Int32)) % (2097153 : Int32)) p4 (p4 >>> ((1 : Int32) &&& 31))))) else (F0_80 p1 p2 p3 p4 (2097152 : Int32) ((p1 &&& (2147483647 : Int32)) % (2097153 : Int32)) (own_rv (0 : Int32) ((p1 &&& (2147483647 : Int32)) % (2097153 : Int32))) ((p1 &&& (2147483647 : Int32)) % (2097153 : Int32)) (F4_0 p2 ((p1 &&& (2147483647 : Int32)) % (2097153 : Int32)) p4 (p4 >>> ((1 : Int32) &&& 31))) (own_rv (own_rf (0 : Int32) ((p1 &&& (2147483647 : Int32)) % (2097153 : Int32))) (F4_0 p2 ((p1 &&& (2147483647 : Int32)) % (2097153 : Int32)) p4 (p4 >>> ((1 : Int32) &&& 31)))) (1 : Int32) (own_rf (own_rf (0 : Int32) ((p1 &&& (2147483647 : Int32)) % (2097153 : Int32))) (F4_0 p2 ((p1 &&& (2147483647 : Int32)) % (2097153 : Int32)) p4 (p4 >>> ((1 : Int32) &&& 31)))))))
set_option maxRecDepth 65536 in
set_option maxHeartbeats 40000000 in
theorem bk0_0 {p : Program} {l : Launch} {e : Env} {s : State} {m : MethodId} {args : Array Value} {below : List Frame} {meth : Method} {c : Code} {T0 : State} {locs : List Loc} {Z : State} {a0 : Array Value} {h0 : Heap} {n0 : Nat}
    (hx : p.tables.exec = Jvm.exec) (hZ : Z.Warmed39 s.vm) (hw : ∀ d ∈ tables_1, d.before a0 Z = true) (hby : c.code = code) (hml : c.maxLocals = 17) (hown : s.vm.findClass "com/example/twinstream/twinstream/kafka/FetchBudgetReservePinLaw" = some m.cls) (hnm : meth.name = "law") (hret : meth.sig.returnType = some .boolean) (hlk : meth.locks = false)
    (X0 : Stand p l e room_1 s m args below meth c T0 locs 0 0) (N0 : Fr n0 locs) (e0 : T0.heap = h0) (p1 : Int32) (p2 : Int32) (p3 : Int32) (p4 : Int32) (Z0 : n0 ≤ h0.size) :
    Done p e below s room_1 (Ql n0 (.int (F0_0 p1 p2 p3 p4))) T0 (mkF m 0 #[.val (.int p1), .val (.int p2), .val (.int p3), .val (.int p4), .unset, .unset, .unset, .unset, .unset, .unset, .unset, .unset, .unset, .unset, .unset, .unset, .unset] []) := by
  unfold F0_0
  refine Done.of (T' := T0) (g' := (mkF m 4 #[.val (.int p1), .val (.int p2), .val (.int p3), .val (.int p4), .val (.int (2097152 : Int32)), .unset, .unset, .unset, .unset, .unset, .unset, .unset, .unset, .unset, .unset, .unset, .unset] [])) (fun t k => ?_) ?_
  · show Steps p.tables e below (T0.setTop (mkF m 0 #[.val (.int p1), .val (.int p2), .val (.int p3), .val (.int p4), .unset, .unset, .unset, .unset, .unset, .unset, .unset, .unset, .unset, .unset, .unset, .unset, .unset] [])) t
    refine X0.ldcInt hx hown (mvT hZ (hw _ (List.mem_of_getElem? (i := 0) rfl))) (g := (mkF m 0 #[.val (.int p1), .val (.int p2), .val (.int p3), .val (.int p4), .unset, .unset, .unset, .unset, .unset, .unset, .unset, .unset, .unset, .unset, .unset, .unset, .unset] [])) rfl (hb hby at_0) _ ?_
    show Steps p.tables e below (T0.setTop (mkF m 2 #[.val (.int p1), .val (.int p2), .val (.int p3), .val (.int p4), .unset, .unset, .unset, .unset, .unset, .unset, .unset, .unset, .unset, .unset, .unset, .unset, .unset] [(.int (2097152 : Int32))])) t
    refine XS.istore X0.here hx rfl (hb hby at_2) rfl (l' := #[.val (.int p1), .val (.int p2), .val (.int p3), .val (.int p4), .val (.int (2097152 : Int32)), .unset, .unset, .unset, .unset, .unset, .unset, .unset, .unset, .unset, .unset, .unset, .unset]) rfl ?_
    exact k
  obtain ⟨T1, h1, X1, e1, E1, A1, D1, -, st1⟩ := newO X0 hx hZ hown (hw _ (List.mem_of_getElem? (i := 1) rfl)) (hw _ (List.mem_of_getElem? (i := 2) rfl)) (hw _ (List.mem_of_getElem? (i := 3) rfl)) e0 (g := (mkF m 4 #[.val (.int p1), .val (.int p2), .val (.int p3), .val (.int p4), .val (.int (2097152 : Int32)), .unset, .unset, .unset, .unset, .unset, .unset, .unset, .unset, .unset, .unset, .unset, .unset] [])) rfl (hb hby at_4) (by decide) (by decide)
  obtain ⟨b1, g1⟩ : ∃ z, z = h0.size := ⟨_, rfl⟩
  rw [← g1] at A1 D1 st1
  have g_b1 : n0 ≤ b1 := Nat.le_trans Z0 (Nat.le_of_eq g1.symm)
  have F1_reserved : Fld Z h1 b1 "com/example/twinstream/twinstream/kafka/FetchBudget" "reserved" "I" (.int (0 : Int32)) := D1 (Or.inl (hw _ (List.mem_of_getElem? (i := 17) rfl))) (ty := .int) (by decide)
  refine Done.of (g' := (mkF m 7 #[.val (.int p1), .val (.int p2), .val (.int p3), .val (.int p4), .val (.int (2097152 : Int32)), .unset, .unset, .unset, .unset, .unset, .unset, .unset, .unset, .unset, .unset, .unset, .unset] [(.ref b1)])) st1 ?_
  refine Done.of (T' := T1) (g' := (mkF m 8 #[.val (.int p1), .val (.int p2), .val (.int p3), .val (.int p4), .val (.int (2097152 : Int32)), .unset, .unset, .unset, .unset, .unset, .unset, .unset, .unset, .unset, .unset, .unset, .unset] [(.ref b1), (.ref b1)])) (fun t k => ?_) ?_
  · show Steps p.tables e below (T1.setTop (mkF m 7 #[.val (.int p1), .val (.int p2), .val (.int p3), .val (.int p4), .val (.int (2097152 : Int32)), .unset, .unset, .unset, .unset, .unset, .unset, .unset, .unset, .unset, .unset, .unset, .unset] [(.ref b1)])) t
    refine XS.dup X1.here hx rfl (hb hby at_7) rfl rfl ?_
    exact k
  obtain ⟨_, _, ⟨T2, L2, k2, n2⟩, -, X2, ⟨Lc2, hQ2, l2, y2, z2⟩, st2⟩ := X1.specialBack hx (y := (⟨"com/example/twinstream/twinstream/kafka/FetchBudget", "<init>", "()V"⟩ : MethodName)) rfl hown (mvT hZ (hw _ (List.mem_of_getElem? (i := 4) rfl))) (mvT hZ (hw _ (List.mem_of_getElem? (i := 5) rfl))) (mvT hZ (hw _ (List.mem_of_getElem? (i := 6) rfl))) (by decide) (backOf (W := 1) (rm1 l Z a0 hw [] b1 h1 n0) hZ (hw _ (List.mem_of_getElem? (i := 6) rfl)) (hw _ (List.mem_of_getElem? (i := 3) rfl)) (by decide) (by decide)) (g := (mkF m 8 #[.val (.int p1), .val (.int p2), .val (.int p3), .val (.int p4), .val (.int (2097152 : Int32)), .unset, .unset, .unset, .unset, .unset, .unset, .unset, .unset, .unset, .unset, .unset, .unset] [(.ref b1), (.ref b1)])) rfl (by rw [hml]; rfl) (Steps.refl _) (a := b1) (argsL := []) (rest := [(.ref b1)]) (lenOf pd_1 rfl) rfl (by show 2 * 0 + _ ≤ _; exact Nat.le_of_eq rfl) (hb hby at_8) (fun _ _ => ⟨rfl, e1, (by decide : 1 + 0 ≤ _), (by decide : 1 + 0 ≤ _)⟩)
  dsimp only [Pt.U, Pt.locs, Pt.cells, Pt.slots] at X2 l2 y2 z2 st2 hQ2
  subst l2 y2 z2
  obtain ⟨rfl, N2q, e2⟩ := hQ2
  have N2 := Fr.app N0 N2q
  replace X2 : Stand p l e room_1 s m args below meth c T2 _ 1 1 := X2
  refine Done.of (g' := (mkF m 11 #[.val (.int p1), .val (.int p2), .val (.int p3), .val (.int p4), .val (.int (2097152 : Int32)), .unset, .unset, .unset, .unset, .unset, .unset, .unset, .unset, .unset, .unset, .unset, .unset] [(.ref b1)])) (fun t k => st2.trans k) ?_
  refine Done.of (T' := T2) (g' := (mkF m 28 #[.val (.int p1), .val (.int p2), .val (.int p3), .val (.int p4), .val (.int (2097152 : Int32)), .val (.ref b1), .val (.int ((p1 &&& (2147483647 : Int32)) % (2097153 : Int32))), .unset, .unset, .unset, .unset, .unset, .unset, .unset, .unset, .unset, .unset] [(.int ((p1 &&& (2147483647 : Int32)) % (2097153 : Int32))), (.ref b1)])) (fun t k => ?_) ?_
  · show Steps p.tables e below (T2.setTop (mkF m 11 #[.val (.int p1), .val (.int p2), .val (.int p3), .val (.int p4), .val (.int (2097152 : Int32)), .unset, .unset, .unset, .unset, .unset, .unset, .unset, .unset, .unset, .unset, .unset, .unset] [(.ref b1)])) t
    refine XS.astore X2.here hx rfl (hb hby at_11) rfl rfl (l' := #[.val (.int p1), .val (.int p2), .val (.int p3), .val (.int p4), .val (.int (2097152 : Int32)), .val (.ref b1), .unset, .unset, .unset, .unset, .unset, .unset, .unset, .unset, .unset, .unset, .unset]) rfl ?_
    show Steps p.tables e below (T2.setTop (mkF m 13 #[.val (.int p1), .val (.int p2), .val (.int p3), .val (.int p4), .val (.int (2097152 : Int32)), .val (.ref b1), .unset, .unset, .unset, .unset, .unset, .unset, .unset, .unset, .unset, .unset, .unset] [])) t
    refine XS.iloadN X2.here hx rfl (hb hby at_13) rfl ?_
    show Steps p.tables e below (T2.setTop (mkF m 14 #[.val (.int p1), .val (.int p2), .val (.int p3), .val (.int p4), .val (.int (2097152 : Int32)), .val (.ref b1), .unset, .unset, .unset, .unset, .unset, .unset, .unset, .unset, .unset, .unset, .unset] [(.int p1)])) t
    refine X2.ldcInt hx hown (mvT hZ (hw _ (List.mem_of_getElem? (i := 10) rfl))) (g := (mkF m 14 #[.val (.int p1), .val (.int p2), .val (.int p3), .val (.int p4), .val (.int (2097152 : Int32)), .val (.ref b1), .unset, .unset, .unset, .unset, .unset, .unset, .unset, .unset, .unset, .unset, .unset] [(.int p1)])) rfl (hb hby at_14) _ ?_
    show Steps p.tables e below (T2.setTop (mkF m 16 #[.val (.int p1), .val (.int p2), .val (.int p3), .val (.int p4), .val (.int (2097152 : Int32)), .val (.ref b1), .unset, .unset, .unset, .unset, .unset, .unset, .unset, .unset, .unset, .unset, .unset] [(.int (2147483647 : Int32)), (.int p1)])) t
    refine XS.iand X2.here hx rfl (hb hby at_16) rfl ?_
    show Steps p.tables e below (T2.setTop (mkF m 17 #[.val (.int p1), .val (.int p2), .val (.int p3), .val (.int p4), .val (.int (2097152 : Int32)), .val (.ref b1), .unset, .unset, .unset, .unset, .unset, .unset, .unset, .unset, .unset, .unset, .unset] [(.int (p1 &&& (2147483647 : Int32)))])) t
    refine XS.iload X2.here hx rfl (hb hby at_17) rfl ?_
    show Steps p.tables e below (T2.setTop (mkF m 19 #[.val (.int p1), .val (.int p2), .val (.int p3), .val (.int p4), .val (.int (2097152 : Int32)), .val (.ref b1), .unset, .unset, .unset, .unset, .unset, .unset, .unset, .unset, .unset, .unset, .unset] [(.int (2097152 : Int32)), (.int (p1 &&& (2147483647 : Int32)))])) t
    refine XS.iconst X2.here hx rfl (hb hby at_19) ?_
    show Steps p.tables e below (T2.setTop (mkF m 20 #[.val (.int p1), .val (.int p2), .val (.int p3), .val (.int p4), .val (.int (2097152 : Int32)), .val (.ref b1), .unset, .unset, .unset, .unset, .unset, .unset, .unset, .unset, .unset, .unset, .unset] [(.int (1 : Int32)), (.int (2097152 : Int32)), (.int (p1 &&& (2147483647 : Int32)))])) t
    refine XS.iadd X2.here hx rfl (hb hby at_20) rfl ?_
    show Steps p.tables e below (T2.setTop (mkF m 21 #[.val (.int p1), .val (.int p2), .val (.int p3), .val (.int p4), .val (.int (2097152 : Int32)), .val (.ref b1), .unset, .unset, .unset, .unset, .unset, .unset, .unset, .unset, .unset, .unset, .unset] [(.int (2097153 : Int32)), (.int (p1 &&& (2147483647 : Int32)))])) t
    refine iremM X2 hx rfl (hb hby at_21) rfl (by decide) ?_
    show Steps p.tables e below (T2.setTop (mkF m 22 #[.val (.int p1), .val (.int p2), .val (.int p3), .val (.int p4), .val (.int (2097152 : Int32)), .val (.ref b1), .unset, .unset, .unset, .unset, .unset, .unset, .unset, .unset, .unset, .unset, .unset] [(.int ((p1 &&& (2147483647 : Int32)) % (2097153 : Int32)))])) t
    refine XS.istore X2.here hx rfl (hb hby at_22) rfl (l' := #[.val (.int p1), .val (.int p2), .val (.int p3), .val (.int p4), .val (.int (2097152 : Int32)), .val (.ref b1), .val (.int ((p1 &&& (2147483647 : Int32)) % (2097153 : Int32))), .unset, .unset, .unset, .unset, .unset, .unset, .unset, .unset, .unset, .unset]) rfl ?_
    show Steps p.tables e below (T2.setTop (mkF m 24 #[.val (.int p1), .val (.int p2), .val (.int p3), .val (.int p4), .val (.int (2097152 : Int32)), .val (.ref b1), .val (.int ((p1 &&& (2147483647 : Int32)) % (2097153 : Int32))), .unset, .unset, .unset, .unset, .unset, .unset, .unset, .unset, .unset, .unset] [])) t
    refine XS.aload X2.here hx rfl (hb hby at_24) rfl rfl ?_
    show Steps p.tables e below (T2.setTop (mkF m 26 #[.val (.int p1), .val (.int p2), .val (.int p3), .val (.int p4), .val (.int (2097152 : Int32)), .val (.ref b1), .val (.int ((p1 &&& (2147483647 : Int32)) % (2097153 : Int32))), .unset, .unset, .unset, .unset, .unset, .unset, .unset, .unset, .unset, .unset] [(.ref b1)])) t
    refine XS.iload X2.here hx rfl (hb hby at_26) rfl ?_
    exact k
  obtain ⟨cq3, kq3, q3a, q3b, q3c⟩ := isOf hZ e2 A1
  obtain ⟨_, _, ⟨T3, L3, k3, n3⟩, -, X3, ⟨Lc3, hQ3, l3, y3, z3⟩, st3⟩ := X2.virtualBack hx (y := (⟨"com/example/twinstream/twinstream/kafka/FetchBudget", "reserve", "(I)Z"⟩ : MethodName)) (z := (⟨"com/example/twinstream/twinstream/kafka/FetchBudget", "reserve", "(I)Z"⟩ : MethodName)) hown (mvT hZ (hw _ (List.mem_of_getElem? (i := 11) rfl))) (mvT hZ (hw _ (List.mem_of_getElem? (i := 12) rfl))) (notFace_of_selects (args := #[]) (mvT hZ (hw _ (List.mem_of_getElem? (i := 14) rfl)))) (mvT hZ (hw _ (List.mem_of_getElem? (i := 14) rfl))) (mvT hZ (hw _ (List.mem_of_getElem? (i := 13) rfl))) (by decide) (backOf (W := 0) (rm3 l Z a0 hw [] b1 ((p1 &&& (2147483647 : Int32)) % (2097153 : Int32)) h1 n0 (0 : Int32) A1 F1_reserved g_b1) hZ (hw _ (List.mem_of_getElem? (i := 15) rfl)) (hw _ (List.mem_of_getElem? (i := 3) rfl)) (by decide) (by decide)) q3a q3c (g := (mkF m 28 #[.val (.int p1), .val (.int p2), .val (.int p3), .val (.int p4), .val (.int (2097152 : Int32)), .val (.ref b1), .val (.int ((p1 &&& (2147483647 : Int32)) % (2097153 : Int32))), .unset, .unset, .unset, .unset, .unset, .unset, .unset, .unset, .unset, .unset] [(.int ((p1 &&& (2147483647 : Int32)) % (2097153 : Int32))), (.ref b1)])) rfl (by rw [hml]; rfl) (Steps.refl _) (argsL := [(.int ((p1 &&& (2147483647 : Int32)) % (2097153 : Int32)))]) (rest := []) (lenOf pd_2 rfl) rfl (by show 2 * 0 + _ ≤ _; exact Nat.le_of_eq rfl) (hb hby at_28) (fun _ _ => ⟨rfl, e2, (by decide : 1 + 0 ≤ _), (by decide : 1 + 0 ≤ _)⟩)
  dsimp only [Pt.U, Pt.locs, Pt.cells, Pt.slots] at X3 l3 y3 z3 st3 hQ3
  subst l3 y3 z3
  obtain ⟨h3, e3⟩ : ∃ z, T3.heap = z := ⟨_, rfl⟩
  rw [e3] at hQ3
  obtain ⟨rfl, N3q, K3, E3, F3_reserved⟩ := hQ3
  have N3 := Fr.app N2 N3q
  replace X3 : Stand p l e room_1 s m args below meth c T3 _ 1 1 := X3
  refine Done.of (g' := (mkF m 31 #[.val (.int p1), .val (.int p2), .val (.int p3), .val (.int p4), .val (.int (2097152 : Int32)), .val (.ref b1), .val (.int ((p1 &&& (2147483647 : Int32)) % (2097153 : Int32))), .unset, .unset, .unset, .unset, .unset, .unset, .unset, .unset, .unset, .unset] [(.int (own_rv (0 : Int32) ((p1 &&& (2147483647 : Int32)) % (2097153 : Int32))))])) (fun t k => st3.trans k) ?_
  refine Done.of (T' := T3) (g' := (mkF m 35 #[.val (.int p1), .val (.int p2), .val (.int p3), .val (.int p4), .val (.int (2097152 : Int32)), .val (.ref b1), .val (.int ((p1 &&& (2147483647 : Int32)) % (2097153 : Int32))), .val (.int (own_rv (0 : Int32) ((p1 &&& (2147483647 : Int32)) % (2097153 : Int32)))), .unset, .unset, .unset, .unset, .unset, .unset, .unset, .unset, .unset] [(.int (own_rv (0 : Int32) ((p1 &&& (2147483647 : Int32)) % (2097153 : Int32))))])) (fun t k => ?_) ?_
  · show Steps p.tables e below (T3.setTop (mkF m 31 #[.val (.int p1), .val (.int p2), .val (.int p3), .val (.int p4), .val (.int (2097152 : Int32)), .val (.ref b1), .val (.int ((p1 &&& (2147483647 : Int32)) % (2097153 : Int32))), .unset, .unset, .unset, .unset, .unset, .unset, .unset, .unset, .unset, .unset] [(.int (own_rv (0 : Int32) ((p1 &&& (2147483647 : Int32)) % (2097153 : Int32))))])) t
    refine XS.istore X3.here hx rfl (hb hby at_31) rfl (l' := #[.val (.int p1), .val (.int p2), .val (.int p3), .val (.int p4), .val (.int (2097152 : Int32)), .val (.ref b1), .val (.int ((p1 &&& (2147483647 : Int32)) % (2097153 : Int32))), .val (.int (own_rv (0 : Int32) ((p1 &&& (2147483647 : Int32)) % (2097153 : Int32)))), .unset, .unset, .unset, .unset, .unset, .unset, .unset, .unset, .unset]) rfl ?_
    show Steps p.tables e below (T3.setTop (mkF m 33 #[.val (.int p1), .val (.int p2), .val (.int p3), .val (.int p4), .val (.int (2097152 : Int32)), .val (.ref b1), .val (.int ((p1 &&& (2147483647 : Int32)) % (2097153 : Int32))), .val (.int (own_rv (0 : Int32) ((p1 &&& (2147483647 : Int32)) % (2097153 : Int32)))), .unset, .unset, .unset, .unset, .unset, .unset, .unset, .unset, .unset] [])) t
    refine XS.iload X3.here hx rfl (hb hby at_33) rfl ?_
    exact k
  by_cases hc35_3 : (own_rv (0 : Int32) ((p1 &&& (2147483647 : Int32)) % (2097153 : Int32))) = (0 : Int32)
  · rw [if_pos hc35_3]
    refine Done.of (T' := T3) (g' := (mkF m 39 #[.val (.int p1), .val (.int p2), .val (.int p3), .val (.int p4), .val (.int (2097152 : Int32)), .val (.ref b1), .val (.int ((p1 &&& (2147483647 : Int32)) % (2097153 : Int32))), .val (.int (own_rv (0 : Int32) ((p1 &&& (2147483647 : Int32)) % (2097153 : Int32)))), .unset, .unset, .unset, .unset, .unset, .unset, .unset, .unset, .unset] [(.int (0 : Int32))])) (fun t k => ?_) ?_
    · show Steps p.tables e below (T3.setTop (mkF m 35 #[.val (.int p1), .val (.int p2), .val (.int p3), .val (.int p4), .val (.int (2097152 : Int32)), .val (.ref b1), .val (.int ((p1 &&& (2147483647 : Int32)) % (2097153 : Int32))), .val (.int (own_rv (0 : Int32) ((p1 &&& (2147483647 : Int32)) % (2097153 : Int32)))), .unset, .unset, .unset, .unset, .unset, .unset, .unset, .unset, .unset] [(.int (own_rv (0 : Int32) ((p1 &&& (2147483647 : Int32)) % (2097153 : Int32))))])) t
      refine XS.ifNo X3.here hx rfl (hb hby at_35) rfl ((if0 _ _).trans (teq hc35_3).2) ?_
      show Steps p.tables e below (T3.setTop (mkF m 38 #[.val (.int p1), .val (.int p2), .val (.int p3), .val (.int p4), .val (.int (2097152 : Int32)), .val (.ref b1), .val (.int ((p1 &&& (2147483647 : Int32)) % (2097153 : Int32))), .val (.int (own_rv (0 : Int32) ((p1 &&& (2147483647 : Int32)) % (2097153 : Int32)))), .unset, .unset, .unset, .unset, .unset, .unset, .unset, .unset, .unset] [])) t
      refine XS.iconst X3.here hx rfl (hb hby at_38) ?_
      exact k
    exact doneN (t := .boolean) X3 (by simp) hx hret hlk (hb hby at_39) ⟨rfl, N3⟩ (by decide) (by decide)
  · rw [if_neg hc35_3]
    refine Done.of (T' := T3) (g' := (mkF m 51 #[.val (.int p1), .val (.int p2), .val (.int p3), .val (.int p4), .val (.int (2097152 : Int32)), .val (.ref b1), .val (.int ((p1 &&& (2147483647 : Int32)) % (2097153 : Int32))), .val (.int (own_rv (0 : Int32) ((p1 &&& (2147483647 : Int32)) % (2097153 : Int32)))), .val (.int ((p1 &&& (2147483647 : Int32)) % (2097153 : Int32))), .unset, .unset, .unset, .unset, .unset, .unset, .unset, .unset] [(.int (p4 >>> ((1 : Int32) &&& 31))), (.int p4), (.int ((p1 &&& (2147483647 : Int32)) % (2097153 : Int32))), (.int p2)])) (fun t k => ?_) ?_
    · show Steps p.tables e below (T3.setTop (mkF m 35 #[.val (.int p1), .val (.int p2), .val (.int p3), .val (.int p4), .val (.int (2097152 : Int32)), .val (.ref b1), .val (.int ((p1 &&& (2147483647 : Int32)) % (2097153 : Int32))), .val (.int (own_rv (0 : Int32) ((p1 &&& (2147483647 : Int32)) % (2097153 : Int32)))), .unset, .unset, .unset, .unset, .unset, .unset, .unset, .unset, .unset] [(.int (own_rv (0 : Int32) ((p1 &&& (2147483647 : Int32)) % (2097153 : Int32))))])) t
      refine XS.ifYes X3.here hx rfl (pc0 := 35) (pc' := 40) rfl (hb hby at_35) rfl ((if0 _ _).trans (feq hc35_3).2) (by decide) (by decide) ?_
      show Steps p.tables e below (T3.setTop (mkF m 40 #[.val (.int p1), .val (.int p2), .val (.int p3), .val (.int p4), .val (.int (2097152 : Int32)), .val (.ref b1), .val (.int ((p1 &&& (2147483647 : Int32)) % (2097153 : Int32))), .val (.int (own_rv (0 : Int32) ((p1 &&& (2147483647 : Int32)) % (2097153 : Int32)))), .unset, .unset, .unset, .unset, .unset, .unset, .unset, .unset, .unset] [])) t
      refine XS.iload X3.here hx rfl (hb hby at_40) rfl ?_
      show Steps p.tables e below (T3.setTop (mkF m 42 #[.val (.int p1), .val (.int p2), .val (.int p3), .val (.int p4), .val (.int (2097152 : Int32)), .val (.ref b1), .val (.int ((p1 &&& (2147483647 : Int32)) % (2097153 : Int32))), .val (.int (own_rv (0 : Int32) ((p1 &&& (2147483647 : Int32)) % (2097153 : Int32)))), .unset, .unset, .unset, .unset, .unset, .unset, .unset, .unset, .unset] [(.int ((p1 &&& (2147483647 : Int32)) % (2097153 : Int32)))])) t
      refine XS.istore X3.here hx rfl (hb hby at_42) rfl (l' := #[.val (.int p1), .val (.int p2), .val (.int p3), .val (.int p4), .val (.int (2097152 : Int32)), .val (.ref b1), .val (.int ((p1 &&& (2147483647 : Int32)) % (2097153 : Int32))), .val (.int (own_rv (0 : Int32) ((p1 &&& (2147483647 : Int32)) % (2097153 : Int32)))), .val (.int ((p1 &&& (2147483647 : Int32)) % (2097153 : Int32))), .unset, .unset, .unset, .unset, .unset, .unset, .unset, .unset]) rfl ?_
      show Steps p.tables e below (T3.setTop (mkF m 44 #[.val (.int p1), .val (.int p2), .val (.int p3), .val (.int p4), .val (.int (2097152 : Int32)), .val (.ref b1), .val (.int ((p1 &&& (2147483647 : Int32)) % (2097153 : Int32))), .val (.int (own_rv (0 : Int32) ((p1 &&& (2147483647 : Int32)) % (2097153 : Int32)))), .val (.int ((p1 &&& (2147483647 : Int32)) % (2097153 : Int32))), .unset, .unset, .unset, .unset, .unset, .unset, .unset, .unset] [])) t
      refine XS.iloadN X3.here hx rfl (hb hby at_44) rfl ?_
      show Steps p.tables e below (T3.setTop (mkF m 45 #[.val (.int p1), .val (.int p2), .val (.int p3), .val (.int p4), .val (.int (2097152 : Int32)), .val (.ref b1), .val (.int ((p1 &&& (2147483647 : Int32)) % (2097153 : Int32))), .val (.int (own_rv (0 : Int32) ((p1 &&& (2147483647 : Int32)) % (2097153 : Int32)))), .val (.int ((p1 &&& (2147483647 : Int32)) % (2097153 : Int32))), .unset, .unset, .unset, .unset, .unset, .unset, .unset, .unset] [(.int p2)])) t
      refine XS.iload X3.here hx rfl (hb hby at_45) rfl ?_
      show Steps p.tables e below (T3.setTop (mkF m 47 #[.val (.int p1), .val (.int p2), .val (.int p3), .val (.int p4), .val (.int (2097152 : Int32)), .val (.ref b1), .val (.int ((p1 &&& (2147483647 : Int32)) % (2097153 : Int32))), .val (.int (own_rv (0 : Int32) ((p1 &&& (2147483647 : Int32)) % (2097153 : Int32)))), .val (.int ((p1 &&& (2147483647 : Int32)) % (2097153 : Int32))), .unset, .unset, .unset, .unset, .unset, .unset, .unset, .unset] [(.int ((p1 &&& (2147483647 : Int32)) % (2097153 : Int32))), (.int p2)])) t
      refine XS.iloadN X3.here hx rfl (hb hby at_47) rfl ?_
      show Steps p.tables e below (T3.setTop (mkF m 48 #[.val (.int p1), .val (.int p2), .val (.int p3), .val (.int p4), .val (.int (2097152 : Int32)), .val (.ref b1), .val (.int ((p1 &&& (2147483647 : Int32)) % (2097153 : Int32))), .val (.int (own_rv (0 : Int32) ((p1 &&& (2147483647 : Int32)) % (2097153 : Int32)))), .val (.int ((p1 &&& (2147483647 : Int32)) % (2097153 : Int32))), .unset, .unset, .unset, .unset, .unset, .unset, .unset, .unset] [(.int p4), (.int ((p1 &&& (2147483647 : Int32)) % (2097153 : Int32))), (.int p2)])) t
      refine XS.iloadN X3.here hx rfl (hb hby at_48) rfl ?_
      show Steps p.tables e below (T3.setTop (mkF m 49 #[.val (.int p1), .val (.int p2), .val (.int p3), .val (.int p4), .val (.int (2097152 : Int32)), .val (.ref b1), .val (.int ((p1 &&& (2147483647 : Int32)) % (2097153 : Int32))), .val (.int (own_rv (0 : Int32) ((p1 &&& (2147483647 : Int32)) % (2097153 : Int32)))), .val (.int ((p1 &&& (2147483647 : Int32)) % (2097153 : Int32))), .unset, .unset, .unset, .unset, .unset, .unset, .unset, .unset] [(.int p4), (.int p4), (.int ((p1 &&& (2147483647 : Int32)) % (2097153 : Int32))), (.int p2)])) t
      refine XS.iconst X3.here hx rfl (hb hby at_49) ?_
      show Steps p.tables e below (T3.setTop (mkF m 50 #[.val (.int p1), .val (.int p2), .val (.int p3), .val (.int p4), .val (.int (2097152 : Int32)), .val (.ref b1), .val (.int ((p1 &&& (2147483647 : Int32)) % (2097153 : Int32))), .val (.int (own_rv (0 : Int32) ((p1 &&& (2147483647 : Int32)) % (2097153 : Int32)))), .val (.int ((p1 &&& (2147483647 : Int32)) % (2097153 : Int32))), .unset, .unset, .unset, .unset, .unset, .unset, .unset, .unset] [(.int (1 : Int32)), (.int p4), (.int p4), (.int ((p1 &&& (2147483647 : Int32)) % (2097153 : Int32))), (.int p2)])) t
      refine XS.ishr X3.here hx rfl (hb hby at_50) rfl ?_
      exact k
    obtain ⟨_, _, ⟨T5, L5, k5, n5⟩, -, X5, ⟨Lc5, hQ5, l5, y5, z5⟩, st5⟩ := Jvm.LawKit.callS X3 hx (y := (⟨"com/example/twinstream/twinstream/kafka/FetchBudgetReservePinLaw", "pick", "(IIII)I"⟩ : MethodName)) hown (mvT hZ (hw _ (List.mem_of_getElem? (i := 19) rfl))) (mvT hZ (hw _ (List.mem_of_getElem? (i := 20) rfl))) (mvT hZ (hw _ (List.mem_of_getElem? (i := 21) rfl))) (mvT hZ (hw _ (List.mem_of_getElem? (i := 22) rfl))) (by decide) (backOf (W := 0) (rm4 l Z a0 hw [] p2 ((p1 &&& (2147483647 : Int32)) % (2097153 : Int32)) p4 (p4 >>> ((1 : Int32) &&& 31)) h3 n0) hZ (hw _ (List.mem_of_getElem? (i := 22) rfl)) (hw _ (List.mem_of_getElem? (i := 21) rfl)) (by decide) (by decide)) (g := (mkF m 51 #[.val (.int p1), .val (.int p2), .val (.int p3), .val (.int p4), .val (.int (2097152 : Int32)), .val (.ref b1), .val (.int ((p1 &&& (2147483647 : Int32)) % (2097153 : Int32))), .val (.int (own_rv (0 : Int32) ((p1 &&& (2147483647 : Int32)) % (2097153 : Int32)))), .val (.int ((p1 &&& (2147483647 : Int32)) % (2097153 : Int32))), .unset, .unset, .unset, .unset, .unset, .unset, .unset, .unset] [(.int (p4 >>> ((1 : Int32) &&& 31))), (.int p4), (.int ((p1 &&& (2147483647 : Int32)) % (2097153 : Int32))), (.int p2)])) rfl (by rw [hml]; rfl) (argsL := [(.int p2), (.int ((p1 &&& (2147483647 : Int32)) % (2097153 : Int32))), (.int p4), (.int (p4 >>> ((1 : Int32) &&& 31)))]) (rest := []) (lenOf pd_3 rfl) rfl (by show 2 * 0 + _ ≤ _; exact Nat.le_of_eq rfl) (hb hby at_51) (fun _ _ => ⟨rfl, e3, (by decide : 1 + 0 ≤ _), (by decide : 1 + 0 ≤ _)⟩)
    dsimp only [Pt.U, Pt.locs, Pt.cells, Pt.slots] at X5 l5 y5 z5 st5 hQ5
    subst l5 y5 z5
    obtain ⟨rfl, N5q, e5⟩ := hQ5
    have N5 := Fr.app N3 N5q
    replace X5 : Stand p l e room_1 s m args below meth c T5 _ 1 1 := X5
    refine Done.of (g' := (mkF m 54 #[.val (.int p1), .val (.int p2), .val (.int p3), .val (.int p4), .val (.int (2097152 : Int32)), .val (.ref b1), .val (.int ((p1 &&& (2147483647 : Int32)) % (2097153 : Int32))), .val (.int (own_rv (0 : Int32) ((p1 &&& (2147483647 : Int32)) % (2097153 : Int32)))), .val (.int ((p1 &&& (2147483647 : Int32)) % (2097153 : Int32))), .unset, .unset, .unset, .unset, .unset, .unset, .unset, .unset] [(.int (F4_0 p2 ((p1 &&& (2147483647 : Int32)) % (2097153 : Int32)) p4 (p4 >>> ((1 : Int32) &&& 31))))])) st5 ?_
    refine Done.of (T' := T5) (g' := (mkF m 60 #[.val (.int p1), .val (.int p2), .val (.int p3), .val (.int p4), .val (.int (2097152 : Int32)), .val (.ref b1), .val (.int ((p1 &&& (2147483647 : Int32)) % (2097153 : Int32))), .val (.int (own_rv (0 : Int32) ((p1 &&& (2147483647 : Int32)) % (2097153 : Int32)))), .val (.int ((p1 &&& (2147483647 : Int32)) % (2097153 : Int32))), .val (.int (F4_0 p2 ((p1 &&& (2147483647 : Int32)) % (2097153 : Int32)) p4 (p4 >>> ((1 : Int32) &&& 31)))), .unset, .unset, .unset, .unset, .unset, .unset, .unset] [(.int (F4_0 p2 ((p1 &&& (2147483647 : Int32)) % (2097153 : Int32)) p4 (p4 >>> ((1 : Int32) &&& 31)))), (.ref b1)])) (fun t k => ?_) ?_
    · show Steps p.tables e below (T5.setTop (mkF m 54 #[.val (.int p1), .val (.int p2), .val (.int p3), .val (.int p4), .val (.int (2097152 : Int32)), .val (.ref b1), .val (.int ((p1 &&& (2147483647 : Int32)) % (2097153 : Int32))), .val (.int (own_rv (0 : Int32) ((p1 &&& (2147483647 : Int32)) % (2097153 : Int32)))), .val (.int ((p1 &&& (2147483647 : Int32)) % (2097153 : Int32))), .unset, .unset, .unset, .unset, .unset, .unset, .unset, .unset] [(.int (F4_0 p2 ((p1 &&& (2147483647 : Int32)) % (2097153 : Int32)) p4 (p4 >>> ((1 : Int32) &&& 31))))])) t
      refine XS.istore X5.here hx rfl (hb hby at_54) rfl (l' := #[.val (.int p1), .val (.int p2), .val (.int p3), .val (.int p4), .val (.int (2097152 : Int32)), .val (.ref b1), .val (.int ((p1 &&& (2147483647 : Int32)) % (2097153 : Int32))), .val (.int (own_rv (0 : Int32) ((p1 &&& (2147483647 : Int32)) % (2097153 : Int32)))), .val (.int ((p1 &&& (2147483647 : Int32)) % (2097153 : Int32))), .val (.int (F4_0 p2 ((p1 &&& (2147483647 : Int32)) % (2097153 : Int32)) p4 (p4 >>> ((1 : Int32) &&& 31)))), .unset, .unset, .unset, .unset, .unset, .unset, .unset]) rfl ?_
      show Steps p.tables e below (T5.setTop (mkF m 56 #[.val (.int p1), .val (.int p2), .val (.int p3), .val (.int p4), .val (.int (2097152 : Int32)), .val (.ref b1), .val (.int ((p1 &&& (2147483647 : Int32)) % (2097153 : Int32))), .val (.int (own_rv (0 : Int32) ((p1 &&& (2147483647 : Int32)) % (2097153 : Int32)))), .val (.int ((p1 &&& (2147483647 : Int32)) % (2097153 : Int32))), .val (.int (F4_0 p2 ((p1 &&& (2147483647 : Int32)) % (2097153 : Int32)) p4 (p4 >>> ((1 : Int32) &&& 31)))), .unset, .unset, .unset, .unset, .unset, .unset, .unset] [])) t
      refine XS.aload X5.here hx rfl (hb hby at_56) rfl rfl ?_
      show Steps p.tables e below (T5.setTop (mkF m 58 #[.val (.int p1), .val (.int p2), .val (.int p3), .val (.int p4), .val (.int (2097152 : Int32)), .val (.ref b1), .val (.int ((p1 &&& (2147483647 : Int32)) % (2097153 : Int32))), .val (.int (own_rv (0 : Int32) ((p1 &&& (2147483647 : Int32)) % (2097153 : Int32)))), .val (.int ((p1 &&& (2147483647 : Int32)) % (2097153 : Int32))), .val (.int (F4_0 p2 ((p1 &&& (2147483647 : Int32)) % (2097153 : Int32)) p4 (p4 >>> ((1 : Int32) &&& 31)))), .unset, .unset, .unset, .unset, .unset, .unset, .unset] [(.ref b1)])) t
      refine XS.iload X5.here hx rfl (hb hby at_58) rfl ?_
      exact k
    obtain ⟨cq6, kq6, q6a, q6b, q6c⟩ := isOf hZ e5 E3
    obtain ⟨_, _, ⟨T6, L6, k6, n6⟩, -, X6, ⟨Lc6, hQ6, l6, y6, z6⟩, st6⟩ := X5.virtualBack hx (y := (⟨"com/example/twinstream/twinstream/kafka/FetchBudget", "reserve", "(I)Z"⟩ : MethodName)) (z := (⟨"com/example/twinstream/twinstream/kafka/FetchBudget", "reserve", "(I)Z"⟩ : MethodName)) hown (mvT hZ (hw _ (List.mem_of_getElem? (i := 11) rfl))) (mvT hZ (hw _ (List.mem_of_getElem? (i := 12) rfl))) (notFace_of_selects (args := #[]) (mvT hZ (hw _ (List.mem_of_getElem? (i := 14) rfl)))) (mvT hZ (hw _ (List.mem_of_getElem? (i := 14) rfl))) (mvT hZ (hw _ (List.mem_of_getElem? (i := 13) rfl))) (by decide) (backOf (W := 0) (rm3 l Z a0 hw [] b1 (F4_0 p2 ((p1 &&& (2147483647 : Int32)) % (2097153 : Int32)) p4 (p4 >>> ((1 : Int32) &&& 31))) h3 n0 (own_rf (0 : Int32) ((p1 &&& (2147483647 : Int32)) % (2097153 : Int32))) E3 F3_reserved g_b1) hZ (hw _ (List.mem_of_getElem? (i := 15) rfl)) (hw _ (List.mem_of_getElem? (i := 3) rfl)) (by decide) (by decide)) q6a q6c (g := (mkF m 60 #[.val (.int p1), .val (.int p2), .val (.int p3), .val (.int p4), .val (.int (2097152 : Int32)), .val (.ref b1), .val (.int ((p1 &&& (2147483647 : Int32)) % (2097153 : Int32))), .val (.int (own_rv (0 : Int32) ((p1 &&& (2147483647 : Int32)) % (2097153 : Int32)))), .val (.int ((p1 &&& (2147483647 : Int32)) % (2097153 : Int32))), .val (.int (F4_0 p2 ((p1 &&& (2147483647 : Int32)) % (2097153 : Int32)) p4 (p4 >>> ((1 : Int32) &&& 31)))), .unset, .unset, .unset, .unset, .unset, .unset, .unset] [(.int (F4_0 p2 ((p1 &&& (2147483647 : Int32)) % (2097153 : Int32)) p4 (p4 >>> ((1 : Int32) &&& 31)))), (.ref b1)])) rfl (by rw [hml]; rfl) (Steps.refl _) (argsL := [(.int (F4_0 p2 ((p1 &&& (2147483647 : Int32)) % (2097153 : Int32)) p4 (p4 >>> ((1 : Int32) &&& 31))))]) (rest := []) (lenOf pd_2 rfl) rfl (by show 2 * 0 + _ ≤ _; exact Nat.le_of_eq rfl) (hb hby at_60) (fun _ _ => ⟨rfl, e5, (by decide : 1 + 0 ≤ _), (by decide : 1 + 0 ≤ _)⟩)
    dsimp only [Pt.U, Pt.locs, Pt.cells, Pt.slots] at X6 l6 y6 z6 st6 hQ6
    subst l6 y6 z6
    obtain ⟨h6, e6⟩ : ∃ z, T6.heap = z := ⟨_, rfl⟩
    rw [e6] at hQ6
    obtain ⟨rfl, N6q, K6, E6, F6_reserved⟩ := hQ6
    have N6 := Fr.app N5 N6q
    replace X6 : Stand p l e room_1 s m args below meth c T6 _ 1 1 := X6
    refine Done.of (g' := (mkF m 63 #[.val (.int p1), .val (.int p2), .val (.int p3), .val (.int p4), .val (.int (2097152 : Int32)), .val (.ref b1), .val (.int ((p1 &&& (2147483647 : Int32)) % (2097153 : Int32))), .val (.int (own_rv (0 : Int32) ((p1 &&& (2147483647 : Int32)) % (2097153 : Int32)))), .val (.int ((p1 &&& (2147483647 : Int32)) % (2097153 : Int32))), .val (.int (F4_0 p2 ((p1 &&& (2147483647 : Int32)) % (2097153 : Int32)) p4 (p4 >>> ((1 : Int32) &&& 31)))), .unset, .unset, .unset, .unset, .unset, .unset, .unset] [(.int (own_rv (own_rf (0 : Int32) ((p1 &&& (2147483647 : Int32)) % (2097153 : Int32))) (F4_0 p2 ((p1 &&& (2147483647 : Int32)) % (2097153 : Int32)) p4 (p4 >>> ((1 : Int32) &&& 31)))))])) (fun t k => st6.trans k) ?_
    refine Done.of (T' := T6) (g' := (mkF m 72 #[.val (.int p1), .val (.int p2), .val (.int p3), .val (.int p4), .val (.int (2097152 : Int32)), .val (.ref b1), .val (.int ((p1 &&& (2147483647 : Int32)) % (2097153 : Int32))), .val (.int (own_rv (0 : Int32) ((p1 &&& (2147483647 : Int32)) % (2097153 : Int32)))), .val (.int ((p1 &&& (2147483647 : Int32)) % (2097153 : Int32))), .val (.int (F4_0 p2 ((p1 &&& (2147483647 : Int32)) % (2097153 : Int32)) p4 (p4 >>> ((1 : Int32) &&& 31)))), .val (.int (own_rv (own_rf (0 : Int32) ((p1 &&& (2147483647 : Int32)) % (2097153 : Int32))) (F4_0 p2 ((p1 &&& (2147483647 : Int32)) % (2097153 : Int32)) p4 (p4 >>> ((1 : Int32) &&& 31))))), .unset, .unset, .unset, .unset, .unset, .unset] [(.int (2097152 : Int32)), (.int (((p1 &&& (2147483647 : Int32)) % (2097153 : Int32)) + (F4_0 p2 ((p1 &&& (2147483647 : Int32)) % (2097153 : Int32)) p4 (p4 >>> ((1 : Int32) &&& 31)))))])) (fun t k => ?_) ?_
    · show Steps p.tables e below (T6.setTop (mkF m 63 #[.val (.int p1), .val (.int p2), .val (.int p3), .val (.int p4), .val (.int (2097152 : Int32)), .val (.ref b1), .val (.int ((p1 &&& (2147483647 : Int32)) % (2097153 : Int32))), .val (.int (own_rv (0 : Int32) ((p1 &&& (2147483647 : Int32)) % (2097153 : Int32)))), .val (.int ((p1 &&& (2147483647 : Int32)) % (2097153 : Int32))), .val (.int (F4_0 p2 ((p1 &&& (2147483647 : Int32)) % (2097153 : Int32)) p4 (p4 >>> ((1 : Int32) &&& 31)))), .unset, .unset, .unset, .unset, .unset, .unset, .unset] [(.int (own_rv (own_rf (0 : Int32) ((p1 &&& (2147483647 : Int32)) % (2097153 : Int32))) (F4_0 p2 ((p1 &&& (2147483647 : Int32)) % (2097153 : Int32)) p4 (p4 >>> ((1 : Int32) &&& 31)))))])) t
      refine XS.istore X6.here hx rfl (hb hby at_63) rfl (l' := #[.val (.int p1), .val (.int p2), .val (.int p3), .val (.int p4), .val (.int (2097152 : Int32)), .val (.ref b1), .val (.int ((p1 &&& (2147483647 : Int32)) % (2097153 : Int32))), .val (.int (own_rv (0 : Int32) ((p1 &&& (2147483647 : Int32)) % (2097153 : Int32)))), .val (.int ((p1 &&& (2147483647 : Int32)) % (2097153 : Int32))), .val (.int (F4_0 p2 ((p1 &&& (2147483647 : Int32)) % (2097153 : Int32)) p4 (p4 >>> ((1 : Int32) &&& 31)))), .val (.int (own_rv (own_rf (0 : Int32) ((p1 &&& (2147483647 : Int32)) % (2097153 : Int32))) (F4_0 p2 ((p1 &&& (2147483647 : Int32)) % (2097153 : Int32)) p4 (p4 >>> ((1 : Int32) &&& 31))))), .unset, .unset, .unset, .unset, .unset, .unset]) rfl ?_
      show Steps p.tables e below (T6.setTop (mkF m 65 #[.val (.int p1), .val (.int p2), .val (.int p3), .val (.int p4), .val (.int (2097152 : Int32)), .val (.ref b1), .val (.int ((p1 &&& (2147483647 : Int32)) % (2097153 : Int32))), .val (.int (own_rv (0 : Int32) ((p1 &&& (2147483647 : Int32)) % (2097153 : Int32)))), .val (.int ((p1 &&& (2147483647 : Int32)) % (2097153 : Int32))), .val (.int (F4_0 p2 ((p1 &&& (2147483647 : Int32)) % (2097153 : Int32)) p4 (p4 >>> ((1 : Int32) &&& 31)))), .val (.int (own_rv (own_rf (0 : Int32) ((p1 &&& (2147483647 : Int32)) % (2097153 : Int32))) (F4_0 p2 ((p1 &&& (2147483647 : Int32)) % (2097153 : Int32)) p4 (p4 >>> ((1 : Int32) &&& 31))))), .unset, .unset, .unset, .unset, .unset, .unset] [])) t
      refine XS.iload X6.here hx rfl (hb hby at_65) rfl ?_
      show Steps p.tables e below (T6.setTop (mkF m 67 #[.val (.int p1), .val (.int p2), .val (.int p3), .val (.int p4), .val (.int (2097152 : Int32)), .val (.ref b1), .val (.int ((p1 &&& (2147483647 : Int32)) % (2097153 : Int32))), .val (.int (own_rv (0 : Int32) ((p1 &&& (2147483647 : Int32)) % (2097153 : Int32)))), .val (.int ((p1 &&& (2147483647 : Int32)) % (2097153 : Int32))), .val (.int (F4_0 p2 ((p1 &&& (2147483647 : Int32)) % (2097153 : Int32)) p4 (p4 >>> ((1 : Int32) &&& 31)))), .val (.int (own_rv (own_rf (0 : Int32) ((p1 &&& (2147483647 : Int32)) % (2097153 : Int32))) (F4_0 p2 ((p1 &&& (2147483647 : Int32)) % (2097153 : Int32)) p4 (p4 >>> ((1 : Int32) &&& 31))))), .unset, .unset, .unset, .unset, .unset, .unset] [(.int ((p1 &&& (2147483647 : Int32)) % (2097153 : Int32)))])) t
      refine XS.iload X6.here hx rfl (hb hby at_67) rfl ?_
      show Steps p.tables e below (T6.setTop (mkF m 69 #[.val (.int p1), .val (.int p2), .val (.int p3), .val (.int p4), .val (.int (2097152 : Int32)), .val (.ref b1), .val (.int ((p1 &&& (2147483647 : Int32)) % (2097153 : Int32))), .val (.int (own_rv (0 : Int32) ((p1 &&& (2147483647 : Int32)) % (2097153 : Int32)))), .val (.int ((p1 &&& (2147483647 : Int32)) % (2097153 : Int32))), .val (.int (F4_0 p2 ((p1 &&& (2147483647 : Int32)) % (2097153 : Int32)) p4 (p4 >>> ((1 : Int32) &&& 31)))), .val (.int (own_rv (own_rf (0 : Int32) ((p1 &&& (2147483647 : Int32)) % (2097153 : Int32))) (F4_0 p2 ((p1 &&& (2147483647 : Int32)) % (2097153 : Int32)) p4 (p4 >>> ((1 : Int32) &&& 31))))), .unset, .unset, .unset, .unset, .unset, .unset] [(.int (F4_0 p2 ((p1 &&& (2147483647 : Int32)) % (2097153 : Int32)) p4 (p4 >>> ((1 : Int32) &&& 31)))), (.int ((p1 &&& (2147483647 : Int32)) % (2097153 : Int32)))])) t
      refine XS.iadd X6.here hx rfl (hb hby at_69) rfl ?_
      show Steps p.tables e below (T6.setTop (mkF m 70 #[.val (.int p1), .val (.int p2), .val (.int p3), .val (.int p4), .val (.int (2097152 : Int32)), .val (.ref b1), .val (.int ((p1 &&& (2147483647 : Int32)) % (2097153 : Int32))), .val (.int (own_rv (0 : Int32) ((p1 &&& (2147483647 : Int32)) % (2097153 : Int32)))), .val (.int ((p1 &&& (2147483647 : Int32)) % (2097153 : Int32))), .val (.int (F4_0 p2 ((p1 &&& (2147483647 : Int32)) % (2097153 : Int32)) p4 (p4 >>> ((1 : Int32) &&& 31)))), .val (.int (own_rv (own_rf (0 : Int32) ((p1 &&& (2147483647 : Int32)) % (2097153 : Int32))) (F4_0 p2 ((p1 &&& (2147483647 : Int32)) % (2097153 : Int32)) p4 (p4 >>> ((1 : Int32) &&& 31))))), .unset, .unset, .unset, .unset, .unset, .unset] [(.int (((p1 &&& (2147483647 : Int32)) % (2097153 : Int32)) + (F4_0 p2 ((p1 &&& (2147483647 : Int32)) % (2097153 : Int32)) p4 (p4 >>> ((1 : Int32) &&& 31)))))])) t
      refine XS.iload X6.here hx rfl (hb hby at_70) rfl ?_
      exact k
    by_cases hc72_6 : (2097152 : Int32) < (((p1 &&& (2147483647 : Int32)) % (2097153 : Int32)) + (F4_0 p2 ((p1 &&& (2147483647 : Int32)) % (2097153 : Int32)) p4 (p4 >>> ((1 : Int32) &&& 31))))
    · rw [if_pos hc72_6]
      refine Done.of (T' := T6) (g' := (mkF m 80 #[.val (.int p1), .val (.int p2), .val (.int p3), .val (.int p4), .val (.int (2097152 : Int32)), .val (.ref b1), .val (.int ((p1 &&& (2147483647 : Int32)) % (2097153 : Int32))), .val (.int (own_rv (0 : Int32) ((p1 &&& (2147483647 : Int32)) % (2097153 : Int32)))), .val (.int ((p1 &&& (2147483647 : Int32)) % (2097153 : Int32))), .val (.int (F4_0 p2 ((p1 &&& (2147483647 : Int32)) % (2097153 : Int32)) p4 (p4 >>> ((1 : Int32) &&& 31)))), .val (.int (own_rv (own_rf (0 : Int32) ((p1 &&& (2147483647 : Int32)) % (2097153 : Int32))) (F4_0 p2 ((p1 &&& (2147483647 : Int32)) % (2097153 : Int32)) p4 (p4 >>> ((1 : Int32) &&& 31))))), .unset, .unset, .unset, .unset, .unset, .unset] [(.int (0 : Int32))])) (fun t k => ?_) ?_
      · show Steps p.tables e below (T6.setTop (mkF m 72 #[.val (.int p1), .val (.int p2), .val (.int p3), .val (.int p4), .val (.int (2097152 : Int32)), .val (.ref b1), .val (.int ((p1 &&& (2147483647 : Int32)) % (2097153 : Int32))), .val (.int (own_rv (0 : Int32) ((p1 &&& (2147483647 : Int32)) % (2097153 : Int32)))), .val (.int ((p1 &&& (2147483647 : Int32)) % (2097153 : Int32))), .val (.int (F4_0 p2 ((p1 &&& (2147483647 : Int32)) % (2097153 : Int32)) p4 (p4 >>> ((1 : Int32) &&& 31)))), .val (.int (own_rv (own_rf (0 : Int32) ((p1 &&& (2147483647 : Int32)) % (2097153 : Int32))) (F4_0 p2 ((p1 &&& (2147483647 : Int32)) % (2097153 : Int32)) p4 (p4 >>> ((1 : Int32) &&& 31))))), .unset, .unset, .unset, .unset, .unset, .unset] [(.int (2097152 : Int32)), (.int (((p1 &&& (2147483647 : Int32)) % (2097153 : Int32)) + (F4_0 p2 ((p1 &&& (2147483647 : Int32)) % (2097153 : Int32)) p4 (p4 >>> ((1 : Int32) &&& 31)))))])) t
        refine XS.icmpYes X6.here hx rfl (pc0 := 72) (pc' := 79) rfl (hb hby at_72) rfl (tlt hc72_6).2.2.1 (by decide) (by decide) ?_
        show Steps p.tables e below (T6.setTop (mkF m 79 #[.val (.int p1), .val (.int p2), .val (.int p3), .val (.int p4), .val (.int (2097152 : Int32)), .val (.ref b1), .val (.int ((p1 &&& (2147483647 : Int32)) % (2097153 : Int32))), .val (.int (own_rv (0 : Int32) ((p1 &&& (2147483647 : Int32)) % (2097153 : Int32)))), .val (.int ((p1 &&& (2147483647 : Int32)) % (2097153 : Int32))), .val (.int (F4_0 p2 ((p1 &&& (2147483647 : Int32)) % (2097153 : Int32)) p4 (p4 >>> ((1 : Int32) &&& 31)))), .val (.int (own_rv (own_rf (0 : Int32) ((p1 &&& (2147483647 : Int32)) % (2097153 : Int32))) (F4_0 p2 ((p1 &&& (2147483647 : Int32)) % (2097153 : Int32)) p4 (p4 >>> ((1 : Int32) &&& 31))))), .unset, .unset, .unset, .unset, .unset, .unset] [])) t
        refine XS.iconst X6.here hx rfl (hb hby at_79) ?_
        exact k
      exact bk0_80 hx hZ hw hby hml hown hnm hret hlk X6 N6 e6 p1 p2 p3 p4 (2097152 : Int32) b1 ((p1 &&& (2147483647 : Int32)) % (2097153 : Int32)) (own_rv (0 : Int32) ((p1 &&& (2147483647 : Int32)) % (2097153 : Int32))) ((p1 &&& (2147483647 : Int32)) % (2097153 : Int32)) (F4_0 p2 ((p1 &&& (2147483647 : Int32)) % (2097153 : Int32)) p4 (p4 >>> ((1 : Int32) &&& 31))) (own_rv (own_rf (0 : Int32) ((p1 &&& (2147483647 : Int32)) % (2097153 : Int32))) (F4_0 p2 ((p1 &&& (2147483647 : Int32)) % (2097153 : Int32)) p4 (p4 >>> ((1 : Int32) &&& 31)))) (0 : Int32) (Nat.le_trans (Nat.le_trans (Nat.le_trans Z0 E1.1) K3.1) K6.1) (own_rf (own_rf (0 : Int32) ((p1 &&& (2147483647 : Int32)) % (2097153 : Int32))) (F4_0 p2 ((p1 &&& (2147483647 : Int32)) % (2097153 : Int32)) p4 (p4 >>> ((1 : Int32) &&& 31)))) E6 F6_reserved g_b1
    · rw [if_neg hc72_6]
      refine Done.of (T' := T6) (g' := (mkF m 80 #[.val (.int p1), .val (.int p2), .val (.int p3), .val (.int p4), .val (.int (2097152 : Int32)), .val (.ref b1), .val (.int ((p1 &&& (2147483647 : Int32)) % (2097153 : Int32))), .val (.int (own_rv (0 : Int32) ((p1 &&& (2147483647 : Int32)) % (2097153 : Int32)))), .val (.int ((p1 &&& (2147483647 : Int32)) % (2097153 : Int32))), .val (.int (F4_0 p2 ((p1 &&& (2147483647 : Int32)) % (2097153 : Int32)) p4 (p4 >>> ((1 : Int32) &&& 31)))), .val (.int (own_rv (own_rf (0 : Int32) ((p1 &&& (2147483647 : Int32)) % (2097153 : Int32))) (F4_0 p2 ((p1 &&& (2147483647 : Int32)) % (2097153 : Int32)) p4 (p4 >>> ((1 : Int32) &&& 31))))), .unset, .unset, .unset, .unset, .unset, .unset] [(.int (1 : Int32))])) (fun t k => ?_) ?_
      · show Steps p.tables e below (T6.setTop (mkF m 72 #[.val (.int p1), .val (.int p2), .val (.int p3), .val (.int p4), .val (.int (2097152 : Int32)), .val (.ref b1), .val (.int ((p1 &&& (2147483647 : Int32)) % (2097153 : Int32))), .val (.int (own_rv (0 : Int32) ((p1 &&& (2147483647 : Int32)) % (2097153 : Int32)))), .val (.int ((p1 &&& (2147483647 : Int32)) % (2097153 : Int32))), .val (.int (F4_0 p2 ((p1 &&& (2147483647 : Int32)) % (2097153 : Int32)) p4 (p4 >>> ((1 : Int32) &&& 31)))), .val (.int (own_rv (own_rf (0 : Int32) ((p1 &&& (2147483647 : Int32)) % (2097153 : Int32))) (F4_0 p2 ((p1 &&& (2147483647 : Int32)) % (2097153 : Int32)) p4 (p4 >>> ((1 : Int32) &&& 31))))), .unset, .unset, .unset, .unset, .unset, .unset] [(.int (2097152 : Int32)), (.int (((p1 &&& (2147483647 : Int32)) % (2097153 : Int32)) + (F4_0 p2 ((p1 &&& (2147483647 : Int32)) % (2097153 : Int32)) p4 (p4 >>> ((1 : Int32) &&& 31)))))])) t
        refine XS.icmpNo X6.here hx rfl (hb hby at_72) rfl (flt hc72_6).2.2.1 ?_
        show Steps p.tables e below (T6.setTop (mkF m 75 #[.val (.int p1), .val (.int p2), .val (.int p3), .val (.int p4), .val (.int (2097152 : Int32)), .val (.ref b1), .val (.int ((p1 &&& (2147483647 : Int32)) % (2097153 : Int32))), .val (.int (own_rv (0 : Int32) ((p1 &&& (2147483647 : Int32)) % (2097153 : Int32)))), .val (.int ((p1 &&& (2147483647 : Int32)) % (2097153 : Int32))), .val (.int (F4_0 p2 ((p1 &&& (2147483647 : Int32)) % (2097153 : Int32)) p4 (p4 >>> ((1 : Int32) &&& 31)))), .val (.int (own_rv (own_rf (0 : Int32) ((p1 &&& (2147483647 : Int32)) % (2097153 : Int32))) (F4_0 p2 ((p1 &&& (2147483647 : Int32)) % (2097153 : Int32)) p4 (p4 >>> ((1 : Int32) &&& 31))))), .unset, .unset, .unset, .unset, .unset, .unset] [])) t
        refine XS.iconst X6.here hx rfl (hb hby at_75) ?_
        show Steps p.tables e below (T6.setTop (mkF m 76 #[.val (.int p1), .val (.int p2), .val (.int p3), .val (.int p4), .val (.int (2097152 : Int32)), .val (.ref b1), .val (.int ((p1 &&& (2147483647 : Int32)) % (2097153 : Int32))), .val (.int (own_rv (0 : Int32) ((p1 &&& (2147483647 : Int32)) % (2097153 : Int32)))), .val (.int ((p1 &&& (2147483647 : Int32)) % (2097153 : Int32))), .val (.int (F4_0 p2 ((p1 &&& (2147483647 : Int32)) % (2097153 : Int32)) p4 (p4 >>> ((1 : Int32) &&& 31)))), .val (.int (own_rv (own_rf (0 : Int32) ((p1 &&& (2147483647 : Int32)) % (2097153 : Int32))) (F4_0 p2 ((p1 &&& (2147483647 : Int32)) % (2097153 : Int32)) p4 (p4 >>> ((1 : Int32) &&& 31))))), .unset, .unset, .unset, .unset, .unset, .unset] [(.int (1 : Int32))])) t
        refine XS.goto X6.here hx rfl (pc0 := 76) (pc' := 80) rfl (hb hby at_76) (by decide) (by decide) ?_
        exact k
      exact bk0_80 hx hZ hw hby hml hown hnm hret hlk X6 N6 e6 p1 p2 p3 p4 (2097152 : Int32) b1 ((p1 &&& (2147483647 : Int32)) % (2097153 : Int32)) (own_rv (0 : Int32) ((p1 &&& (2147483647 : Int32)) % (2097153 : Int32))) ((p1 &&& (2147483647 : Int32)) % (2097153 : Int32)) (F4_0 p2 ((p1 &&& (2147483647 : Int32)) % (2097153 : Int32)) p4 (p4 >>> ((1 : Int32) &&& 31))) (own_rv (own_rf (0 : Int32) ((p1 &&& (2147483647 : Int32)) % (2097153 : Int32))) (F4_0 p2 ((p1 &&& (2147483647 : Int32)) % (2097153 : Int32)) p4 (p4 >>> ((1 : Int32) &&& 31)))) (1 : Int32) (Nat.le_trans (Nat.le_trans (Nat.le_trans Z0 E1.1) K3.1) K6.1) (own_rf (own_rf (0 : Int32) ((p1 &&& (2147483647 : Int32)) % (2097153 : Int32))) (F4_0 p2 ((p1 &&& (2147483647 : Int32)) % (2097153 : Int32)) p4 (p4 >>> ((1 : Int32) &&& 31)))) E6 F6_reserved g_b1
theorem own_L : (2097152 : Int32).toInt = 2097152 := rfl
theorem own_l0 : (0 : Int32).toInt = 0 := rfl
theorem own_l1 : (1 : Int32).toInt = 1 := rfl
theorem own_mode0 (a : Int32) : 0 ≤ ((a &&& (2147483647 : Int32)) % (2097153 : Int32)).toInt ∧ ((a &&& (2147483647 : Int32)) % (2097153 : Int32)).toInt ≤ 2097152 := by
  have m1 := c_and a 2147483647 (by decide)
  have r1 := (c_irem (a &&& 2147483647) 2097153 2097153 rfl).1 m1.1
  rw [r1]; omega
theorem own_clamp (x : Int32) : 0 ≤ (F6_0 0 (F5_0 2097152 x)).toInt ∧ (F6_0 0 (F5_0 2097152 x)).toInt ≤ 2097152 := by
  have L := own_L
  have l0 := own_l0
  unfold F6_0 F5_0
  by_cases h : x < (2097152 : Int32)
  · rw [if_pos h]
    rw [Int32.lt_iff_toInt_lt] at h
    by_cases h2 : (0 : Int32) < x
    · rw [if_pos h2]; rw [Int32.lt_iff_toInt_lt] at h2; omega
    · rw [if_neg h2]; omega
  · rw [if_neg h, if_pos (by decide)]; omega
theorem own_pick (a b c d : Int32) (h0 : 0 ≤ b.toInt) (h1 : b.toInt ≤ 2097152) : 0 ≤ (F4_0 a b c d).toInt ∧ (F4_0 a b c d).toInt ≤ 2097152 := by
  unfold F4_0
  split
  · exact own_mode0 a
  · exact own_clamp _
theorem own_164 (i0 i1 i2 i3 i6 i7 i9 i10 i11 i12 i13 i14 w : Int32) (h0 : 0 ≤ w.toInt) (h1 : w.toInt ≤ 2097152) : F0_164 i0 i1 i2 i3 2097152 i6 i7 w i9 i10 i11 i12 i13 i14 w = 1 := by
  have s1 := c_isub 2097152 w
  have t1 := rng32 ((2097152 : Int32) - w)
  have s2 := c_iadd w ((2097152 : Int32) - w)
  have t2 := rng32 (w + ((2097152 : Int32) - w))
  have L := own_L
  have e : w + ((2097152 : Int32) - w) = 2097152 := by rw [← Int32.toInt_inj]; omega
  have n : ¬ (2097152 : Int32) < 2097152 := by decide
  unfold F0_164 own_rv own_rf
  rw [e, if_neg n, if_neg n]; decide
theorem own_103 (i0 i1 i2 i3 i6 i7 i9 i10 i11 w : Int32) (h0 : 0 ≤ w.toInt) (h1 : w.toInt ≤ 2097152) : F0_103 i0 i1 i2 i3 2097152 i6 i7 w i9 i10 i11 w = 1 := by
  have p := own_pick i2 w (i3 >>> ((3 : Int32) &&& 31)) (i3 >>> ((4 : Int32) &&& 31)) h0 h1
  unfold F0_103 F0_141
  generalize F4_0 i2 w (i3 >>> ((3 : Int32) &&& 31)) (i3 >>> ((4 : Int32) &&& 31)) = c at *
  have s := c_iadd w c
  have t := rng32 (w + c)
  have L := own_L
  by_cases h : (2097152 : Int32) < w + c
  · have e1 : own_rv w c = 0 := by unfold own_rv; rw [if_pos h]
    have e2 : own_rf w c = w := by unfold own_rf; rw [if_pos h]
    rw [if_pos h, e1, e2, if_pos rfl, if_pos rfl]; exact own_164 _ _ _ _ _ _ _ _ _ _ _ _ _ h0 h1
  · have e1 : own_rv w c = 1 := by unfold own_rv; rw [if_neg h]
    have e2 : own_rf w c = w + c := by unfold own_rf; rw [if_neg h]
    rw [if_neg h, e1, e2, if_pos rfl, if_neg (by decide)]
    rw [Int32.lt_iff_toInt_lt] at h
    exact own_164 _ _ _ _ _ _ _ _ _ _ _ _ _ (by omega) (by omega)
theorem own_law (p1 p2 p3 p4 : Int32) : F0_0 p1 p2 p3 p4 = 1 := by
  obtain ⟨h0, h1⟩ := own_mode0 p1
  unfold F0_0 F0_80
  generalize (p1 &&& (2147483647 : Int32)) % (2097153 : Int32) = w at *
  have L := own_L
  have z : (0 : Int32) + w = w := Int32.zero_add w
  have hn : ¬ (2097152 : Int32) < w := by rw [Int32.lt_iff_toInt_lt]; omega
  have a1 : own_rv 0 w = 1 := by unfold own_rv; rw [z, if_neg hn]
  have a2 : own_rf 0 w = w := by unfold own_rf; rw [z, if_neg hn]
  rw [a1, a2, if_neg (by decide)]
  have p := own_pick p2 w p4 (p4 >>> ((1 : Int32) &&& 31)) h0 h1
  generalize F4_0 p2 w p4 (p4 >>> ((1 : Int32) &&& 31)) = c at *
  have s := c_iadd w c
  have t := rng32 (w + c)
  by_cases h : (2097152 : Int32) < w + c
  · have e1 : own_rv w c = 0 := by unfold own_rv; rw [if_pos h]
    have e2 : own_rf w c = w := by unfold own_rf; rw [if_pos h]
    rw [if_pos h, e1, e2, if_pos rfl, if_pos rfl]; exact own_103 _ _ _ _ _ _ _ _ _ _ h0 h1
  · have e1 : own_rv w c = 1 := by unfold own_rv; rw [if_neg h]
    have e2 : own_rf w c = w + c := by unfold own_rf; rw [if_neg h]
    rw [if_neg h, e1, e2, if_pos rfl, if_neg (by decide)]
    rw [Int32.lt_iff_toInt_lt] at h
    exact own_103 _ _ _ _ _ _ _ _ _ _ (by omega) (by omega)
theorem ef_0 (m : MethodId) (p1 : Int32) (p2 : Int32) (p3 : Int32) (p4 : Int32) : entryFrame m #[(.int p1), (.int p2), (.int p3), (.int p4)] maxLocals = mkF m 0 #[.val (.int p1), .val (.int p2), .val (.int p3), .val (.int p4), .unset, .unset, .unset, .unset, .unset, .unset, .unset, .unset, .unset, .unset, .unset, .unset, .unset] [] := by first | (simp [entryFrame, mkF, argsToLocals, Value.category, maxLocals]; done) | rfl
theorem pn_0 : plainName "com/example/twinstream/twinstream/kafka/FetchBudgetReservePinLaw" = true := by first | (simp [plainName, overriddenIn]; done) | decide +kernel
set_option maxRecDepth 65536 in
set_option maxHeartbeats 40000000 in
theorem rm0 (l : Launch) (Z : State) (a0 : Array Value) (hw : ∀ d ∈ tables_1, d.before a0 Z = true) (ws : List Jvm.Cond) (p1 : Int32) (p2 : Int32) (p3 : Int32) (p4 : Int32) (h0 : Heap) (n0 : Nat) (Z0 : n0 ≤ h0.size) :
    MetFree l x (head1 (Jvm.Cond.code x code maxLocals ret :: ws) room_1) (fun a U => a = #[(.int p1), (.int p2), (.int p3), (.int p4)] ∧ Z.Warmed39 U.vm ∧ U.heap = h0) (fun _ _ _ _ _ => True) (fun _ U o U' => ∃ v L, o = .returned v ∧ (Ql n0 (.int 1)) v U'.heap L ∧ FrameEnd U o U' L room_1.cells room_1.slots) := by
  refine MetFree.of_bodySF (plainFor_of_name pn_0) hisR ?_
  intro p e s m args below meth c s₁ Bd hml0 hP hK
  obtain ⟨rfl, hZ, hh⟩ := hP
  have hown : s.vm.findClass "com/example/twinstream/twinstream/kafka/FetchBudgetReservePinLaw" = some m.cls := findClass_of_methodNamed Bd.named
  have hnm := (name_of_methodNamed Bd.named Bd.method).1
  have X0 : Stand p l e room_1 s m #[(.int p1), (.int p2), (.int p3), (.int p4)] below meth c s₁ [] 0 0 := Stand.of_body Bd
  have e0 : s₁.heap = h0 := by rw [← hh, Bd.state]; rfl
  have d := bk0_0 (n0 := n0) Bd.exec hZ hw Bd.bytes hml0 hown hnm Bd.returns (BodyLoose.notSynchronized Bd) X0 (Fr.nil n0) e0 p1 p2 p3 p4 Z0
  rw [own_law p1 p2 p3 p4] at d
  have d2 : Done p e below s room_1 (Ql n0 (.int 1)) s₁ (entryFrame m #[(.int p1), (.int p2), (.int p3), (.int p4)] maxLocals) := by rw [ef_0]; exact d
  exact d2
set_option maxRecDepth 65536 in
set_option maxHeartbeats 40000000 in
theorem comes_1 {Post : Tables → Env → Array Value → State → Outcome → State → Prop} (hpost : ∀ tb e args s v u, (limb_1_1.after args s (.returned v) u = true ∧ limb_1_2.after args s (.returned v) u = true ∧ True) → FrameEnd s (.returned v) u (Jvm.fieldLocs frame_1_writes args s ++ Jvm.arrayLocs frame_1_arrays args s ++ Jvm.staticLocs frame_1_statics s) 16 128 → Post tb e args s (.returned v) u) :
    ArmFor flags0 classFile x code maxLocals ret World_1 tables_1 room_1 Calls_1 rest_1 Pre_1 Post := by
  intro l hfl _ _ p e ha hc hk s m args below hf hA hF happ hP
  obtain ⟨hcalls, hrest, hpre⟩ := hP
  obtain ⟨-, -, -, hnamed, -, -, -, hat⟩ := (Spec.applies_iff hf).mp happ
  obtain ⟨hg, hn⟩ := and_e (Cond.before_iff.mp (show (Jvm.Cond.and given_1 narrow_1).before args s = true from hpre))
  obtain ⟨g0, r0⟩ := and_e hg
  obtain ⟨v0, r1⟩ := and_e r0
  obtain ⟨v1, r2⟩ := and_e r1
  obtain ⟨v2, r3⟩ := and_e r2
  obtain ⟨w0, w1, w2, w3, rfl⟩ : ∃ w0 w1 w2 w3 : Value, args = #[w0, w1, w2, w3] := by
    have hs : args.size = 4 := by simpa [Cond.value, given_1] using g0
    obtain ⟨L⟩ := args
    match L, hs with
    | [w0, w1, w2, w3], _ => exact ⟨w0, w1, w2, w3, rfl⟩
  have hw := fun d (hd : d ∈ tables_1) => atoms_spec (ws := Jvm.Cond.code x code maxLocals ret :: tables_1) hat d (List.mem_cons_of_mem _ hd)
  obtain ⟨i0, ei0⟩ := is_v v0
  obtain rfl : w0 = (.int i0) := Option.some.inj ei0
  obtain ⟨i1, ei1⟩ := is_v v1
  obtain rfl : w1 = (.int i1) := Option.some.inj ei1
  obtain ⟨i2, ei2⟩ := is_v v2
  obtain rfl : w2 = (.int i2) := Option.some.inj ei2
  obtain ⟨i3, ei3⟩ := is_v r3
  obtain rfl : w3 = (.int i3) := Option.some.inj ei3
  obtain ⟨n, o, h1, h2, h3, _, L, rfl, ⟨rfl, N⟩, hq⟩ := rm0 l s _ hw tables_1 i0 i1 i2 i3 s.heap s.heap.size (Nat.le_refl _) p e ha hc hk s m _ below hf ((Spec.applies_iff_loose hf).mp happ).1 ⟨rfl, State.Warmed39.refl s, rfl⟩ trivial
  refine ⟨n, _, h1, h2, h3, hpost _ _ _ _ _ _ ⟨Cond.after_iff.mpr rfl, Cond.after_iff.mpr (eq_i res_at (Term.int_eval (1)) rfl), trivial⟩ ⟨hq.1, hq.2.1, (hq.2.2.sift fun y hy => Or.inr (N y hy)).mono (by decide) (by decide)⟩⟩
theorem main_1_1 : Claimed_1_1 := comes_1 fun _ _ _ _ _ _ h hF => ⟨h.1, hF⟩
theorem main_1_2 : Claimed_1_2 := comes_1 fun _ _ _ _ _ _ h hF => ⟨h.2.1, hF⟩
end Jvm.Pilot.@@N@@
namespace Jvm.Pilot.@@N@@
open Jvm Jvm.ClassFile Sem Op Lib Jvm.Free Jvm.Stand Jvm.Pilot.@@N@@.Jvm.D
/-! MADE BY PROGRAM (witnessworld.py) out of the Statement's table words and the real class files: 10 classes; the members and pool entries that the words name. The judged class is class 1, her method 2. -/
namespace start1
open Jvm.ClassFile
def u (s : String) : CpInfo := .utf8 (stringToUtf16 s)
/-- a pool by its gaps: so many unusable entries, then the entry; so many at the end -/
def gap : Nat → List CpInfo → List CpInfo
  | 0, r => r
  | n + 1, r => .unusable :: gap n r
def poolList (es : List (Nat × CpInfo)) (last : Nat) : List CpInfo := es.foldr (fun e r => gap e.1 (e.2 :: r)) (gap last [])
def pool (es : List (Nat × CpInfo)) (last : Nat) : Array CpInfo := ⟨poolList es last⟩
def fileOf (pool : Array CpInfo) (this : Nat) (attrs : Array Attribute := #[]) (ms : Array MethodInfo := #[]) (fl : Nat := 33) (sup : Nat := 0) (ifs : Array Nat := #[]) (fds : Array FieldInfo := #[]) : ClassFile where
  minorVersion := 0
  majorVersion := 65
  constantPool := pool
  accessFlags := fl
  thisClass := this
  superClass := sup
  interfaces := ifs
  fields := fds
  methods := ms
  attributes := attrs
def plain (name : String) (sup : Option ClassId) : Class where
  name := name
  kind := .ordinary
  loader := none
  accessFlags := 33
  super := sup
  interfaces := #[]
  cf := none
  fields := #[]
  methods := #[]
  instanceTypes := #[]
  staticTypes := #[]
  resolved := #[]
  callSites := []
  init := .initialized
  statics := none
  mirror := none

def pool0 : Array CpInfo := pool [(5, u "<init>"), (0, u "()V"), (1, .class_ 10), (1, u "java/lang/Object")] 113

def k0c0 : Code := { maxStack := 0, maxLocals := 1, code := object_method_1_code, exceptionTable := #[], attributes := #[] }
def k0m0 : Method := { name := "<init>", desc := "()V", sig := { parameters := [], returnType := none }, accessFlags := 1, code := some k0c0 }
/-- java/lang/Object -/
def k0 : Class := { plain "java/lang/Object" none with
  accessFlags := 33
  interfaces := #[]
  cf := some (fileOf pool0 8 #[] #[{ accessFlags := 1, nameIndex := 5, descriptorIndex := 6, attributes := #[] }] 33 0 #[] #[])
  fields := #[]
  methods := #[k0m0]
  instanceTypes := #[]
  staticTypes := #[]
  resolved := Array.replicate 124 none
  statics := none }

def pool1 : Array CpInfo := pool [(2, .class_ 4), (0, .nameAndType 5 6), (0, u "java/lang/Object"), (0, u "<init>"), (0, u "()V"), (0, .class_ 8), (0, u "com/example/twinstream/twinstream/kafka/FetchBudget"), (0, .integer 2097152), (0, .methodref 11 12), (0, .class_ 13), (0, .nameAndType 14 15), (0, u "java/lang/Math"), (0, u "min"), (0, u "(II)I"), (0, .methodref 11 17), (0, .nameAndType 18 15), (0, u "max"), (0, .integer 2147483647), (0, .methodref 7 3), (0, .methodref 7 22), (0, .nameAndType 23 24), (0, u "reserve"), (0, u "(I)Z"), (0, .methodref 26 27), (0, .class_ 28), (0, .nameAndType 29 30), (0, u "com/example/twinstream/twinstream/kafka/FetchBudgetReservePinLaw"), (0, u "pick"), (0, u "(IIII)I"), (3, u "law"), (0, u "(IIII)Z")] 2

def k1m0 : Method := { name := "<init>", desc := "()V", sig := { parameters := [], returnType := none }, accessFlags := 1, code := none }
def k1c1 : Code := { maxStack := 5, maxLocals := 5, code := method_2_code, exceptionTable := #[], attributes := #[] }
def k1m1 : Method := { name := "pick", desc := "(IIII)I", sig := { parameters := [.int, .int, .int, .int], returnType := some .int }, accessFlags := 10, code := some k1c1 }
def k1c2 : Code := { maxStack := 5, maxLocals := 17, code := code, exceptionTable := #[], attributes := #[] }
def k1m2 : Method := { name := "law", desc := "(IIII)Z", sig := { parameters := [.int, .int, .int, .int], returnType := some .boolean }, accessFlags := 9, code := some k1c2 }
/-- com/example/twinstream/twinstream/kafka/FetchBudgetReservePinLaw -/
def k1 : Class := { plain "com/example/twinstream/twinstream/kafka/FetchBudgetReservePinLaw" (some 0) with
  accessFlags := 49
  interfaces := #[]
  cf := some (fileOf pool1 26 #[] #[{ accessFlags := 1, nameIndex := 5, descriptorIndex := 6, attributes := #[] }, { accessFlags := 10, nameIndex := 29, descriptorIndex := 30, attributes := #[] }, { accessFlags := 9, nameIndex := 34, descriptorIndex := 35, attributes := #[] }] 49 2 #[] #[])
  fields := #[]
  methods := #[k1m0, k1m1, k1m2]
  instanceTypes := #[]
  staticTypes := #[]
  resolved := Array.replicate 38 none
  statics := none }

def pool2 : Array CpInfo := pool [(1, .methodref 2 3), (0, .class_ 4), (0, .nameAndType 5 6), (0, u "java/lang/Object"), (0, u "<init>"), (0, u "()V"), (0, .class_ 8), (0, u "com/example/twinstream/twinstream/kafka/FetchBudget"), (2, .integer 2097152), (13, .fieldref 7 26), (0, .nameAndType 27 28), (0, u "reserved"), (0, u "I"), (0, u "BYTES"), (1, u "MAX_SHARE"), (0, u "MIN_SHARE"), (3, u "reserve"), (0, u "(I)Z")] 5

def k2c0 : Code := { maxStack := 1, maxLocals := 1, code := prog_12_method_1_code, exceptionTable := #[], attributes := #[] }
def k2m0 : Method := { name := "<init>", desc := "()V", sig := { parameters := [], returnType := none }, accessFlags := 0, code := some k2c0 }
def k2c1 : Code := { maxStack := 3, maxLocals := 3, code := prog_12_method_4_code, exceptionTable := #[], attributes := #[] }
def k2m1 : Method := { name := "reserve", desc := "(I)Z", sig := { parameters := [.int], returnType := some .boolean }, accessFlags := 0, code := some k2c1 }
/-- com/example/twinstream/twinstream/kafka/FetchBudget -/
def k2 : Class := { plain "com/example/twinstream/twinstream/kafka/FetchBudget" (some 0) with
  accessFlags := 48
  interfaces := #[]
  cf := some (fileOf pool2 7 #[] #[{ accessFlags := 0, nameIndex := 5, descriptorIndex := 6, attributes := #[] }, { accessFlags := 0, nameIndex := 36, descriptorIndex := 37, attributes := #[] }] 48 2 #[] #[{ accessFlags := 24, nameIndex := 29, descriptorIndex := 28, attributes := #[] }, { accessFlags := 24, nameIndex := 31, descriptorIndex := 28, attributes := #[] }, { accessFlags := 24, nameIndex := 32, descriptorIndex := 28, attributes := #[] }, { accessFlags := 2, nameIndex := 27, descriptorIndex := 28, attributes := #[] }])
  fields := #[{ name := "BYTES", type := .int, accessFlags := 24, slot := 0, constantValue := 0 }, { name := "MAX_SHARE", type := .int, accessFlags := 24, slot := 1, constantValue := 0 }, { name := "MIN_SHARE", type := .int, accessFlags := 24, slot := 2, constantValue := 0 }, { name := "reserved", type := .int, accessFlags := 2, slot := 0, constantValue := 0 }]
  methods := #[k2m0, k2m1]
  instanceTypes := #[.int]
  staticTypes := #[.int, .int, .int]
  resolved := Array.replicate 43 none
  statics := none }

def pool3 : Array CpInfo := pool [(1, .class_ 2), (0, u "java/lang/Math"), (1, .class_ 6), (1, u "java/lang/Object"), (0, u "<init>"), (0, u "()V"), (89, .class_ 100), (1, u "java/lang/Math$RandomNumberGeneratorHolder"), (71, u "negativeZeroFloatBits"), (0, u "J"), (2, u "negativeZeroDoubleBits"), (21, u "max"), (2, u "min"), (43, u "$assertionsDisabled"), (0, u "Z"), (88, u "(II)I"), (2, u "twoToTheDoubleScaleDown"), (0, u "D"), (4, u "twoToTheDoubleScaleUp"), (9, u "E"), (3, u "PI"), (2, u "TAU"), (2, u "DEGREES_TO_RADIANS"), (0, u "RADIANS_TO_DEGREES")] 94

def k3m0 : Method := { name := "<init>", desc := "()V", sig := { parameters := [], returnType := none }, accessFlags := 2, code := none }
def k3c1 : Code := { maxStack := 2, maxLocals := 2, code := jdk_29_method_65_code, exceptionTable := #[], attributes := #[] }
def k3m1 : Method := { name := "max", desc := "(II)I", sig := { parameters := [.int, .int], returnType := some .int }, accessFlags := 9, code := some k3c1 }
def k3c2 : Code := { maxStack := 2, maxLocals := 2, code := jdk_29_method_69_code, exceptionTable := #[], attributes := #[] }
def k3m2 : Method := { name := "min", desc := "(II)I", sig := { parameters := [.int, .int], returnType := some .int }, accessFlags := 9, code := some k3c2 }
/-- java/lang/Math -/
def k3 : Class := { plain "java/lang/Math" (some 0) with
  accessFlags := 49
  interfaces := #[]
  cf := some (fileOf pool3 1 #[.nestMembers #[98]] #[{ accessFlags := 2, nameIndex := 7, descriptorIndex := 8, attributes := #[] }, { accessFlags := 9, nameIndex := 198, descriptorIndex := 335, attributes := #[] }, { accessFlags := 9, nameIndex := 201, descriptorIndex := 335, attributes := #[] }] 49 4 #[] #[{ accessFlags := 25, nameIndex := 354, descriptorIndex := 339, attributes := #[] }, { accessFlags := 25, nameIndex := 358, descriptorIndex := 339, attributes := #[] }, { accessFlags := 25, nameIndex := 361, descriptorIndex := 339, attributes := #[] }, { accessFlags := 26, nameIndex := 364, descriptorIndex := 339, attributes := #[] }, { accessFlags := 26, nameIndex := 365, descriptorIndex := 339, attributes := #[] }, { accessFlags := 26, nameIndex := 172, descriptorIndex := 173, attributes := #[] }, { accessFlags := 26, nameIndex := 176, descriptorIndex := 173, attributes := #[] }, { accessFlags := 8, nameIndex := 344, descriptorIndex := 339, attributes := #[] }, { accessFlags := 8, nameIndex := 338, descriptorIndex := 339, attributes := #[] }, { accessFlags := 4120, nameIndex := 245, descriptorIndex := 246, attributes := #[] }])
  fields := #[{ name := "E", type := .double, accessFlags := 25, slot := 0, constantValue := 0 }, { name := "PI", type := .double, accessFlags := 25, slot := 1, constantValue := 0 }, { name := "TAU", type := .double, accessFlags := 25, slot := 2, constantValue := 0 }, { name := "DEGREES_TO_RADIANS", type := .double, accessFlags := 26, slot := 3, constantValue := 0 }, { name := "RADIANS_TO_DEGREES", type := .double, accessFlags := 26, slot := 4, constantValue := 0 }, { name := "negativeZeroFloatBits", type := .long, accessFlags := 26, slot := 5, constantValue := 0 }, { name := "negativeZeroDoubleBits", type := .long, accessFlags := 26, slot := 6, constantValue := 0 }, { name := "twoToTheDoubleScaleUp", type := .double, accessFlags := 8, slot := 7, constantValue := 0 }, { name := "twoToTheDoubleScaleDown", type := .double, accessFlags := 8, slot := 8, constantValue := 0 }, { name := "$assertionsDisabled", type := .boolean, accessFlags := 4120, slot := 9, constantValue := 0 }]
  methods := #[k3m0, k3m1, k3m2]
  instanceTypes := #[]
  staticTypes := #[.double, .double, .double, .double, .double, .long, .long, .double, .double, .boolean]
  resolved := Array.replicate 460 none
  statics := none }

def pool4 : Array CpInfo := pool [(1, u "java/lang/Cloneable"), (0, .class_ 1), (0, u "java/lang/Object"), (0, .class_ 3)] 3

/-- java/lang/Cloneable -/
def k4 : Class := { plain "java/lang/Cloneable" (some 0) with
  accessFlags := 1537
  interfaces := #[]
  cf := some (fileOf pool4 2 #[] #[] 1537 4 #[] #[])
  fields := #[]
  methods := #[]
  instanceTypes := #[]
  staticTypes := #[]
  resolved := Array.replicate 8 none
  statics := none }

def pool5 : Array CpInfo := pool [(1, u "java/io/Serializable"), (0, .class_ 1), (0, u "java/lang/Object"), (0, .class_ 3)] 3

/-- java/io/Serializable -/
def k5 : Class := { plain "java/io/Serializable" (some 0) with
  accessFlags := 1537
  interfaces := #[]
  cf := some (fileOf pool5 2 #[] #[] 1537 4 #[] #[])
  fields := #[]
  methods := #[]
  instanceTypes := #[]
  staticTypes := #[]
  resolved := Array.replicate 8 none
  statics := none }

/-- the primitive byte -/
def k6 : Class := { plain "byte" none with kind := .primitive 'B', accessFlags := 0x411 }
/-- [B -/
def k7 : Class := { plain "[B" (some 0) with kind := .array 6 .byte, interfaces := #[4, 5], accessFlags := 1041 }

/-- the primitive int -/
def k8 : Class := { plain "int" none with kind := .primitive 'I', accessFlags := 0x411 }
/-- [I -/
def k9 : Class := { plain "[I" (some 0) with kind := .array 8 .int, interfaces := #[4, 5], accessFlags := 1041 }

def heap : Heap := #[]
def classes : Array Class := #[k0, k1, k2, k3, k4, k5, k6, k7, k8, k9]
def interned : List (Array UInt16 × Addr) := []
def slotsUsed : Nat := 0
def theMethod : MethodId := ⟨1, 2⟩
def args0 : Array Value := #[.int 5, .int 5, .int 5, .int 5]
def aboutOver (below : List Frame) : State where
  vm := { classes := classes, interned := interned.toArray }
  heap := heap
  slotsUsed := slotsUsed
  threads := #[{ frames := .invoking theMethod args0 :: below }]
def below0 : List Frame := [.native { method := ⟨0, 0⟩, args := #[] }]
def about1 : State := aboutOver below0
def p0 : Program := .bare "" "" ""
def e0 : Env := launch0.env 0 0 0
theorem w_frames : about1.frames = Frame.invoking theMethod args0 :: below0 := rfl
set_option maxRecDepth 65536 in
theorem w_args : argsFit about1.vm theMethod args0 = true := by decide +kernel
set_option maxRecDepth 65536 in
theorem w_heap : heapFits about1 = true := by decide +kernel
set_option maxRecDepth 65536 in
theorem w_runnable : about1.curStatus? = some .runnable := by decide +kernel
set_option maxRecDepth 65536 in
theorem w_alone : about1.alone = true := by decide +kernel
set_option maxRecDepth 65536 in
theorem w_named : about1.methodNamed? x = some theMethod := by decide +kernel
set_option maxRecDepth 65536 in
theorem w_hears : about1.hears theMethod below0 = true := by decide +kernel
set_option maxRecDepth 65536 in
theorem w_ripe : about1.ripe theMethod args0 below0 = true := by decide +kernel
theorem w_running : about1.status = .running := rfl
set_option maxRecDepth 65536 in
theorem w_room : about1.hasRoom e0.platform room_1 = true :=
  launch0.hasRoom_least _ room_1 (by decide +kernel) (by decide +kernel) (by decide +kernel) (by decide +kernel) (by decide +kernel) (by decide +kernel)
theorem allAtoms_all (ts : List Jvm.Cond) (a : Array Jvm.Value) (st : Jvm.State) : (allAtoms ts).before a st = ts.all (fun c => c.before a st) := by
  induction ts with
  | nil => rfl
  | cons c t ih =>
    show (Jvm.Cond.and c (allAtoms t)).before a st = _
    rw [Jvm.Cond.before_and, ih, List.all_cons]
def words1 : List Jvm.Cond := Jvm.Cond.code x code maxLocals ret :: tables_1
/-- a 'code' word, met by the world's own term for the bytes: nothing is compared byte by byte -/
theorem code_word {y : MethodName} {bytes : ByteArray} {mx : Nat} {rt : Option FieldType} {a : Array Value} {s : State} {m : MethodId} {meth : Method} {c : Code} (h1 : s.methodNamed? y = some m) (h2 : s.vm.method? m = some meth) (h3 : meth.code = some c) (h4 : c.code = bytes)
    (h5 : (c.maxLocals == mx && c.exceptionTable.isEmpty && decide (c.maxStack ≤ mostOperands) && decide (meth.sig.returnType = rt) && !meth.locks && decide (parseMethodDescriptor y.desc = some meth.sig)) = true) : (Jvm.Cond.code y bytes mx rt).before a s = true := by
  simp only [Bool.and_eq_true, beq_iff_eq, Bool.not_eq_true', decide_eq_true_eq] at h5
  obtain ⟨⟨⟨⟨⟨g1, g2⟩, g3⟩, g4⟩, g5⟩, g6⟩ := h5
  simp [Cond.before, Cond.holds, Cond.value, h1, h2, h3, h4, g1, g2, g3, g4, g5, g6]
def isCode : Jvm.Cond → Bool
  | .code _ _ _ _ => true
  | _ => false
theorem all_split {L : List Jvm.Cond} {P : Jvm.Cond → Bool} (h1 : L.all (fun c => isCode c || P c) = true) (h2 : ∀ c ∈ L.filter isCode, P c = true) : L.all P = true := by
  refine List.all_eq_true.mpr fun c hc => ?_
  have h := List.all_eq_true.mp h1 c hc
  rcases Bool.eq_false_or_eq_true (isCode c) with hi | hi
  · exact h2 c (List.mem_filter.mpr ⟨hc, hi⟩)
  · simpa [hi] using h
set_option maxRecDepth 65536 in
theorem w_c0 : (Jvm.Cond.code x code maxLocals ret).before args0 about1 = true := code_word (m := ⟨1, 2⟩) (meth := k1m2) (c := k1c2) (by decide +kernel) rfl rfl rfl (by decide +kernel)
set_option maxRecDepth 65536 in
theorem w_c1 : (Jvm.Cond.code ({ cls := "com/example/twinstream/twinstream/kafka/FetchBudget", name := "<init>", desc := "()V" } : Jvm.MethodName) prog_12_method_1_code (1 : Nat) (Option.none : Option Jvm.ClassFile.FieldType)).before args0 about1 = true := code_word (m := ⟨2, 0⟩) (meth := k2m0) (c := k2c0) (by decide +kernel) rfl rfl rfl (by decide +kernel)
set_option maxRecDepth 65536 in
theorem w_c2 : (Jvm.Cond.code ({ cls := "java/lang/Object", name := "<init>", desc := "()V" } : Jvm.MethodName) object_method_1_code (1 : Nat) (Option.none : Option Jvm.ClassFile.FieldType)).before args0 about1 = true := code_word (m := ⟨0, 0⟩) (meth := k0m0) (c := k0c0) (by decide +kernel) rfl rfl rfl (by decide +kernel)
set_option maxRecDepth 65536 in
theorem w_c3 : (Jvm.Cond.code ({ cls := "com/example/twinstream/twinstream/kafka/FetchBudget", name := "reserve", desc := "(I)Z" } : Jvm.MethodName) prog_12_method_4_code (3 : Nat) (Option.some Jvm.ClassFile.FieldType.boolean)).before args0 about1 = true := code_word (m := ⟨2, 1⟩) (meth := k2m1) (c := k2c1) (by decide +kernel) rfl rfl rfl (by decide +kernel)
set_option maxRecDepth 65536 in
theorem w_c4 : (Jvm.Cond.code ({ cls := "com/example/twinstream/twinstream/kafka/FetchBudgetReservePinLaw", name := "pick", desc := "(IIII)I" } : Jvm.MethodName) method_2_code (5 : Nat) (Option.some Jvm.ClassFile.FieldType.int)).before args0 about1 = true := code_word (m := ⟨1, 1⟩) (meth := k1m1) (c := k1c1) (by decide +kernel) rfl rfl rfl (by decide +kernel)
set_option maxRecDepth 65536 in
theorem w_c5 : (Jvm.Cond.code ({ cls := "java/lang/Math", name := "min", desc := "(II)I" } : Jvm.MethodName) jdk_29_method_69_code (2 : Nat) (Option.some Jvm.ClassFile.FieldType.int)).before args0 about1 = true := code_word (m := ⟨3, 2⟩) (meth := k3m2) (c := k3c2) (by decide +kernel) rfl rfl rfl (by decide +kernel)
set_option maxRecDepth 65536 in
theorem w_c6 : (Jvm.Cond.code ({ cls := "java/lang/Math", name := "max", desc := "(II)I" } : Jvm.MethodName) jdk_29_method_65_code (2 : Nat) (Option.some Jvm.ClassFile.FieldType.int)).before args0 about1 = true := code_word (m := ⟨3, 1⟩) (meth := k3m1) (c := k3c1) (by decide +kernel) rfl rfl rfl (by decide +kernel)
def codes1 : List Jvm.Cond := [Jvm.Cond.code x code maxLocals ret, Jvm.Cond.code ({ cls := "com/example/twinstream/twinstream/kafka/FetchBudget", name := "<init>", desc := "()V" } : Jvm.MethodName) prog_12_method_1_code (1 : Nat) (Option.none : Option Jvm.ClassFile.FieldType), Jvm.Cond.code ({ cls := "java/lang/Object", name := "<init>", desc := "()V" } : Jvm.MethodName) object_method_1_code (1 : Nat) (Option.none : Option Jvm.ClassFile.FieldType), Jvm.Cond.code ({ cls := "com/example/twinstream/twinstream/kafka/FetchBudget", name := "reserve", desc := "(I)Z" } : Jvm.MethodName) prog_12_method_4_code (3 : Nat) (Option.some Jvm.ClassFile.FieldType.boolean), Jvm.Cond.code ({ cls := "com/example/twinstream/twinstream/kafka/FetchBudgetReservePinLaw", name := "pick", desc := "(IIII)I" } : Jvm.MethodName) method_2_code (5 : Nat) (Option.some Jvm.ClassFile.FieldType.int), Jvm.Cond.code ({ cls := "java/lang/Math", name := "min", desc := "(II)I" } : Jvm.MethodName) jdk_29_method_69_code (2 : Nat) (Option.some Jvm.ClassFile.FieldType.int), Jvm.Cond.code ({ cls := "java/lang/Math", name := "max", desc := "(II)I" } : Jvm.MethodName) jdk_29_method_65_code (2 : Nat) (Option.some Jvm.ClassFile.FieldType.int)]
set_option maxRecDepth 65536 in
theorem codes_eq : words1.filter isCode = codes1 := rfl
theorem w_codes : ∀ c ∈ words1.filter isCode, c.before args0 about1 = true := by
  rw [codes_eq]
  intro c hc
  simp only [codes1, List.mem_cons, List.not_mem_nil, or_false] at hc
  rcases hc with rfl | rfl | rfl | rfl | rfl | rfl | rfl
  · exact w_c0
  · exact w_c1
  · exact w_c2
  · exact w_c3
  · exact w_c4
  · exact w_c5
  · exact w_c6
set_option maxRecDepth 65536 in
theorem w_t1 : (words1.take 24).all (fun c => isCode c || c.before args0 about1) = true := by decide +kernel
set_option maxRecDepth 65536 in
theorem w_t2 : (words1.drop 24).all (fun c => isCode c || c.before args0 about1) = true := by decide +kernel
theorem w_tables : (allAtoms (Jvm.Cond.code x code maxLocals ret :: tables_1)).before args0 about1 = true := by
  rw [allAtoms_all]
  show words1.all (fun c => c.before args0 about1) = true
  refine all_split ?_ w_codes
  rw [← List.take_append_drop 24 words1, List.all_append, w_t1, w_t2]
  rfl
set_option maxRecDepth 65536 in
theorem w_case : (Jvm.Cond.and given_1 narrow_1).before args0 about1 = true := by decide +kernel
theorem w_applies : (headSpec (Jvm.Cond.code x code maxLocals ret :: tables_1) room_1).applies x e0.platform about1 = true :=
  (Spec.applies_iff w_frames).mpr ⟨w_running, w_runnable, w_alone, w_named, w_hears, w_ripe, w_room, w_tables⟩
theorem atStart : AtStart classFile x code maxLocals ret World_1 tables_1 room_1 Calls_1 rest_1 Pre_1 launch0 p0 e0 about1 theMethod args0 below0 :=
  ⟨lists_1, trivial, launch0.admits_env _ _ _, launch0.least_env, fairChoices_fair.cas, fairChoices_fair.clock, w_frames, w_args, w_heap, w_applies, trivial, trivial, w_case⟩
end start1
theorem witness_1 : WitnessClaimed_1 := ⟨start1.p0, start1.e0, start1.about1, start1.theMethod, start1.args0, start1.below0, start1.atStart⟩
end Jvm.Pilot.@@N@@
