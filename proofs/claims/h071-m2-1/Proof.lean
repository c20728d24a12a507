import JvmDerived
import JvmDerived.Pilot.@@N@@Statement
import JvmDerived.Pilot.@@N@@Code
set_option linter.unusedVariables false
set_option linter.unusedSimpArgs false
namespace Jvm.RoadKit
open Sem ClassFile Op Lib Jvm.Stand Jvm.Free Jvm.LawKit
section New
variable {p : Program} {l : Launch} {e : Env} {R : Room} {s : State} {m : MethodId} {args : Array Value} {below : List Frame} {meth : Method} {c : Code} {T : State} {locs : List Loc} {cells slots : Nat}
theorem retI (X : Stand p l e R s m args below meth c T locs cells slots) (hx : p.tables.exec = Jvm.exec) {pc : Nat} {Ls : Array Slot} {z : Int32} {rest : List Value} (hret : meth.sig.returnType = some .int) (hd : decode c.code pc = .ok (.ireturn, 1)) {fs : List Frame}
    (hl : ∀ (f : JFrame) (acts : List Action), f.method = m → f.locked = none → f.entered = [] → (doReturn e (T.setTop f) acts (some (.int z))).1 = T.setFrames fs) : Steps p.tables e below (T.setTop (mkF m pc Ls (.int z :: rest))) (T.setFrames fs) := by
  have hm' : T.vm.method? m = some meth := X.method'
  have hn : narrow .int (.int z) = .int z := rfl
  show Steps p.tables e below (T.setTop { method := m, pc := pc, locals := Ls, stack := _ :: rest, locked := none }) _
  jvm_step X.here [X.here.top, hx, hd, hm', hret, hn]
  first | (intro acts; rw [hl _ acts rfl rfl rfl]) | rw [hl _ _ rfl rfl rfl]
  exact Steps.refl _
theorem retA (X : Stand p l e R s m args below meth c T locs cells slots) (hx : p.tables.exec = Jvm.exec) {pc : Nat} {Ls : Array Slot} {z : Addr} {rest : List Value} {t : FieldType} (hret : meth.sig.returnType = some t) (ht : t.isReference = true) (hd : decode c.code pc = .ok (.areturn, 1)) {fs : List Frame}
    (hl : ∀ (f : JFrame) (acts : List Action), f.method = m → f.locked = none → f.entered = [] → (doReturn e (T.setTop f) acts (some (.ref z))).1 = T.setFrames fs) : Steps p.tables e below (T.setTop (mkF m pc Ls (.ref z :: rest))) (T.setFrames fs) := by
  have hm' : T.vm.method? m = some meth := X.method'
  show Steps p.tables e below (T.setTop { method := m, pc := pc, locals := Ls, stack := _ :: rest, locked := none }) _
  jvm_step X.here [X.here.top, hx, hd, hm', hret, ht, Value.isRef]
  first | (intro acts; rw [hl _ acts rfl rfl rfl]) | rw [hl _ _ rfl rfl rfl]
  exact Steps.refl _
theorem retJ (X : Stand p l e R s m args below meth c T locs cells slots) (hx : p.tables.exec = Jvm.exec) {pc : Nat} {Ls : Array Slot} {z : Int64} {rest : List Value} (hret : meth.sig.returnType = some .long) (hd : decode c.code pc = .ok (.lreturn, 1)) {fs : List Frame}
    (hl : ∀ (f : JFrame) (acts : List Action), f.method = m → f.locked = none → f.entered = [] → (doReturn e (T.setTop f) acts (some (.long z))).1 = T.setFrames fs) : Steps p.tables e below (T.setTop (mkF m pc Ls (.long z :: rest))) (T.setFrames fs) := by
  have hm' : T.vm.method? m = some meth := X.method'
  show Steps p.tables e below (T.setTop { method := m, pc := pc, locals := Ls, stack := _ :: rest, locked := none }) _
  jvm_step X.here [X.here.top, hx, hd, hm', hret]
  first | (intro acts; rw [hl _ acts rfl rfl rfl]) | rw [hl _ _ rfl rfl rfl]
  exact Steps.refl _
end New
end Jvm.RoadKit
namespace Jvm.Pilot.@@N@@
open Jvm Jvm.ClassFile Sem Op Lib Jvm.Free Jvm.Stand Jvm.LawKit Jvm.RoadKit Bundle Jvm.Pilot.@@N@@.Jvm.D
/-! My own frame of a walk: 'Done' says: from this frame the run ends, and Q holds of what came back, of the heap, and of the places written. -/
def Done (p : Program) (e : Env) (below : List Frame) (s : State) (R : Room) (Q : Option Value → Heap → List Loc → Prop) (T : State) (g : JFrame) : Prop :=
  ∃ s₂ o, Steps p.tables e below (T.setTop g) s₂ ∧ s₂.status = .running ∧ Ended s₂ below o ∧ ∃ v L, o = .returned v ∧ Q v s₂.heap L ∧ FrameEnd s o s₂ L R.cells R.slots
def Qp (h0 : Heap) (n0 : Nat) (z : Value) (v : Option Value) (h : Heap) (L : List Loc) : Prop := v = some z ∧ Fr n0 L ∧ h = h0
def Qv (h0 : Heap) (n0 : Nat) (v : Option Value) (h : Heap) (L : List Loc) : Prop := v = none ∧ Fr n0 L ∧ h = h0
def Ql (n0 : Nat) (z : Value) (v : Option Value) (h : Heap) (L : List Loc) : Prop := v = some z ∧ Fr n0 L
theorem Done.of {p : Program} {e : Env} {below : List Frame} {s : State} {R : Room} {Q : Option Value → Heap → List Loc → Prop} {T T' : State} {g g' : JFrame}
    (st : ∀ t, Steps p.tables e below (T'.setTop g') t → Steps p.tables e below (T.setTop g) t) (d : Done p e below s R Q T' g') : Done p e below s R Q T g := by
  obtain ⟨s₂, o, h1, h2⟩ := d
  exact ⟨s₂, o, st _ h1, h2⟩
section Ends
variable {p : Program} {l : Launch} {e : Env} {R : Room} {s : State} {m : MethodId} {args : Array Value} {below : List Frame} {meth : Method} {c : Code} {T : State} {locs : List Loc} {cells slots : Nat} {Q : Option Value → Heap → List Loc → Prop}
theorem doneI (X : Stand p l e R s m args below meth c T locs cells slots) (hx : p.tables.exec = Jvm.exec) {pc : Nat} {Ls : Array Slot} {z : Int32} {rest : List Value} (hret : meth.sig.returnType = some .int) (hlk : meth.locks = false) (hd : decode c.code pc = .ok (.ireturn, 1))
    (hQ : Q (some (.int z)) T.heap locs) (hc : cells ≤ R.cells) (hs : slots ≤ R.slots) : Done p e below s R Q T (mkF m pc Ls (.int z :: rest)) := by
  obtain ⟨fs, hr, hrun, hended, hW, hsame⟩ := X.leave (v := some (.int z)) (fun h => by rw [hret] at h; cases h) hlk
  exact ⟨_, _, retI X hx hret hd hr, hrun, hended, _, _, rfl, hQ, ⟨_, rfl⟩, hW, hsame.mono hc hs⟩
theorem doneN (t : FieldType) (X : Stand p l e R s m args below meth c T locs cells slots) (ht : t = .boolean ∨ t = .byte ∨ t = .char ∨ t = .short) (hx : p.tables.exec = Jvm.exec) {pc : Nat} {Ls : Array Slot} {z : Int32} {rest : List Value} (hret : meth.sig.returnType = some t) (hlk : meth.locks = false) (hd : decode c.code pc = .ok (.ireturn, 1))
    (hQ : Q (some (.int (nar t z))) T.heap locs) (hc : cells ≤ R.cells) (hs : slots ≤ R.slots) : Done p e below s R Q T (mkF m pc Ls (.int z :: rest)) := by
  obtain ⟨fs, hr, hrun, hended, hW, hsame⟩ := X.leave (v := some (.int (nar t z))) (fun h => by rw [hret] at h; cases h) hlk
  exact ⟨_, _, retN X hx hret ht hd hr, hrun, hended, _, _, rfl, hQ, ⟨_, rfl⟩, hW, hsame.mono hc hs⟩
theorem doneJ (X : Stand p l e R s m args below meth c T locs cells slots) (hx : p.tables.exec = Jvm.exec) {pc : Nat} {Ls : Array Slot} {z : Int64} {rest : List Value} (hret : meth.sig.returnType = some .long) (hlk : meth.locks = false) (hd : decode c.code pc = .ok (.lreturn, 1))
    (hQ : Q (some (.long z)) T.heap locs) (hc : cells ≤ R.cells) (hs : slots ≤ R.slots) : Done p e below s R Q T (mkF m pc Ls (.long z :: rest)) := by
  obtain ⟨fs, hr, hrun, hended, hW, hsame⟩ := X.leave (v := some (.long z)) (fun h => by rw [hret] at h; cases h) hlk
  exact ⟨_, _, retJ X hx hret hd hr, hrun, hended, _, _, rfl, hQ, ⟨_, rfl⟩, hW, hsame.mono hc hs⟩
theorem doneA (X : Stand p l e R s m args below meth c T locs cells slots) (hx : p.tables.exec = Jvm.exec) {pc : Nat} {Ls : Array Slot} {z : Addr} {rest : List Value} {t : FieldType} (hret : meth.sig.returnType = some t) (ht : t.isReference = true) (hlk : meth.locks = false) (hd : decode c.code pc = .ok (.areturn, 1))
    (hQ : Q (some (.ref z)) T.heap locs) (hc : cells ≤ R.cells) (hs : slots ≤ R.slots) : Done p e below s R Q T (mkF m pc Ls (.ref z :: rest)) := by
  obtain ⟨fs, hr, hrun, hended, hW, hsame⟩ := X.leave (v := some (.ref z)) (fun h => by rw [hret] at h; cases h) hlk
  exact ⟨_, _, retA X hx hret ht hd hr, hrun, hended, _, _, rfl, hQ, ⟨_, rfl⟩, hW, hsame.mono hc hs⟩
theorem doneV (X : Stand p l e R s m args below meth c T locs cells slots) (hx : p.tables.exec = Jvm.exec) {pc : Nat} {Ls : Array Slot} (hret : meth.sig.returnType = none) (hlk : meth.locks = false) (hd : decode c.code pc = .ok (.return_, 1))
    (hQ : Q none T.heap locs) (hc : cells ≤ R.cells) (hs : slots ≤ R.slots) : Done p e below s R Q T (mkF m pc Ls []) := by
  obtain ⟨fs, hr, hrun, hended, hW, hsame⟩ := X.leave (v := none) (fun _ => rfl) hlk
  exact ⟨_, _, X.returnOut hx hret hd hr, hrun, hended, _, _, rfl, hQ, ⟨_, rfl⟩, hW, hsame.mono hc hs⟩
end Ends
theorem lcLt_t {x y : Int64} (h : x < y) : ifCond.holds .lt (lcmpW x y) = true ∧ ifCond.holds .ge (lcmpW x y) = false := ⟨(if0 _ _).trans (tlt ((lw_lt x y).mpr h)).1, (if0 _ _).trans (tlt ((lw_lt x y).mpr h)).2.1⟩
theorem lcLt_f {x y : Int64} (h : ¬ x < y) : ifCond.holds .lt (lcmpW x y) = false ∧ ifCond.holds .ge (lcmpW x y) = true := ⟨(if0 _ _).trans (flt (fun q => h ((lw_lt x y).mp q))).1, (if0 _ _).trans (flt (fun q => h ((lw_lt x y).mp q))).2.1⟩
theorem lcGt_t {x y : Int64} (h : y < x) : ifCond.holds .gt (lcmpW x y) = true ∧ ifCond.holds .le (lcmpW x y) = false := ⟨(if0 _ _).trans (tlt ((lw_gt x y).mpr h)).2.2.1, (if0 _ _).trans (tlt ((lw_gt x y).mpr h)).2.2.2⟩
theorem lcGt_f {x y : Int64} (h : ¬ y < x) : ifCond.holds .gt (lcmpW x y) = false ∧ ifCond.holds .le (lcmpW x y) = true := ⟨(if0 _ _).trans (flt (fun q => h ((lw_gt x y).mp q))).2.2.1, (if0 _ _).trans (flt (fun q => h ((lw_gt x y).mp q))).2.2.2⟩
theorem lcEq_t {x y : Int64} (h : x = y) : ifCond.holds .eq (lcmpW x y) = true ∧ ifCond.holds .ne (lcmpW x y) = false := ⟨(if0 _ _).trans (teq ((lw_eq x y).mpr h)).1, (if0 _ _).trans (teq ((lw_eq x y).mpr h)).2⟩
theorem lcEq_f {x y : Int64} (h : ¬ x = y) : ifCond.holds .eq (lcmpW x y) = false ∧ ifCond.holds .ne (lcmpW x y) = true := ⟨(if0 _ _).trans (feq (fun q => h ((lw_eq x y).mp q))).1, (if0 _ _).trans (feq (fun q => h ((lw_eq x y).mp q))).2⟩
theorem own_selP {s : State} {args : Array Value} {y : MethodName} {n : Nat} (hins : (Cond.instantiable y.cls n).before args s = true) (hpriv : (Cond.privateMethod y).before args s = true) (hinst : (Cond.instanceMethod y).before args s = true) (hy : y.cls ≠ "java/lang/invoke/MethodHandle" ∧ y.cls ≠ "java/lang/invoke/VarHandle") :
    (Cond.selects y.cls y y).before args s = true := by
  obtain ⟨c, k, hc, hk, -, hniab, -, -⟩ := Cond.instantiable_spec hins
  exact selects_self_of_private hc hk (Bool.or_eq_false_iff.mp hniab).1 (Cond.privateMethod_at hpriv) hinst hy
theorem own_hat {c : Cell} {vs : List Int32} {j : Int32} (H : Has c (vs.map Value.int) (.int (0 : Int32))) (hin : ¬ (j < 0 ∨ c.slots.size ≤ j.toNatClampNeg)) : c.slots[j.toNatClampNeg]? = some (.int (vs.getD j.toNatClampNeg 0)) := by
  rw [H j.toNatClampNeg (Nat.lt_of_not_le fun q => hin (Or.inr q))]
  simp only [List.getD_eq_getElem?_getD, List.getElem?_map]
  cases vs[j.toNatClampNeg]? <;> rfl
theorem own_fin {n : Nat} (c : Int32) (h0 : 0 ≤ c.toInt) (h1 : c.toInt < n) : ∃ i : Fin n, c = Int32.ofInt (i.1 : Int) :=
  ⟨⟨c.toInt.toNat, by omega⟩, by show c = Int32.ofInt ((c.toInt.toNat : Nat) : Int); rw [Int.toNat_of_nonneg h0]; exact (Int32.ofInt_toInt c).symm⟩
theorem own_set (N i : Nat) (f : Nat → Int32) (v : Int32) : ((List.range N).map fun j => Value.int (f j)).set i (.int v) = (List.range N).map fun j => Value.int (if j = i then v else f j) := by
  apply List.ext_getElem
  · simp
  · intro k h1 h2
    rw [List.getElem_set]
    simp only [List.getElem_map, List.getElem_range]
    by_cases q : i = k
    · rw [if_pos q, if_pos q.symm]
    · rw [if_neg q, if_neg (Ne.symm q)]
theorem own_setA {Z : State} {h : Heap} {a : Addr} {k : ClassId} {ty : FieldType} {z : Int32} {N i : Nat} {f : Nat → Int32} {v : Int32} {dv : Value} (A : Arv Z h a k ty z (((List.range N).map fun j => Value.int (f j)).set i (.int v)) dv) :
    Arv Z h a k ty z ((List.range N).map fun j => Value.int (if j = i then v else f j)) dv := by rw [← own_set]; exact A
theorem own_hatF {c : Cell} {N : Nat} {f : Nat → Int32} {j : Int32} {d : Value} (H : Has c ((List.range N).map fun j => Value.int (f j)) d) (hN : c.slots.size = N) (hin : ¬ (j < 0 ∨ c.slots.size ≤ j.toNatClampNeg)) : c.slots[j.toNatClampNeg]? = some (.int (f j.toNatClampNeg)) := by
  have hl : j.toNatClampNeg < c.slots.size := Nat.lt_of_not_le fun q => hin (Or.inr q)
  rw [H j.toNatClampNeg hl, List.getD_eq_getElem?_getD, List.getElem?_map, List.getElem?_range (by omega)]
  rfl
theorem own_sz {c : Cell} {z : Int32} {N : Nat} (S : c.slots.size = z.toNatClampNeg) (h : z.toNatClampNeg = N := by decide) : c.slots.size = N := S.trans h
theorem own_len {c : Cell} {z j : Int32} {N : Nat} {f : Nat → Int32} (S : c.slots.size = z.toNatClampNeg) (hin : ¬ (j < 0 ∨ c.slots.size ≤ j.toNatClampNeg)) (h : z.toNatClampNeg = N := by decide) : j.toNatClampNeg < ((List.range N).map fun j => Value.int (f j)).length := by
  have : j.toNatClampNeg < c.slots.size := Nat.lt_of_not_le fun q => hin (Or.inr q)
  rw [List.length_map, List.length_range]; omega
theorem d1_0 : decode prog_20_method_7_code 0 = .ok (.iload_n 0, 1) := by decide +kernel
theorem d1_1 : decode prog_20_method_7_code 1 = .ok (.ldc 27, 2) := by decide +kernel
theorem d1_3 : decode prog_20_method_7_code 3 = .ok (.if_icmp .lt 9, 3) := by decide +kernel
theorem d1_6 : decode prog_20_method_7_code 6 = .ok (.iload_n 0, 1) := by decide +kernel
theorem d1_7 : decode prog_20_method_7_code 7 = .ok (.ldc 28, 2) := by decide +kernel
theorem d1_9 : decode prog_20_method_7_code 9 = .ok (.if_icmp .le 24, 3) := by decide +kernel
theorem d1_12 : decode prog_20_method_7_code 12 = .ok (.iload_n 0, 1) := by decide +kernel
theorem d1_13 : decode prog_20_method_7_code 13 = .ok (.ldc 22, 2) := by decide +kernel
theorem d1_15 : decode prog_20_method_7_code 15 = .ok (.if_icmp .lt 22, 3) := by decide +kernel
theorem d1_18 : decode prog_20_method_7_code 18 = .ok (.iload_n 0, 1) := by decide +kernel
theorem d1_19 : decode prog_20_method_7_code 19 = .ok (.ldc 29, 2) := by decide +kernel
theorem d1_21 : decode prog_20_method_7_code 21 = .ok (.if_icmp .gt 16, 3) := by decide +kernel
theorem d1_24 : decode prog_20_method_7_code 24 = .ok (.iload_n 0, 1) := by decide +kernel
theorem d1_25 : decode prog_20_method_7_code 25 = .ok (.ldc 23, 2) := by decide +kernel
theorem d1_27 : decode prog_20_method_7_code 27 = .ok (.iand, 1) := by decide +kernel
theorem d1_28 : decode prog_20_method_7_code 28 = .ok (.ldc 24, 2) := by decide +kernel
theorem d1_30 : decode prog_20_method_7_code 30 = .ok (.if_icmp .gt 7, 3) := by decide +kernel
theorem d1_33 : decode prog_20_method_7_code 33 = .ok (.iconst 1, 1) := by decide +kernel
theorem d1_34 : decode prog_20_method_7_code 34 = .ok (.goto 4, 3) := by decide +kernel
theorem d1_37 : decode prog_20_method_7_code 37 = .ok (.iconst 0, 1) := by decide +kernel
theorem d1_38 : decode prog_20_method_7_code 38 = .ok (.ireturn, 1) := by decide +kernel
def F1_12 (i0 : Int32) : Int32 := (if i0 < (983040 : Int32) then (0 : Int32) else (if (1114109 : Int32) < i0 then (0 : Int32) else (if (65533 : Int32) < (i0 &&& (65535 : Int32)) then (0 : Int32) else (1 : Int32))))
set_option maxRecDepth 65536 in
set_option maxHeartbeats 40000000 in
theorem bk1_12 {p : Program} {l : Launch} {e : Env} {s : State} {m : MethodId} {args : Array Value} {below : List Frame} {meth : Method} {c : Code} {T0 : State} {locs : List Loc} {Z : State} {a0 : Array Value} {h0 : Heap} {n0 : Nat}
    (hx : p.tables.exec = Jvm.exec) (hZ : Z.Warmed39 s.vm) (hw : ∀ d ∈ tables_1, d.before a0 Z = true) (hby : c.code = prog_20_method_7_code) (hml : c.maxLocals = 1) (hown : s.vm.findClass "com/example/pilotfish/pilotfish/formats/UriReferences" = some m.cls) (hnm : meth.name = "isIprivate") (hret : meth.sig.returnType = some .boolean) (hlk : meth.locks = false)
    (X0 : Stand p l e ({ frames := 0, cells := 0, slots := 0, locals := 0 } : Room) s m args below meth c T0 locs 0 0) (N0 : Fr n0 locs) (e0 : T0.heap = h0) (i0 : Int32) :
    Done p e below s ({ frames := 0, cells := 0, slots := 0, locals := 0 } : Room) (Qp h0 n0 (.int (F1_12 i0))) T0 (mkF m 12 #[.val (.int i0)] []) := by
  unfold F1_12
  refine Done.of (T' := T0) (g' := (mkF m 15 #[.val (.int i0)] [(.int (983040 : Int32)), (.int i0)])) (fun t k => ?_) ?_
  · show Steps p.tables e below (T0.setTop (mkF m 12 #[.val (.int i0)] [])) t
    refine XS.iloadN X0.here hx rfl (hb hby d1_12) rfl ?_
    show Steps p.tables e below (T0.setTop (mkF m 13 #[.val (.int i0)] [(.int i0)])) t
    refine X0.ldcInt hx hown (mvT hZ (hw _ (List.mem_of_getElem? (i := 15) rfl))) (g := (mkF m 13 #[.val (.int i0)] [(.int i0)])) rfl (hb hby d1_13) _ ?_
    exact k
  by_cases hc15_0 : i0 < (983040 : Int32)
  · rw [if_pos hc15_0]
    refine Done.of (T' := T0) (g' := (mkF m 38 #[.val (.int i0)] [(.int (0 : Int32))])) (fun t k => ?_) ?_
    · show Steps p.tables e below (T0.setTop (mkF m 15 #[.val (.int i0)] [(.int (983040 : Int32)), (.int i0)])) t
      refine XS.icmpYes X0.here hx rfl (pc0 := 15) (pc' := 37) rfl (hb hby d1_15) rfl (tlt hc15_0).1 (by decide) (by decide) ?_
      show Steps p.tables e below (T0.setTop (mkF m 37 #[.val (.int i0)] [])) t
      refine XS.iconst X0.here hx rfl (hb hby d1_37) ?_
      exact k
    exact doneN (t := .boolean) X0 (by simp) hx hret hlk (hb hby d1_38) ⟨rfl, N0, e0⟩ (by decide) (by decide)
  · rw [if_neg hc15_0]
    refine Done.of (T' := T0) (g' := (mkF m 21 #[.val (.int i0)] [(.int (1114109 : Int32)), (.int i0)])) (fun t k => ?_) ?_
    · show Steps p.tables e below (T0.setTop (mkF m 15 #[.val (.int i0)] [(.int (983040 : Int32)), (.int i0)])) t
      refine XS.icmpNo X0.here hx rfl (hb hby d1_15) rfl (flt hc15_0).1 ?_
      show Steps p.tables e below (T0.setTop (mkF m 18 #[.val (.int i0)] [])) t
      refine XS.iloadN X0.here hx rfl (hb hby d1_18) rfl ?_
      show Steps p.tables e below (T0.setTop (mkF m 19 #[.val (.int i0)] [(.int i0)])) t
      refine X0.ldcInt hx hown (mvT hZ (hw _ (List.mem_of_getElem? (i := 16) rfl))) (g := (mkF m 19 #[.val (.int i0)] [(.int i0)])) rfl (hb hby d1_19) _ ?_
      exact k
    by_cases hc21_1 : (1114109 : Int32) < i0
    · rw [if_pos hc21_1]
      refine Done.of (T' := T0) (g' := (mkF m 38 #[.val (.int i0)] [(.int (0 : Int32))])) (fun t k => ?_) ?_
      · show Steps p.tables e below (T0.setTop (mkF m 21 #[.val (.int i0)] [(.int (1114109 : Int32)), (.int i0)])) t
        refine XS.icmpYes X0.here hx rfl (pc0 := 21) (pc' := 37) rfl (hb hby d1_21) rfl (tlt hc21_1).2.2.1 (by decide) (by decide) ?_
        show Steps p.tables e below (T0.setTop (mkF m 37 #[.val (.int i0)] [])) t
        refine XS.iconst X0.here hx rfl (hb hby d1_37) ?_
        exact k
      exact doneN (t := .boolean) X0 (by simp) hx hret hlk (hb hby d1_38) ⟨rfl, N0, e0⟩ (by decide) (by decide)
    · rw [if_neg hc21_1]
      refine Done.of (T' := T0) (g' := (mkF m 30 #[.val (.int i0)] [(.int (65533 : Int32)), (.int (i0 &&& (65535 : Int32)))])) (fun t k => ?_) ?_
      · show Steps p.tables e below (T0.setTop (mkF m 21 #[.val (.int i0)] [(.int (1114109 : Int32)), (.int i0)])) t
        refine XS.icmpNo X0.here hx rfl (hb hby d1_21) rfl (flt hc21_1).2.2.1 ?_
        show Steps p.tables e below (T0.setTop (mkF m 24 #[.val (.int i0)] [])) t
        refine XS.iloadN X0.here hx rfl (hb hby d1_24) rfl ?_
        show Steps p.tables e below (T0.setTop (mkF m 25 #[.val (.int i0)] [(.int i0)])) t
        refine X0.ldcInt hx hown (mvT hZ (hw _ (List.mem_of_getElem? (i := 17) rfl))) (g := (mkF m 25 #[.val (.int i0)] [(.int i0)])) rfl (hb hby d1_25) _ ?_
        show Steps p.tables e below (T0.setTop (mkF m 27 #[.val (.int i0)] [(.int (65535 : Int32)), (.int i0)])) t
        refine XS.iand X0.here hx rfl (hb hby d1_27) rfl ?_
        show Steps p.tables e below (T0.setTop (mkF m 28 #[.val (.int i0)] [(.int (i0 &&& (65535 : Int32)))])) t
        refine X0.ldcInt hx hown (mvT hZ (hw _ (List.mem_of_getElem? (i := 18) rfl))) (g := (mkF m 28 #[.val (.int i0)] [(.int (i0 &&& (65535 : Int32)))])) rfl (hb hby d1_28) _ ?_
        exact k
      by_cases hc30_2 : (65533 : Int32) < (i0 &&& (65535 : Int32))
      · rw [if_pos hc30_2]
        refine Done.of (T' := T0) (g' := (mkF m 38 #[.val (.int i0)] [(.int (0 : Int32))])) (fun t k => ?_) ?_
        · show Steps p.tables e below (T0.setTop (mkF m 30 #[.val (.int i0)] [(.int (65533 : Int32)), (.int (i0 &&& (65535 : Int32)))])) t
          refine XS.icmpYes X0.here hx rfl (pc0 := 30) (pc' := 37) rfl (hb hby d1_30) rfl (tlt hc30_2).2.2.1 (by decide) (by decide) ?_
          show Steps p.tables e below (T0.setTop (mkF m 37 #[.val (.int i0)] [])) t
          refine XS.iconst X0.here hx rfl (hb hby d1_37) ?_
          exact k
        exact doneN (t := .boolean) X0 (by simp) hx hret hlk (hb hby d1_38) ⟨rfl, N0, e0⟩ (by decide) (by decide)
      · rw [if_neg hc30_2]
        refine Done.of (T' := T0) (g' := (mkF m 38 #[.val (.int i0)] [(.int (1 : Int32))])) (fun t k => ?_) ?_
        · show Steps p.tables e below (T0.setTop (mkF m 30 #[.val (.int i0)] [(.int (65533 : Int32)), (.int (i0 &&& (65535 : Int32)))])) t
          refine XS.icmpNo X0.here hx rfl (hb hby d1_30) rfl (flt hc30_2).2.2.1 ?_
          show Steps p.tables e below (T0.setTop (mkF m 33 #[.val (.int i0)] [])) t
          refine XS.iconst X0.here hx rfl (hb hby d1_33) ?_
          show Steps p.tables e below (T0.setTop (mkF m 34 #[.val (.int i0)] [(.int (1 : Int32))])) t
          refine XS.goto X0.here hx rfl (pc0 := 34) (pc' := 38) rfl (hb hby d1_34) (by decide) (by decide) ?_
          exact k
        exact doneN (t := .boolean) X0 (by simp) hx hret hlk (hb hby d1_38) ⟨rfl, N0, e0⟩ (by decide) (by decide)
def F1_0 (p1 : Int32) : Int32 := (if p1 < (57344 : Int32) then (F1_12 p1) else (if (63743 : Int32) < p1 then (F1_12 p1) else (1 : Int32)))
set_option maxRecDepth 65536 in
set_option maxHeartbeats 40000000 in
theorem bk1_0 {p : Program} {l : Launch} {e : Env} {s : State} {m : MethodId} {args : Array Value} {below : List Frame} {meth : Method} {c : Code} {T0 : State} {locs : List Loc} {Z : State} {a0 : Array Value} {h0 : Heap} {n0 : Nat}
    (hx : p.tables.exec = Jvm.exec) (hZ : Z.Warmed39 s.vm) (hw : ∀ d ∈ tables_1, d.before a0 Z = true) (hby : c.code = prog_20_method_7_code) (hml : c.maxLocals = 1) (hown : s.vm.findClass "com/example/pilotfish/pilotfish/formats/UriReferences" = some m.cls) (hnm : meth.name = "isIprivate") (hret : meth.sig.returnType = some .boolean) (hlk : meth.locks = false)
    (X0 : Stand p l e ({ frames := 0, cells := 0, slots := 0, locals := 0 } : Room) s m args below meth c T0 locs 0 0) (N0 : Fr n0 locs) (e0 : T0.heap = h0) (p1 : Int32) :
    Done p e below s ({ frames := 0, cells := 0, slots := 0, locals := 0 } : Room) (Qp h0 n0 (.int (F1_0 p1))) T0 (mkF m 0 #[.val (.int p1)] []) := by
  unfold F1_0
  refine Done.of (T' := T0) (g' := (mkF m 3 #[.val (.int p1)] [(.int (57344 : Int32)), (.int p1)])) (fun t k => ?_) ?_
  · show Steps p.tables e below (T0.setTop (mkF m 0 #[.val (.int p1)] [])) t
    refine XS.iloadN X0.here hx rfl (hb hby d1_0) rfl ?_
    show Steps p.tables e below (T0.setTop (mkF m 1 #[.val (.int p1)] [(.int p1)])) t
    refine X0.ldcInt hx hown (mvT hZ (hw _ (List.mem_of_getElem? (i := 13) rfl))) (g := (mkF m 1 #[.val (.int p1)] [(.int p1)])) rfl (hb hby d1_1) _ ?_
    exact k
  by_cases hc3_0 : p1 < (57344 : Int32)
  · rw [if_pos hc3_0]
    refine Done.of (T' := T0) (g' := (mkF m 12 #[.val (.int p1)] [])) (fun t k => ?_) ?_
    · show Steps p.tables e below (T0.setTop (mkF m 3 #[.val (.int p1)] [(.int (57344 : Int32)), (.int p1)])) t
      refine XS.icmpYes X0.here hx rfl (pc0 := 3) (pc' := 12) rfl (hb hby d1_3) rfl (tlt hc3_0).1 (by decide) (by decide) ?_
      exact k
    exact bk1_12 hx hZ hw hby hml hown hnm hret hlk X0 N0 e0 p1
  · rw [if_neg hc3_0]
    refine Done.of (T' := T0) (g' := (mkF m 9 #[.val (.int p1)] [(.int (63743 : Int32)), (.int p1)])) (fun t k => ?_) ?_
    · show Steps p.tables e below (T0.setTop (mkF m 3 #[.val (.int p1)] [(.int (57344 : Int32)), (.int p1)])) t
      refine XS.icmpNo X0.here hx rfl (hb hby d1_3) rfl (flt hc3_0).1 ?_
      show Steps p.tables e below (T0.setTop (mkF m 6 #[.val (.int p1)] [])) t
      refine XS.iloadN X0.here hx rfl (hb hby d1_6) rfl ?_
      show Steps p.tables e below (T0.setTop (mkF m 7 #[.val (.int p1)] [(.int p1)])) t
      refine X0.ldcInt hx hown (mvT hZ (hw _ (List.mem_of_getElem? (i := 14) rfl))) (g := (mkF m 7 #[.val (.int p1)] [(.int p1)])) rfl (hb hby d1_7) _ ?_
      exact k
    by_cases hc9_1 : (63743 : Int32) < p1
    · rw [if_pos hc9_1]
      refine Done.of (T' := T0) (g' := (mkF m 12 #[.val (.int p1)] [])) (fun t k => ?_) ?_
      · show Steps p.tables e below (T0.setTop (mkF m 9 #[.val (.int p1)] [(.int (63743 : Int32)), (.int p1)])) t
        refine XS.icmpNo X0.here hx rfl (hb hby d1_9) rfl (tlt hc9_1).2.2.2 ?_
        exact k
      exact bk1_12 hx hZ hw hby hml hown hnm hret hlk X0 N0 e0 p1
    · rw [if_neg hc9_1]
      refine Done.of (T' := T0) (g' := (mkF m 38 #[.val (.int p1)] [(.int (1 : Int32))])) (fun t k => ?_) ?_
      · show Steps p.tables e below (T0.setTop (mkF m 9 #[.val (.int p1)] [(.int (63743 : Int32)), (.int p1)])) t
        refine XS.icmpYes X0.here hx rfl (pc0 := 9) (pc' := 33) rfl (hb hby d1_9) rfl (flt hc9_1).2.2.2 (by decide) (by decide) ?_
        show Steps p.tables e below (T0.setTop (mkF m 33 #[.val (.int p1)] [])) t
        refine XS.iconst X0.here hx rfl (hb hby d1_33) ?_
        show Steps p.tables e below (T0.setTop (mkF m 34 #[.val (.int p1)] [(.int (1 : Int32))])) t
        refine XS.goto X0.here hx rfl (pc0 := 34) (pc' := 38) rfl (hb hby d1_34) (by decide) (by decide) ?_
        exact k
      exact doneN (t := .boolean) X0 (by simp) hx hret hlk (hb hby d1_38) ⟨rfl, N0, e0⟩ (by decide) (by decide)
theorem ef_1 (m : MethodId) (p1 : Int32) : entryFrame m #[(.int p1)] 1 = mkF m 0 #[.val (.int p1)] [] := by first | (simp [entryFrame, mkF, argsToLocals, Value.category, maxLocals]; done) | rfl
theorem pn_1 : plainName "com/example/pilotfish/pilotfish/formats/UriReferences" = true := by first | (simp [plainName, overriddenIn]; done) | decide +kernel
set_option maxRecDepth 65536 in
set_option maxHeartbeats 40000000 in
theorem rm1 (l : Launch) (Z : State) (a0 : Array Value) (hw : ∀ d ∈ tables_1, d.before a0 Z = true) (ws : List Jvm.Cond) (p1 : Int32) (h0 : Heap) (n0 : Nat) :
    MetFree l (⟨"com/example/pilotfish/pilotfish/formats/UriReferences", "isIprivate", "(I)Z"⟩ : MethodName) (head1 (Jvm.Cond.code (⟨"com/example/pilotfish/pilotfish/formats/UriReferences", "isIprivate", "(I)Z"⟩ : MethodName) prog_20_method_7_code 1 (some .boolean) :: ws) ({ frames := 0, cells := 0, slots := 0, locals := 0 } : Room)) (fun a U => a = #[(.int p1)] ∧ Z.Warmed39 U.vm ∧ U.heap = h0) (fun _ _ _ _ _ => True) (fun _ U o U' => ∃ v L, o = .returned v ∧ (Qp h0 n0 (.int (F1_0 p1))) v U'.heap L ∧ FrameEnd U o U' L ({ frames := 0, cells := 0, slots := 0, locals := 0 } : Room).cells ({ frames := 0, cells := 0, slots := 0, locals := 0 } : Room).slots) := by
  refine MetFree.of_bodySF (plainFor_of_name pn_1) hisR ?_
  intro p e s m args below meth c s₁ Bd hml0 hP hK
  obtain ⟨rfl, hZ, hh⟩ := hP
  have hown : s.vm.findClass "com/example/pilotfish/pilotfish/formats/UriReferences" = some m.cls := findClass_of_methodNamed Bd.named
  have hnm := (name_of_methodNamed Bd.named Bd.method).1
  have X0 : Stand p l e ({ frames := 0, cells := 0, slots := 0, locals := 0 } : Room) s m #[(.int p1)] below meth c s₁ [] 0 0 := Stand.of_body Bd
  have e0 : s₁.heap = h0 := by rw [← hh, Bd.state]; rfl
  have d := bk1_0 (n0 := n0) Bd.exec hZ hw Bd.bytes hml0 hown hnm Bd.returns (BodyLoose.notSynchronized Bd) X0 (Fr.nil n0) e0 p1
  have d2 : Done p e below s ({ frames := 0, cells := 0, slots := 0, locals := 0 } : Room) (Qp h0 n0 (.int (F1_0 p1))) s₁ (entryFrame m #[(.int p1)] 1) := by rw [ef_1]; exact d
  exact d2
def own_tab : List Int32 := [(57344 : Int32), (63743 : Int32), (983040 : Int32), (1048573 : Int32), (1048576 : Int32), (1114109 : Int32), (1048574 : Int32), (1114111 : Int32)]
theorem os0_112 {z0 : Value} {z1 : Value} {z2 : Value} {s3 : Slot} {v : Int32} (h : One s3) : storeLocals #[.val z0, .val z1, .val z2, s3] 3 (.int v) = some #[.val z0, .val z1, .val z2, .val (.int v)] := by
  rcases h with rfl | ⟨w, rfl, hw⟩
  · rfl
  · cases w <;> first | rfl | (simp [Value.category] at hw)
theorem pd_0 : parseMethodDescriptor "(I)Z" = some ⟨[.int], some .boolean⟩ := by decide +kernel
theorem own_in (p2 : Int32) : ¬ ((((p2.toUInt32 >>> ((1 : Int32) &&& 31).toUInt32).toInt32) &&& (7 : Int32)) < 0) ∧ (((p2.toUInt32 >>> ((1 : Int32) &&& 31).toUInt32).toInt32) &&& (7 : Int32)) < (8 : Int32) := by
  have m := c_mask ((p2.toUInt32 >>> ((1 : Int32) &&& 31).toUInt32).toInt32) 7 3 (by decide) (by decide)
  have l0 : (0 : Int32).toInt = 0 := rfl
  have l1 : (8 : Int32).toInt = 8 := rfl
  rw [Int32.lt_iff_toInt_lt, Int32.lt_iff_toInt_lt]; omega
def F0_112 (i0 : Int32) (i1 : Int32) (i2 : Int32) (x0 : Int32) : Int32 := (if (F1_0 i2) = x0 then (1 : Int32) else (0 : Int32))
set_option maxRecDepth 65536 in
set_option maxHeartbeats 40000000 in
theorem bk0_112 {p : Program} {l : Launch} {e : Env} {s : State} {m : MethodId} {args : Array Value} {below : List Frame} {meth : Method} {c : Code} {T0 : State} {locs : List Loc} {Z : State} {a0 : Array Value} {h0 : Heap} {n0 : Nat}
    (hx : p.tables.exec = Jvm.exec) (hZ : Z.Warmed39 s.vm) (hw : ∀ d ∈ tables_1, d.before a0 Z = true) (hby : c.code = code) (hml : c.maxLocals = 4) (hown : s.vm.findClass "com/example/pilotfish/pilotfish/formats/UriReferencesIsIprivatePinLaw" = some m.cls) (hnm : meth.name = "law") (hret : meth.sig.returnType = some .boolean) (hlk : meth.locks = false)
    (X0 : Stand p l e room_1 s m args below meth c T0 locs 1 8) (N0 : Fr n0 locs) (e0 : T0.heap = h0) (i0 : Int32) (i1 : Int32) (i2 : Int32) (s3 : Slot) (x0 : Int32) (hs3 : One s3) (Z0 : n0 ≤ h0.size) :
    Done p e below s room_1 (Ql n0 (.int (F0_112 i0 i1 i2 x0))) T0 (mkF m 112 #[.val (.int i0), .val (.int i1), .val (.int i2), s3] [(.int x0)]) := by
  unfold F0_112
  refine Done.of (T' := T0) (g' := (mkF m 114 #[.val (.int i0), .val (.int i1), .val (.int i2), .val (.int x0)] [(.int i2)])) (fun t k => ?_) ?_
  · show Steps p.tables e below (T0.setTop (mkF m 112 #[.val (.int i0), .val (.int i1), .val (.int i2), s3] [(.int x0)])) t
    refine XS.istoreN X0.here hx rfl (hb hby at_112) rfl (l' := #[.val (.int i0), .val (.int i1), .val (.int i2), .val (.int x0)]) (os0_112 hs3) ?_
    show Steps p.tables e below (T0.setTop (mkF m 113 #[.val (.int i0), .val (.int i1), .val (.int i2), .val (.int x0)] [])) t
    refine XS.iloadN X0.here hx rfl (hb hby at_113) rfl ?_
    exact k
  obtain ⟨_, _, ⟨T1, L1, k1, n1⟩, -, X1, ⟨Lc1, hQ1, l1, y1, z1⟩, st1⟩ := Jvm.LawKit.callS X0 hx (y := (⟨"com/example/pilotfish/pilotfish/formats/UriReferences", "isIprivate", "(I)Z"⟩ : MethodName)) hown (mvT hZ (hw _ (List.mem_of_getElem? (i := 9) rfl))) (mvT hZ (hw _ (List.mem_of_getElem? (i := 10) rfl))) (mvT hZ (hw _ (List.mem_of_getElem? (i := 11) rfl))) (mvT hZ (hw _ (List.mem_of_getElem? (i := 12) rfl))) (by decide) (backOf (W := 0) (rm1 l Z a0 hw [] i2 h0 n0) hZ (hw _ (List.mem_of_getElem? (i := 12) rfl)) (hw _ (List.mem_of_getElem? (i := 11) rfl)) (by decide) (by decide)) (g := (mkF m 114 #[.val (.int i0), .val (.int i1), .val (.int i2), .val (.int x0)] [(.int i2)])) rfl (by rw [hml]; rfl) (argsL := [(.int i2)]) (rest := []) (lenOf pd_0 rfl) rfl (by show 2 * 0 + _ ≤ _; exact Nat.le_of_eq rfl) (hb hby at_114) (fun _ _ => ⟨rfl, e0, (by decide : 1 + 0 ≤ _), (by decide : 8 + 0 ≤ _)⟩)
  dsimp only [Pt.U, Pt.locs, Pt.cells, Pt.slots] at X1 l1 y1 z1 st1 hQ1
  subst l1 y1 z1
  obtain ⟨rfl, N1q, e1⟩ := hQ1
  have N1 := Fr.app N0 N1q
  replace X1 : Stand p l e room_1 s m args below meth c T1 _ 1 8 := X1
  refine Done.of (g' := (mkF m 117 #[.val (.int i0), .val (.int i1), .val (.int i2), .val (.int x0)] [(.int (F1_0 i2))])) st1 ?_
  refine Done.of (T' := T1) (g' := (mkF m 118 #[.val (.int i0), .val (.int i1), .val (.int i2), .val (.int x0)] [(.int x0), (.int (F1_0 i2))])) (fun t k => ?_) ?_
  · show Steps p.tables e below (T1.setTop (mkF m 117 #[.val (.int i0), .val (.int i1), .val (.int i2), .val (.int x0)] [(.int (F1_0 i2))])) t
    refine XS.iloadN X1.here hx rfl (hb hby at_117) rfl ?_
    exact k
  by_cases hc118_1 : (F1_0 i2) = x0
  · rw [if_pos hc118_1]
    refine Done.of (T' := T1) (g' := (mkF m 126 #[.val (.int i0), .val (.int i1), .val (.int i2), .val (.int x0)] [(.int (1 : Int32))])) (fun t k => ?_) ?_
    · show Steps p.tables e below (T1.setTop (mkF m 118 #[.val (.int i0), .val (.int i1), .val (.int i2), .val (.int x0)] [(.int x0), (.int (F1_0 i2))])) t
      refine XS.icmpNo X1.here hx rfl (hb hby at_118) rfl (teq hc118_1).2 ?_
      show Steps p.tables e below (T1.setTop (mkF m 121 #[.val (.int i0), .val (.int i1), .val (.int i2), .val (.int x0)] [])) t
      refine XS.iconst X1.here hx rfl (hb hby at_121) ?_
      show Steps p.tables e below (T1.setTop (mkF m 122 #[.val (.int i0), .val (.int i1), .val (.int i2), .val (.int x0)] [(.int (1 : Int32))])) t
      refine XS.goto X1.here hx rfl (pc0 := 122) (pc' := 126) rfl (hb hby at_122) (by decide) (by decide) ?_
      exact k
    exact doneN (t := .boolean) X1 (by simp) hx hret hlk (hb hby at_126) ⟨rfl, N1⟩ (by decide) (by decide)
  · rw [if_neg hc118_1]
    refine Done.of (T' := T1) (g' := (mkF m 126 #[.val (.int i0), .val (.int i1), .val (.int i2), .val (.int x0)] [(.int (0 : Int32))])) (fun t k => ?_) ?_
    · show Steps p.tables e below (T1.setTop (mkF m 118 #[.val (.int i0), .val (.int i1), .val (.int i2), .val (.int x0)] [(.int x0), (.int (F1_0 i2))])) t
      refine XS.icmpYes X1.here hx rfl (pc0 := 118) (pc' := 125) rfl (hb hby at_118) rfl (feq hc118_1).2 (by decide) (by decide) ?_
      show Steps p.tables e below (T1.setTop (mkF m 125 #[.val (.int i0), .val (.int i1), .val (.int i2), .val (.int x0)] [])) t
      refine XS.iconst X1.here hx rfl (hb hby at_125) ?_
      exact k
    exact doneN (t := .boolean) X1 (by simp) hx hret hlk (hb hby at_126) ⟨rfl, N1⟩ (by decide) (by decide)
def F0_111 (i0 : Int32) (i1 : Int32) (i2 : Int32) : Int32 := (F0_112 i0 i1 i2 (0 : Int32))
set_option maxRecDepth 65536 in
set_option maxHeartbeats 40000000 in
theorem bk0_111 {p : Program} {l : Launch} {e : Env} {s : State} {m : MethodId} {args : Array Value} {below : List Frame} {meth : Method} {c : Code} {T0 : State} {locs : List Loc} {Z : State} {a0 : Array Value} {h0 : Heap} {n0 : Nat}
    (hx : p.tables.exec = Jvm.exec) (hZ : Z.Warmed39 s.vm) (hw : ∀ d ∈ tables_1, d.before a0 Z = true) (hby : c.code = code) (hml : c.maxLocals = 4) (hown : s.vm.findClass "com/example/pilotfish/pilotfish/formats/UriReferencesIsIprivatePinLaw" = some m.cls) (hnm : meth.name = "law") (hret : meth.sig.returnType = some .boolean) (hlk : meth.locks = false)
    (X0 : Stand p l e room_1 s m args below meth c T0 locs 1 8) (N0 : Fr n0 locs) (e0 : T0.heap = h0) (i0 : Int32) (i1 : Int32) (i2 : Int32) (s3 : Slot) (hs3 : One s3) (Z0 : n0 ≤ h0.size) :
    Done p e below s room_1 (Ql n0 (.int (F0_111 i0 i1 i2))) T0 (mkF m 111 #[.val (.int i0), .val (.int i1), .val (.int i2), s3] []) := by
  unfold F0_111
  refine Done.of (T' := T0) (g' := (mkF m 112 #[.val (.int i0), .val (.int i1), .val (.int i2), s3] [(.int (0 : Int32))])) (fun t k => ?_) ?_
  · show Steps p.tables e below (T0.setTop (mkF m 111 #[.val (.int i0), .val (.int i1), .val (.int i2), s3] [])) t
    refine XS.iconst X0.here hx rfl (hb hby at_111) ?_
    exact k
  exact bk0_112 hx hZ hw hby hml hown hnm hret hlk X0 N0 e0 i0 i1 i2 (s3) (0 : Int32) hs3 Z0
def F0_107 (i0 : Int32) (i1 : Int32) (i2 : Int32) : Int32 := (F0_112 i0 i1 i2 (1 : Int32))
set_option maxRecDepth 65536 in
set_option maxHeartbeats 40000000 in
theorem bk0_107 {p : Program} {l : Launch} {e : Env} {s : State} {m : MethodId} {args : Array Value} {below : List Frame} {meth : Method} {c : Code} {T0 : State} {locs : List Loc} {Z : State} {a0 : Array Value} {h0 : Heap} {n0 : Nat}
    (hx : p.tables.exec = Jvm.exec) (hZ : Z.Warmed39 s.vm) (hw : ∀ d ∈ tables_1, d.before a0 Z = true) (hby : c.code = code) (hml : c.maxLocals = 4) (hown : s.vm.findClass "com/example/pilotfish/pilotfish/formats/UriReferencesIsIprivatePinLaw" = some m.cls) (hnm : meth.name = "law") (hret : meth.sig.returnType = some .boolean) (hlk : meth.locks = false)
    (X0 : Stand p l e room_1 s m args below meth c T0 locs 1 8) (N0 : Fr n0 locs) (e0 : T0.heap = h0) (i0 : Int32) (i1 : Int32) (i2 : Int32) (s3 : Slot) (hs3 : One s3) (Z0 : n0 ≤ h0.size) :
    Done p e below s room_1 (Ql n0 (.int (F0_107 i0 i1 i2))) T0 (mkF m 107 #[.val (.int i0), .val (.int i1), .val (.int i2), s3] []) := by
  unfold F0_107
  refine Done.of (T' := T0) (g' := (mkF m 112 #[.val (.int i0), .val (.int i1), .val (.int i2), s3] [(.int (1 : Int32))])) (fun t k => ?_) ?_
  · show Steps p.tables e below (T0.setTop (mkF m 107 #[.val (.int i0), .val (.int i1), .val (.int i2), s3] [])) t
    refine XS.iconst X0.here hx rfl (hb hby at_107) ?_
    show Steps p.tables e below (T0.setTop (mkF m 108 #[.val (.int i0), .val (.int i1), .val (.int i2), s3] [(.int (1 : Int32))])) t
    refine XS.goto X0.here hx rfl (pc0 := 108) (pc' := 112) rfl (hb hby at_108) (by decide) (by decide) ?_
    exact k
  exact bk0_112 hx hZ hw hby hml hown hnm hret hlk X0 N0 e0 i0 i1 i2 (s3) (1 : Int32) hs3 Z0
def F0_95 (i0 : Int32) (i1 : Int32) (i2 : Int32) : Int32 := (if i2 < (1048576 : Int32) then (F0_111 i0 i1 i2) else (if (1114109 : Int32) < i2 then (F0_111 i0 i1 i2) else (F0_107 i0 i1 i2)))
set_option maxRecDepth 65536 in
set_option maxHeartbeats 40000000 in
theorem bk0_95 {p : Program} {l : Launch} {e : Env} {s : State} {m : MethodId} {args : Array Value} {below : List Frame} {meth : Method} {c : Code} {T0 : State} {locs : List Loc} {Z : State} {a0 : Array Value} {h0 : Heap} {n0 : Nat}
    (hx : p.tables.exec = Jvm.exec) (hZ : Z.Warmed39 s.vm) (hw : ∀ d ∈ tables_1, d.before a0 Z = true) (hby : c.code = code) (hml : c.maxLocals = 4) (hown : s.vm.findClass "com/example/pilotfish/pilotfish/formats/UriReferencesIsIprivatePinLaw" = some m.cls) (hnm : meth.name = "law") (hret : meth.sig.returnType = some .boolean) (hlk : meth.locks = false)
    (X0 : Stand p l e room_1 s m args below meth c T0 locs 1 8) (N0 : Fr n0 locs) (e0 : T0.heap = h0) (i0 : Int32) (i1 : Int32) (i2 : Int32) (s3 : Slot) (hs3 : One s3) (Z0 : n0 ≤ h0.size) :
    Done p e below s room_1 (Ql n0 (.int (F0_95 i0 i1 i2))) T0 (mkF m 95 #[.val (.int i0), .val (.int i1), .val (.int i2), s3] []) := by
  unfold F0_95
  refine Done.of (T' := T0) (g' := (mkF m 98 #[.val (.int i0), .val (.int i1), .val (.int i2), s3] [(.int (1048576 : Int32)), (.int i2)])) (fun t k => ?_) ?_
  · show Steps p.tables e below (T0.setTop (mkF m 95 #[.val (.int i0), .val (.int i1), .val (.int i2), s3] [])) t
    refine XS.iloadN X0.here hx rfl (hb hby at_95) rfl ?_
    show Steps p.tables e below (T0.setTop (mkF m 96 #[.val (.int i0), .val (.int i1), .val (.int i2), s3] [(.int i2)])) t
    refine X0.ldcInt hx hown (mvT hZ (hw _ (List.mem_of_getElem? (i := 5) rfl))) (g := (mkF m 96 #[.val (.int i0), .val (.int i1), .val (.int i2), s3] [(.int i2)])) rfl (hb hby at_96) _ ?_
    exact k
  by_cases hc98_0 : i2 < (1048576 : Int32)
  · rw [if_pos hc98_0]
    refine Done.of (T' := T0) (g' := (mkF m 111 #[.val (.int i0), .val (.int i1), .val (.int i2), s3] [])) (fun t k => ?_) ?_
    · show Steps p.tables e below (T0.setTop (mkF m 98 #[.val (.int i0), .val (.int i1), .val (.int i2), s3] [(.int (1048576 : Int32)), (.int i2)])) t
      refine XS.icmpYes X0.here hx rfl (pc0 := 98) (pc' := 111) rfl (hb hby at_98) rfl (tlt hc98_0).1 (by decide) (by decide) ?_
      exact k
    exact bk0_111 hx hZ hw hby hml hown hnm hret hlk X0 N0 e0 i0 i1 i2 (s3) hs3 Z0
  · rw [if_neg hc98_0]
    refine Done.of (T' := T0) (g' := (mkF m 104 #[.val (.int i0), .val (.int i1), .val (.int i2), s3] [(.int (1114109 : Int32)), (.int i2)])) (fun t k => ?_) ?_
    · show Steps p.tables e below (T0.setTop (mkF m 98 #[.val (.int i0), .val (.int i1), .val (.int i2), s3] [(.int (1048576 : Int32)), (.int i2)])) t
      refine XS.icmpNo X0.here hx rfl (hb hby at_98) rfl (flt hc98_0).1 ?_
      show Steps p.tables e below (T0.setTop (mkF m 101 #[.val (.int i0), .val (.int i1), .val (.int i2), s3] [])) t
      refine XS.iloadN X0.here hx rfl (hb hby at_101) rfl ?_
      show Steps p.tables e below (T0.setTop (mkF m 102 #[.val (.int i0), .val (.int i1), .val (.int i2), s3] [(.int i2)])) t
      refine X0.ldcInt hx hown (mvT hZ (hw _ (List.mem_of_getElem? (i := 6) rfl))) (g := (mkF m 102 #[.val (.int i0), .val (.int i1), .val (.int i2), s3] [(.int i2)])) rfl (hb hby at_102) _ ?_
      exact k
    by_cases hc104_1 : (1114109 : Int32) < i2
    · rw [if_pos hc104_1]
      refine Done.of (T' := T0) (g' := (mkF m 111 #[.val (.int i0), .val (.int i1), .val (.int i2), s3] [])) (fun t k => ?_) ?_
      · show Steps p.tables e below (T0.setTop (mkF m 104 #[.val (.int i0), .val (.int i1), .val (.int i2), s3] [(.int (1114109 : Int32)), (.int i2)])) t
        refine XS.icmpYes X0.here hx rfl (pc0 := 104) (pc' := 111) rfl (hb hby at_104) rfl (tlt hc104_1).2.2.1 (by decide) (by decide) ?_
        exact k
      exact bk0_111 hx hZ hw hby hml hown hnm hret hlk X0 N0 e0 i0 i1 i2 (s3) hs3 Z0
    · rw [if_neg hc104_1]
      refine Done.of (T' := T0) (g' := (mkF m 107 #[.val (.int i0), .val (.int i1), .val (.int i2), s3] [])) (fun t k => ?_) ?_
      · show Steps p.tables e below (T0.setTop (mkF m 104 #[.val (.int i0), .val (.int i1), .val (.int i2), s3] [(.int (1114109 : Int32)), (.int i2)])) t
        refine XS.icmpNo X0.here hx rfl (hb hby at_104) rfl (flt hc104_1).2.2.1 ?_
        exact k
      exact bk0_107 hx hZ hw hby hml hown hnm hret hlk X0 N0 e0 i0 i1 i2 (s3) hs3 Z0
def F0_83 (i0 : Int32) (i1 : Int32) (i2 : Int32) : Int32 := (if i2 < (983040 : Int32) then (F0_95 i0 i1 i2) else (if (1048573 : Int32) < i2 then (F0_95 i0 i1 i2) else (F0_107 i0 i1 i2)))
set_option maxRecDepth 65536 in
set_option maxHeartbeats 40000000 in
theorem bk0_83 {p : Program} {l : Launch} {e : Env} {s : State} {m : MethodId} {args : Array Value} {below : List Frame} {meth : Method} {c : Code} {T0 : State} {locs : List Loc} {Z : State} {a0 : Array Value} {h0 : Heap} {n0 : Nat}
    (hx : p.tables.exec = Jvm.exec) (hZ : Z.Warmed39 s.vm) (hw : ∀ d ∈ tables_1, d.before a0 Z = true) (hby : c.code = code) (hml : c.maxLocals = 4) (hown : s.vm.findClass "com/example/pilotfish/pilotfish/formats/UriReferencesIsIprivatePinLaw" = some m.cls) (hnm : meth.name = "law") (hret : meth.sig.returnType = some .boolean) (hlk : meth.locks = false)
    (X0 : Stand p l e room_1 s m args below meth c T0 locs 1 8) (N0 : Fr n0 locs) (e0 : T0.heap = h0) (i0 : Int32) (i1 : Int32) (i2 : Int32) (s3 : Slot) (hs3 : One s3) (Z0 : n0 ≤ h0.size) :
    Done p e below s room_1 (Ql n0 (.int (F0_83 i0 i1 i2))) T0 (mkF m 83 #[.val (.int i0), .val (.int i1), .val (.int i2), s3] []) := by
  unfold F0_83
  refine Done.of (T' := T0) (g' := (mkF m 86 #[.val (.int i0), .val (.int i1), .val (.int i2), s3] [(.int (983040 : Int32)), (.int i2)])) (fun t k => ?_) ?_
  · show Steps p.tables e below (T0.setTop (mkF m 83 #[.val (.int i0), .val (.int i1), .val (.int i2), s3] [])) t
    refine XS.iloadN X0.here hx rfl (hb hby at_83) rfl ?_
    show Steps p.tables e below (T0.setTop (mkF m 84 #[.val (.int i0), .val (.int i1), .val (.int i2), s3] [(.int i2)])) t
    refine X0.ldcInt hx hown (mvT hZ (hw _ (List.mem_of_getElem? (i := 3) rfl))) (g := (mkF m 84 #[.val (.int i0), .val (.int i1), .val (.int i2), s3] [(.int i2)])) rfl (hb hby at_84) _ ?_
    exact k
  by_cases hc86_0 : i2 < (983040 : Int32)
  · rw [if_pos hc86_0]
    refine Done.of (T' := T0) (g' := (mkF m 95 #[.val (.int i0), .val (.int i1), .val (.int i2), s3] [])) (fun t k => ?_) ?_
    · show Steps p.tables e below (T0.setTop (mkF m 86 #[.val (.int i0), .val (.int i1), .val (.int i2), s3] [(.int (983040 : Int32)), (.int i2)])) t
      refine XS.icmpYes X0.here hx rfl (pc0 := 86) (pc' := 95) rfl (hb hby at_86) rfl (tlt hc86_0).1 (by decide) (by decide) ?_
      exact k
    exact bk0_95 hx hZ hw hby hml hown hnm hret hlk X0 N0 e0 i0 i1 i2 (s3) hs3 Z0
  · rw [if_neg hc86_0]
    refine Done.of (T' := T0) (g' := (mkF m 92 #[.val (.int i0), .val (.int i1), .val (.int i2), s3] [(.int (1048573 : Int32)), (.int i2)])) (fun t k => ?_) ?_
    · show Steps p.tables e below (T0.setTop (mkF m 86 #[.val (.int i0), .val (.int i1), .val (.int i2), s3] [(.int (983040 : Int32)), (.int i2)])) t
      refine XS.icmpNo X0.here hx rfl (hb hby at_86) rfl (flt hc86_0).1 ?_
      show Steps p.tables e below (T0.setTop (mkF m 89 #[.val (.int i0), .val (.int i1), .val (.int i2), s3] [])) t
      refine XS.iloadN X0.here hx rfl (hb hby at_89) rfl ?_
      show Steps p.tables e below (T0.setTop (mkF m 90 #[.val (.int i0), .val (.int i1), .val (.int i2), s3] [(.int i2)])) t
      refine X0.ldcInt hx hown (mvT hZ (hw _ (List.mem_of_getElem? (i := 4) rfl))) (g := (mkF m 90 #[.val (.int i0), .val (.int i1), .val (.int i2), s3] [(.int i2)])) rfl (hb hby at_90) _ ?_
      exact k
    by_cases hc92_1 : (1048573 : Int32) < i2
    · rw [if_pos hc92_1]
      refine Done.of (T' := T0) (g' := (mkF m 95 #[.val (.int i0), .val (.int i1), .val (.int i2), s3] [])) (fun t k => ?_) ?_
      · show Steps p.tables e below (T0.setTop (mkF m 92 #[.val (.int i0), .val (.int i1), .val (.int i2), s3] [(.int (1048573 : Int32)), (.int i2)])) t
        refine XS.icmpNo X0.here hx rfl (hb hby at_92) rfl (tlt hc92_1).2.2.2 ?_
        exact k
      exact bk0_95 hx hZ hw hby hml hown hnm hret hlk X0 N0 e0 i0 i1 i2 (s3) hs3 Z0
    · rw [if_neg hc92_1]
      refine Done.of (T' := T0) (g' := (mkF m 107 #[.val (.int i0), .val (.int i1), .val (.int i2), s3] [])) (fun t k => ?_) ?_
      · show Steps p.tables e below (T0.setTop (mkF m 92 #[.val (.int i0), .val (.int i1), .val (.int i2), s3] [(.int (1048573 : Int32)), (.int i2)])) t
        refine XS.icmpYes X0.here hx rfl (pc0 := 92) (pc' := 107) rfl (hb hby at_92) rfl (flt hc92_1).2.2.2 (by decide) (by decide) ?_
        exact k
      exact bk0_107 hx hZ hw hby hml hown hnm hret hlk X0 N0 e0 i0 i1 i2 (s3) hs3 Z0
def F0_71 (i0 : Int32) (i1 : Int32) (i2 : Int32) : Int32 := (if i2 < (57344 : Int32) then (F0_83 i0 i1 i2) else (if (63743 : Int32) < i2 then (F0_83 i0 i1 i2) else (F0_107 i0 i1 i2)))
set_option maxRecDepth 65536 in
set_option maxHeartbeats 40000000 in
theorem bk0_71 {p : Program} {l : Launch} {e : Env} {s : State} {m : MethodId} {args : Array Value} {below : List Frame} {meth : Method} {c : Code} {T0 : State} {locs : List Loc} {Z : State} {a0 : Array Value} {h0 : Heap} {n0 : Nat}
    (hx : p.tables.exec = Jvm.exec) (hZ : Z.Warmed39 s.vm) (hw : ∀ d ∈ tables_1, d.before a0 Z = true) (hby : c.code = code) (hml : c.maxLocals = 4) (hown : s.vm.findClass "com/example/pilotfish/pilotfish/formats/UriReferencesIsIprivatePinLaw" = some m.cls) (hnm : meth.name = "law") (hret : meth.sig.returnType = some .boolean) (hlk : meth.locks = false)
    (X0 : Stand p l e room_1 s m args below meth c T0 locs 1 8) (N0 : Fr n0 locs) (e0 : T0.heap = h0) (i0 : Int32) (i1 : Int32) (i2 : Int32) (s3 : Slot) (hs3 : One s3) (Z0 : n0 ≤ h0.size) :
    Done p e below s room_1 (Ql n0 (.int (F0_71 i0 i1 i2))) T0 (mkF m 71 #[.val (.int i0), .val (.int i1), .val (.int i2), s3] []) := by
  unfold F0_71
  refine Done.of (T' := T0) (g' := (mkF m 74 #[.val (.int i0), .val (.int i1), .val (.int i2), s3] [(.int (57344 : Int32)), (.int i2)])) (fun t k => ?_) ?_
  · show Steps p.tables e below (T0.setTop (mkF m 71 #[.val (.int i0), .val (.int i1), .val (.int i2), s3] [])) t
    refine XS.iloadN X0.here hx rfl (hb hby at_71) rfl ?_
    show Steps p.tables e below (T0.setTop (mkF m 72 #[.val (.int i0), .val (.int i1), .val (.int i2), s3] [(.int i2)])) t
    refine X0.ldcInt hx hown (mvT hZ (hw _ (List.mem_of_getElem? (i := 1) rfl))) (g := (mkF m 72 #[.val (.int i0), .val (.int i1), .val (.int i2), s3] [(.int i2)])) rfl (hb hby at_72) _ ?_
    exact k
  by_cases hc74_0 : i2 < (57344 : Int32)
  · rw [if_pos hc74_0]
    refine Done.of (T' := T0) (g' := (mkF m 83 #[.val (.int i0), .val (.int i1), .val (.int i2), s3] [])) (fun t k => ?_) ?_
    · show Steps p.tables e below (T0.setTop (mkF m 74 #[.val (.int i0), .val (.int i1), .val (.int i2), s3] [(.int (57344 : Int32)), (.int i2)])) t
      refine XS.icmpYes X0.here hx rfl (pc0 := 74) (pc' := 83) rfl (hb hby at_74) rfl (tlt hc74_0).1 (by decide) (by decide) ?_
      exact k
    exact bk0_83 hx hZ hw hby hml hown hnm hret hlk X0 N0 e0 i0 i1 i2 (s3) hs3 Z0
  · rw [if_neg hc74_0]
    refine Done.of (T' := T0) (g' := (mkF m 80 #[.val (.int i0), .val (.int i1), .val (.int i2), s3] [(.int (63743 : Int32)), (.int i2)])) (fun t k => ?_) ?_
    · show Steps p.tables e below (T0.setTop (mkF m 74 #[.val (.int i0), .val (.int i1), .val (.int i2), s3] [(.int (57344 : Int32)), (.int i2)])) t
      refine XS.icmpNo X0.here hx rfl (hb hby at_74) rfl (flt hc74_0).1 ?_
      show Steps p.tables e below (T0.setTop (mkF m 77 #[.val (.int i0), .val (.int i1), .val (.int i2), s3] [])) t
      refine XS.iloadN X0.here hx rfl (hb hby at_77) rfl ?_
      show Steps p.tables e below (T0.setTop (mkF m 78 #[.val (.int i0), .val (.int i1), .val (.int i2), s3] [(.int i2)])) t
      refine X0.ldcInt hx hown (mvT hZ (hw _ (List.mem_of_getElem? (i := 2) rfl))) (g := (mkF m 78 #[.val (.int i0), .val (.int i1), .val (.int i2), s3] [(.int i2)])) rfl (hb hby at_78) _ ?_
      exact k
    by_cases hc80_1 : (63743 : Int32) < i2
    · rw [if_pos hc80_1]
      refine Done.of (T' := T0) (g' := (mkF m 83 #[.val (.int i0), .val (.int i1), .val (.int i2), s3] [])) (fun t k => ?_) ?_
      · show Steps p.tables e below (T0.setTop (mkF m 80 #[.val (.int i0), .val (.int i1), .val (.int i2), s3] [(.int (63743 : Int32)), (.int i2)])) t
        refine XS.icmpNo X0.here hx rfl (hb hby at_80) rfl (tlt hc80_1).2.2.2 ?_
        exact k
      exact bk0_83 hx hZ hw hby hml hown hnm hret hlk X0 N0 e0 i0 i1 i2 (s3) hs3 Z0
    · rw [if_neg hc80_1]
      refine Done.of (T' := T0) (g' := (mkF m 107 #[.val (.int i0), .val (.int i1), .val (.int i2), s3] [])) (fun t k => ?_) ?_
      · show Steps p.tables e below (T0.setTop (mkF m 80 #[.val (.int i0), .val (.int i1), .val (.int i2), s3] [(.int (63743 : Int32)), (.int i2)])) t
        refine XS.icmpYes X0.here hx rfl (pc0 := 80) (pc' := 107) rfl (hb hby at_80) rfl (flt hc80_1).2.2.2 (by decide) (by decide) ?_
        exact k
      exact bk0_107 hx hZ hw hby hml hown hnm hret hlk X0 N0 e0 i0 i1 i2 (s3) hs3 Z0
def F0_0 (p1 : Int32) (p2 : Int32) : Int32 := (if (p2 &&& (1 : Int32)) = (0 : Int32) then (F0_71 p1 p2 p1) else (F0_71 p1 p2 ((own_tab.getD ((((p2.toUInt32 >>> ((1 : Int32) &&& 31).toUInt32).toInt32) &&& (7 : Int32))).toNatClampNeg 0) + (p1 % (5 : Int32)))))
set_option maxRecDepth 65536 in
set_option maxHeartbeats 40000000 in
theorem bk0_0 {p : Program} {l : Launch} {e : Env} {s : State} {m : MethodId} {args : Array Value} {below : List Frame} {meth : Method} {c : Code} {T0 : State} {locs : List Loc} {Z : State} {a0 : Array Value} {h0 : Heap} {n0 : Nat}
    (hx : p.tables.exec = Jvm.exec) (hZ : Z.Warmed39 s.vm) (hw : ∀ d ∈ tables_1, d.before a0 Z = true) (hby : c.code = code) (hml : c.maxLocals = 4) (hown : s.vm.findClass "com/example/pilotfish/pilotfish/formats/UriReferencesIsIprivatePinLaw" = some m.cls) (hnm : meth.name = "law") (hret : meth.sig.returnType = some .boolean) (hlk : meth.locks = false)
    (X0 : Stand p l e room_1 s m args below meth c T0 locs 0 0) (N0 : Fr n0 locs) (e0 : T0.heap = h0) (p1 : Int32) (p2 : Int32) (Z0 : n0 ≤ h0.size) :
    Done p e below s room_1 (Ql n0 (.int (F0_0 p1 p2))) T0 (mkF m 0 #[.val (.int p1), .val (.int p2), .unset, .unset] []) := by
  unfold F0_0
  refine Done.of (T' := T0) (g' := (mkF m 3 #[.val (.int p1), .val (.int p2), .unset, .unset] [(.int (p2 &&& (1 : Int32)))])) (fun t k => ?_) ?_
  · show Steps p.tables e below (T0.setTop (mkF m 0 #[.val (.int p1), .val (.int p2), .unset, .unset] [])) t
    refine XS.iloadN X0.here hx rfl (hb hby at_0) rfl ?_
    show Steps p.tables e below (T0.setTop (mkF m 1 #[.val (.int p1), .val (.int p2), .unset, .unset] [(.int p2)])) t
    refine XS.iconst X0.here hx rfl (hb hby at_1) ?_
    show Steps p.tables e below (T0.setTop (mkF m 2 #[.val (.int p1), .val (.int p2), .unset, .unset] [(.int (1 : Int32)), (.int p2)])) t
    refine XS.iand X0.here hx rfl (hb hby at_2) rfl ?_
    exact k
  by_cases hc3_0 : (p2 &&& (1 : Int32)) = (0 : Int32)
  · rw [if_pos hc3_0]
    refine Done.of (T' := T0) (g' := (mkF m 71 #[.val (.int p1), .val (.int p2), .val (.int p1), .unset] [])) (fun t k => ?_) ?_
    · show Steps p.tables e below (T0.setTop (mkF m 3 #[.val (.int p1), .val (.int p2), .unset, .unset] [(.int (p2 &&& (1 : Int32)))])) t
      refine XS.ifNo X0.here hx rfl (hb hby at_3) rfl ((if0 _ _).trans (teq hc3_0).2) ?_
      show Steps p.tables e below (T0.setTop (mkF m 6 #[.val (.int p1), .val (.int p2), .unset, .unset] [])) t
      refine XS.iloadN X0.here hx rfl (hb hby at_6) rfl ?_
      show Steps p.tables e below (T0.setTop (mkF m 7 #[.val (.int p1), .val (.int p2), .unset, .unset] [(.int p1)])) t
      refine XS.istoreN X0.here hx rfl (hb hby at_7) rfl (l' := #[.val (.int p1), .val (.int p2), .val (.int p1), .unset]) rfl ?_
      show Steps p.tables e below (T0.setTop (mkF m 8 #[.val (.int p1), .val (.int p2), .val (.int p1), .unset] [])) t
      refine XS.goto X0.here hx rfl (pc0 := 8) (pc' := 71) rfl (hb hby at_8) (by decide) (by decide) ?_
      exact k
    exact bk0_71 hx hZ hw hby hml hown hnm hret hlk (X0.more (by decide) (by decide)) N0 e0 p1 p2 p1 (.unset) One.u Z0
  · rw [if_neg hc3_0]
    refine Done.of (T' := T0) (g' := (mkF m 13 #[.val (.int p1), .val (.int p2), .unset, .unset] [(.int (8 : Int32))])) (fun t k => ?_) ?_
    · show Steps p.tables e below (T0.setTop (mkF m 3 #[.val (.int p1), .val (.int p2), .unset, .unset] [(.int (p2 &&& (1 : Int32)))])) t
      refine XS.ifYes X0.here hx rfl (pc0 := 3) (pc' := 11) rfl (hb hby at_3) rfl ((if0 _ _).trans (feq hc3_0).2) (by decide) (by decide) ?_
      show Steps p.tables e below (T0.setTop (mkF m 11 #[.val (.int p1), .val (.int p2), .unset, .unset] [])) t
      refine XS.bipush X0.here hx rfl (hb hby at_11) ?_
      exact k
    obtain ⟨T2, h2, k2, X2, e2, E2, A2, st2⟩ := newP X0 hx hZ (hw _ (List.mem_of_getElem? (i := 0) rfl)) e0 (g := (mkF m 13 #[.val (.int p1), .val (.int p2), .unset, .unset] [(.int (8 : Int32))])) rfl (hb hby at_13) rfl (by decide) (cap := 8) (by decide) (by decide) (by decide) (by decide)
    obtain ⟨b2, g2⟩ : ∃ z, z = h0.size := ⟨_, rfl⟩
    rw [← g2] at A2 st2
    have V2 : Arv Z h2 b2 k2 .int (8 : Int32) [(.int (0 : Int32)), (.int (0 : Int32)), (.int (0 : Int32)), (.int (0 : Int32)), (.int (0 : Int32)), (.int (0 : Int32)), (.int (0 : Int32)), (.int (0 : Int32))] (.int (0 : Int32)) := (Arv.new A2 (by decide)).pad (pad_rep [] (.int (0 : Int32)) 8)
    have g_b2 : n0 ≤ b2 := Nat.le_trans Z0 (Nat.le_of_eq g2.symm)
    refine Done.of (g' := (mkF m 15 #[.val (.int p1), .val (.int p2), .unset, .unset] [(.ref b2)])) st2 ?_
    refine Done.of (T' := T2) (g' := (mkF m 19 #[.val (.int p1), .val (.int p2), .unset, .unset] [(.int (57344 : Int32)), (.int (0 : Int32)), (.ref b2), (.ref b2)])) (fun t k => ?_) ?_
    · show Steps p.tables e below (T2.setTop (mkF m 15 #[.val (.int p1), .val (.int p2), .unset, .unset] [(.ref b2)])) t
      refine XS.dup X2.here hx rfl (hb hby at_15) rfl rfl ?_
      show Steps p.tables e below (T2.setTop (mkF m 16 #[.val (.int p1), .val (.int p2), .unset, .unset] [(.ref b2), (.ref b2)])) t
      refine XS.iconst X2.here hx rfl (hb hby at_16) ?_
      show Steps p.tables e below (T2.setTop (mkF m 17 #[.val (.int p1), .val (.int p2), .unset, .unset] [(.int (0 : Int32)), (.ref b2), (.ref b2)])) t
      refine X2.ldcInt hx hown (mvT hZ (hw _ (List.mem_of_getElem? (i := 1) rfl))) (g := (mkF m 17 #[.val (.int p1), .val (.int p2), .unset, .unset] [(.int (0 : Int32)), (.ref b2), (.ref b2)])) rfl (hb hby at_17) _ ?_
      exact k
    obtain ⟨cl_o4, Ar_o4, q_o4, S_o4, Nn_o4, H_o4, G_o4⟩ := id V2
    have hin3 : ¬ ((0 : Int32) < 0 ∨ cl_o4.slots.size ≤ ((0 : Int32)).toNatClampNeg) := inb_of S_o4 ⟨by decide, by decide⟩
    obtain ⟨T3, h3, X3, e3, W3, st3⟩ := stI X2 hx hZ e2 Ar_o4 (j := (0 : Int32)) hin3 (g := (mkF m 19 #[.val (.int p1), .val (.int p2), .unset, .unset] [(.int (57344 : Int32)), (.int (0 : Int32)), (.ref b2), (.ref b2)])) rfl rfl (hb hby at_19)
    have V3 : Arv Z h3 b2 k2 .int (8 : Int32) [(.int (57344 : Int32)), (.int (0 : Int32)), (.int (0 : Int32)), (.int (0 : Int32)), (.int (0 : Int32)), (.int (0 : Int32)), (.int (0 : Int32)), (.int (0 : Int32))] (.int (0 : Int32)) := Arv.set Ar_o4 q_o4 S_o4 Nn_o4 H_o4 G_o4 rfl W3 0 rfl (Nat.le_of_ble_eq_true rfl)
    have N3 := Fr.snoc X3 N0 g_b2
    refine Done.of (g' := (mkF m 20 #[.val (.int p1), .val (.int p2), .unset, .unset] [(.ref b2)])) st3 ?_
    refine Done.of (T' := T3) (g' := (mkF m 24 #[.val (.int p1), .val (.int p2), .unset, .unset] [(.int (63743 : Int32)), (.int (1 : Int32)), (.ref b2), (.ref b2)])) (fun t k => ?_) ?_
    · show Steps p.tables e below (T3.setTop (mkF m 20 #[.val (.int p1), .val (.int p2), .unset, .unset] [(.ref b2)])) t
      refine XS.dup X3.here hx rfl (hb hby at_20) rfl rfl ?_
      show Steps p.tables e below (T3.setTop (mkF m 21 #[.val (.int p1), .val (.int p2), .unset, .unset] [(.ref b2), (.ref b2)])) t
      refine XS.iconst X3.here hx rfl (hb hby at_21) ?_
      show Steps p.tables e below (T3.setTop (mkF m 22 #[.val (.int p1), .val (.int p2), .unset, .unset] [(.int (1 : Int32)), (.ref b2), (.ref b2)])) t
      refine X3.ldcInt hx hown (mvT hZ (hw _ (List.mem_of_getElem? (i := 2) rfl))) (g := (mkF m 22 #[.val (.int p1), .val (.int p2), .unset, .unset] [(.int (1 : Int32)), (.ref b2), (.ref b2)])) rfl (hb hby at_22) _ ?_
      exact k
    obtain ⟨cl_o6, Ar_o6, q_o6, S_o6, Nn_o6, H_o6, G_o6⟩ := id V3
    have hin5 : ¬ ((1 : Int32) < 0 ∨ cl_o6.slots.size ≤ ((1 : Int32)).toNatClampNeg) := inb_of S_o6 ⟨by decide, by decide⟩
    obtain ⟨T5, h5, X5, e5, W5, st5⟩ := stI X3 hx hZ e3 Ar_o6 (j := (1 : Int32)) hin5 (g := (mkF m 24 #[.val (.int p1), .val (.int p2), .unset, .unset] [(.int (63743 : Int32)), (.int (1 : Int32)), (.ref b2), (.ref b2)])) rfl rfl (hb hby at_24)
    have V5 : Arv Z h5 b2 k2 .int (8 : Int32) [(.int (57344 : Int32)), (.int (63743 : Int32)), (.int (0 : Int32)), (.int (0 : Int32)), (.int (0 : Int32)), (.int (0 : Int32)), (.int (0 : Int32)), (.int (0 : Int32))] (.int (0 : Int32)) := Arv.set Ar_o6 q_o6 S_o6 Nn_o6 H_o6 G_o6 rfl W5 1 rfl (Nat.le_of_ble_eq_true rfl)
    have N5 := Fr.snoc X5 N3 g_b2
    refine Done.of (g' := (mkF m 25 #[.val (.int p1), .val (.int p2), .unset, .unset] [(.ref b2)])) st5 ?_
    refine Done.of (T' := T5) (g' := (mkF m 29 #[.val (.int p1), .val (.int p2), .unset, .unset] [(.int (983040 : Int32)), (.int (2 : Int32)), (.ref b2), (.ref b2)])) (fun t k => ?_) ?_
    · show Steps p.tables e below (T5.setTop (mkF m 25 #[.val (.int p1), .val (.int p2), .unset, .unset] [(.ref b2)])) t
      refine XS.dup X5.here hx rfl (hb hby at_25) rfl rfl ?_
      show Steps p.tables e below (T5.setTop (mkF m 26 #[.val (.int p1), .val (.int p2), .unset, .unset] [(.ref b2), (.ref b2)])) t
      refine XS.iconst X5.here hx rfl (hb hby at_26) ?_
      show Steps p.tables e below (T5.setTop (mkF m 27 #[.val (.int p1), .val (.int p2), .unset, .unset] [(.int (2 : Int32)), (.ref b2), (.ref b2)])) t
      refine X5.ldcInt hx hown (mvT hZ (hw _ (List.mem_of_getElem? (i := 3) rfl))) (g := (mkF m 27 #[.val (.int p1), .val (.int p2), .unset, .unset] [(.int (2 : Int32)), (.ref b2), (.ref b2)])) rfl (hb hby at_27) _ ?_
      exact k
    obtain ⟨cl_o8, Ar_o8, q_o8, S_o8, Nn_o8, H_o8, G_o8⟩ := id V5
    have hin7 : ¬ ((2 : Int32) < 0 ∨ cl_o8.slots.size ≤ ((2 : Int32)).toNatClampNeg) := inb_of S_o8 ⟨by decide, by decide⟩
    obtain ⟨T7, h7, X7, e7, W7, st7⟩ := stI X5 hx hZ e5 Ar_o8 (j := (2 : Int32)) hin7 (g := (mkF m 29 #[.val (.int p1), .val (.int p2), .unset, .unset] [(.int (983040 : Int32)), (.int (2 : Int32)), (.ref b2), (.ref b2)])) rfl rfl (hb hby at_29)
    have V7 : Arv Z h7 b2 k2 .int (8 : Int32) [(.int (57344 : Int32)), (.int (63743 : Int32)), (.int (983040 : Int32)), (.int (0 : Int32)), (.int (0 : Int32)), (.int (0 : Int32)), (.int (0 : Int32)), (.int (0 : Int32))] (.int (0 : Int32)) := Arv.set Ar_o8 q_o8 S_o8 Nn_o8 H_o8 G_o8 rfl W7 2 rfl (Nat.le_of_ble_eq_true rfl)
    have N7 := Fr.snoc X7 N5 g_b2
    refine Done.of (g' := (mkF m 30 #[.val (.int p1), .val (.int p2), .unset, .unset] [(.ref b2)])) st7 ?_
    refine Done.of (T' := T7) (g' := (mkF m 34 #[.val (.int p1), .val (.int p2), .unset, .unset] [(.int (1048573 : Int32)), (.int (3 : Int32)), (.ref b2), (.ref b2)])) (fun t k => ?_) ?_
    · show Steps p.tables e below (T7.setTop (mkF m 30 #[.val (.int p1), .val (.int p2), .unset, .unset] [(.ref b2)])) t
      refine XS.dup X7.here hx rfl (hb hby at_30) rfl rfl ?_
      show Steps p.tables e below (T7.setTop (mkF m 31 #[.val (.int p1), .val (.int p2), .unset, .unset] [(.ref b2), (.ref b2)])) t
      refine XS.iconst X7.here hx rfl (hb hby at_31) ?_
      show Steps p.tables e below (T7.setTop (mkF m 32 #[.val (.int p1), .val (.int p2), .unset, .unset] [(.int (3 : Int32)), (.ref b2), (.ref b2)])) t
      refine X7.ldcInt hx hown (mvT hZ (hw _ (List.mem_of_getElem? (i := 4) rfl))) (g := (mkF m 32 #[.val (.int p1), .val (.int p2), .unset, .unset] [(.int (3 : Int32)), (.ref b2), (.ref b2)])) rfl (hb hby at_32) _ ?_
      exact k
    obtain ⟨cl_o10, Ar_o10, q_o10, S_o10, Nn_o10, H_o10, G_o10⟩ := id V7
    have hin9 : ¬ ((3 : Int32) < 0 ∨ cl_o10.slots.size ≤ ((3 : Int32)).toNatClampNeg) := inb_of S_o10 ⟨by decide, by decide⟩
    obtain ⟨T9, h9, X9, e9, W9, st9⟩ := stI X7 hx hZ e7 Ar_o10 (j := (3 : Int32)) hin9 (g := (mkF m 34 #[.val (.int p1), .val (.int p2), .unset, .unset] [(.int (1048573 : Int32)), (.int (3 : Int32)), (.ref b2), (.ref b2)])) rfl rfl (hb hby at_34)
    have V9 : Arv Z h9 b2 k2 .int (8 : Int32) [(.int (57344 : Int32)), (.int (63743 : Int32)), (.int (983040 : Int32)), (.int (1048573 : Int32)), (.int (0 : Int32)), (.int (0 : Int32)), (.int (0 : Int32)), (.int (0 : Int32))] (.int (0 : Int32)) := Arv.set Ar_o10 q_o10 S_o10 Nn_o10 H_o10 G_o10 rfl W9 3 rfl (Nat.le_of_ble_eq_true rfl)
    have N9 := Fr.snoc X9 N7 g_b2
    refine Done.of (g' := (mkF m 35 #[.val (.int p1), .val (.int p2), .unset, .unset] [(.ref b2)])) st9 ?_
    refine Done.of (T' := T9) (g' := (mkF m 39 #[.val (.int p1), .val (.int p2), .unset, .unset] [(.int (1048576 : Int32)), (.int (4 : Int32)), (.ref b2), (.ref b2)])) (fun t k => ?_) ?_
    · show Steps p.tables e below (T9.setTop (mkF m 35 #[.val (.int p1), .val (.int p2), .unset, .unset] [(.ref b2)])) t
      refine XS.dup X9.here hx rfl (hb hby at_35) rfl rfl ?_
      show Steps p.tables e below (T9.setTop (mkF m 36 #[.val (.int p1), .val (.int p2), .unset, .unset] [(.ref b2), (.ref b2)])) t
      refine XS.iconst X9.here hx rfl (hb hby at_36) ?_
      show Steps p.tables e below (T9.setTop (mkF m 37 #[.val (.int p1), .val (.int p2), .unset, .unset] [(.int (4 : Int32)), (.ref b2), (.ref b2)])) t
      refine X9.ldcInt hx hown (mvT hZ (hw _ (List.mem_of_getElem? (i := 5) rfl))) (g := (mkF m 37 #[.val (.int p1), .val (.int p2), .unset, .unset] [(.int (4 : Int32)), (.ref b2), (.ref b2)])) rfl (hb hby at_37) _ ?_
      exact k
    obtain ⟨cl_o12, Ar_o12, q_o12, S_o12, Nn_o12, H_o12, G_o12⟩ := id V9
    have hin11 : ¬ ((4 : Int32) < 0 ∨ cl_o12.slots.size ≤ ((4 : Int32)).toNatClampNeg) := inb_of S_o12 ⟨by decide, by decide⟩
    obtain ⟨T11, h11, X11, e11, W11, st11⟩ := stI X9 hx hZ e9 Ar_o12 (j := (4 : Int32)) hin11 (g := (mkF m 39 #[.val (.int p1), .val (.int p2), .unset, .unset] [(.int (1048576 : Int32)), (.int (4 : Int32)), (.ref b2), (.ref b2)])) rfl rfl (hb hby at_39)
    have V11 : Arv Z h11 b2 k2 .int (8 : Int32) [(.int (57344 : Int32)), (.int (63743 : Int32)), (.int (983040 : Int32)), (.int (1048573 : Int32)), (.int (1048576 : Int32)), (.int (0 : Int32)), (.int (0 : Int32)), (.int (0 : Int32))] (.int (0 : Int32)) := Arv.set Ar_o12 q_o12 S_o12 Nn_o12 H_o12 G_o12 rfl W11 4 rfl (Nat.le_of_ble_eq_true rfl)
    have N11 := Fr.snoc X11 N9 g_b2
    refine Done.of (g' := (mkF m 40 #[.val (.int p1), .val (.int p2), .unset, .unset] [(.ref b2)])) st11 ?_
    refine Done.of (T' := T11) (g' := (mkF m 44 #[.val (.int p1), .val (.int p2), .unset, .unset] [(.int (1114109 : Int32)), (.int (5 : Int32)), (.ref b2), (.ref b2)])) (fun t k => ?_) ?_
    · show Steps p.tables e below (T11.setTop (mkF m 40 #[.val (.int p1), .val (.int p2), .unset, .unset] [(.ref b2)])) t
      refine XS.dup X11.here hx rfl (hb hby at_40) rfl rfl ?_
      show Steps p.tables e below (T11.setTop (mkF m 41 #[.val (.int p1), .val (.int p2), .unset, .unset] [(.ref b2), (.ref b2)])) t
      refine XS.iconst X11.here hx rfl (hb hby at_41) ?_
      show Steps p.tables e below (T11.setTop (mkF m 42 #[.val (.int p1), .val (.int p2), .unset, .unset] [(.int (5 : Int32)), (.ref b2), (.ref b2)])) t
      refine X11.ldcInt hx hown (mvT hZ (hw _ (List.mem_of_getElem? (i := 6) rfl))) (g := (mkF m 42 #[.val (.int p1), .val (.int p2), .unset, .unset] [(.int (5 : Int32)), (.ref b2), (.ref b2)])) rfl (hb hby at_42) _ ?_
      exact k
    obtain ⟨cl_o14, Ar_o14, q_o14, S_o14, Nn_o14, H_o14, G_o14⟩ := id V11
    have hin13 : ¬ ((5 : Int32) < 0 ∨ cl_o14.slots.size ≤ ((5 : Int32)).toNatClampNeg) := inb_of S_o14 ⟨by decide, by decide⟩
    obtain ⟨T13, h13, X13, e13, W13, st13⟩ := stI X11 hx hZ e11 Ar_o14 (j := (5 : Int32)) hin13 (g := (mkF m 44 #[.val (.int p1), .val (.int p2), .unset, .unset] [(.int (1114109 : Int32)), (.int (5 : Int32)), (.ref b2), (.ref b2)])) rfl rfl (hb hby at_44)
    have V13 : Arv Z h13 b2 k2 .int (8 : Int32) [(.int (57344 : Int32)), (.int (63743 : Int32)), (.int (983040 : Int32)), (.int (1048573 : Int32)), (.int (1048576 : Int32)), (.int (1114109 : Int32)), (.int (0 : Int32)), (.int (0 : Int32))] (.int (0 : Int32)) := Arv.set Ar_o14 q_o14 S_o14 Nn_o14 H_o14 G_o14 rfl W13 5 rfl (Nat.le_of_ble_eq_true rfl)
    have N13 := Fr.snoc X13 N11 g_b2
    refine Done.of (g' := (mkF m 45 #[.val (.int p1), .val (.int p2), .unset, .unset] [(.ref b2)])) st13 ?_
    refine Done.of (T' := T13) (g' := (mkF m 50 #[.val (.int p1), .val (.int p2), .unset, .unset] [(.int (1048574 : Int32)), (.int (6 : Int32)), (.ref b2), (.ref b2)])) (fun t k => ?_) ?_
    · show Steps p.tables e below (T13.setTop (mkF m 45 #[.val (.int p1), .val (.int p2), .unset, .unset] [(.ref b2)])) t
      refine XS.dup X13.here hx rfl (hb hby at_45) rfl rfl ?_
      show Steps p.tables e below (T13.setTop (mkF m 46 #[.val (.int p1), .val (.int p2), .unset, .unset] [(.ref b2), (.ref b2)])) t
      refine XS.bipush X13.here hx rfl (hb hby at_46) ?_
      show Steps p.tables e below (T13.setTop (mkF m 48 #[.val (.int p1), .val (.int p2), .unset, .unset] [(.int (6 : Int32)), (.ref b2), (.ref b2)])) t
      refine X13.ldcInt hx hown (mvT hZ (hw _ (List.mem_of_getElem? (i := 7) rfl))) (g := (mkF m 48 #[.val (.int p1), .val (.int p2), .unset, .unset] [(.int (6 : Int32)), (.ref b2), (.ref b2)])) rfl (hb hby at_48) _ ?_
      exact k
    obtain ⟨cl_o16, Ar_o16, q_o16, S_o16, Nn_o16, H_o16, G_o16⟩ := id V13
    have hin15 : ¬ ((6 : Int32) < 0 ∨ cl_o16.slots.size ≤ ((6 : Int32)).toNatClampNeg) := inb_of S_o16 ⟨by decide, by decide⟩
    obtain ⟨T15, h15, X15, e15, W15, st15⟩ := stI X13 hx hZ e13 Ar_o16 (j := (6 : Int32)) hin15 (g := (mkF m 50 #[.val (.int p1), .val (.int p2), .unset, .unset] [(.int (1048574 : Int32)), (.int (6 : Int32)), (.ref b2), (.ref b2)])) rfl rfl (hb hby at_50)
    have V15 : Arv Z h15 b2 k2 .int (8 : Int32) [(.int (57344 : Int32)), (.int (63743 : Int32)), (.int (983040 : Int32)), (.int (1048573 : Int32)), (.int (1048576 : Int32)), (.int (1114109 : Int32)), (.int (1048574 : Int32)), (.int (0 : Int32))] (.int (0 : Int32)) := Arv.set Ar_o16 q_o16 S_o16 Nn_o16 H_o16 G_o16 rfl W15 6 rfl (Nat.le_of_ble_eq_true rfl)
    have N15 := Fr.snoc X15 N13 g_b2
    refine Done.of (g' := (mkF m 51 #[.val (.int p1), .val (.int p2), .unset, .unset] [(.ref b2)])) st15 ?_
    refine Done.of (T' := T15) (g' := (mkF m 56 #[.val (.int p1), .val (.int p2), .unset, .unset] [(.int (1114111 : Int32)), (.int (7 : Int32)), (.ref b2), (.ref b2)])) (fun t k => ?_) ?_
    · show Steps p.tables e below (T15.setTop (mkF m 51 #[.val (.int p1), .val (.int p2), .unset, .unset] [(.ref b2)])) t
      refine XS.dup X15.here hx rfl (hb hby at_51) rfl rfl ?_
      show Steps p.tables e below (T15.setTop (mkF m 52 #[.val (.int p1), .val (.int p2), .unset, .unset] [(.ref b2), (.ref b2)])) t
      refine XS.bipush X15.here hx rfl (hb hby at_52) ?_
      show Steps p.tables e below (T15.setTop (mkF m 54 #[.val (.int p1), .val (.int p2), .unset, .unset] [(.int (7 : Int32)), (.ref b2), (.ref b2)])) t
      refine X15.ldcInt hx hown (mvT hZ (hw _ (List.mem_of_getElem? (i := 8) rfl))) (g := (mkF m 54 #[.val (.int p1), .val (.int p2), .unset, .unset] [(.int (7 : Int32)), (.ref b2), (.ref b2)])) rfl (hb hby at_54) _ ?_
      exact k
    obtain ⟨cl_o18, Ar_o18, q_o18, S_o18, Nn_o18, H_o18, G_o18⟩ := id V15
    have hin17 : ¬ ((7 : Int32) < 0 ∨ cl_o18.slots.size ≤ ((7 : Int32)).toNatClampNeg) := inb_of S_o18 ⟨by decide, by decide⟩
    obtain ⟨T17, h17, X17, e17, W17, st17⟩ := stI X15 hx hZ e15 Ar_o18 (j := (7 : Int32)) hin17 (g := (mkF m 56 #[.val (.int p1), .val (.int p2), .unset, .unset] [(.int (1114111 : Int32)), (.int (7 : Int32)), (.ref b2), (.ref b2)])) rfl rfl (hb hby at_56)
    have V17 : Arv Z h17 b2 k2 .int (8 : Int32) [(.int (57344 : Int32)), (.int (63743 : Int32)), (.int (983040 : Int32)), (.int (1048573 : Int32)), (.int (1048576 : Int32)), (.int (1114109 : Int32)), (.int (1048574 : Int32)), (.int (1114111 : Int32))] (.int (0 : Int32)) := Arv.set Ar_o18 q_o18 S_o18 Nn_o18 H_o18 G_o18 rfl W17 7 rfl (Nat.le_of_ble_eq_true rfl)
    have N17 := Fr.snoc X17 N15 g_b2
    refine Done.of (g' := (mkF m 57 #[.val (.int p1), .val (.int p2), .unset, .unset] [(.ref b2)])) st17 ?_
    refine Done.of (T' := T17) (g' := (mkF m 65 #[.val (.int p1), .val (.int p2), .unset, .val (.ref b2)] [(.int (((p2.toUInt32 >>> ((1 : Int32) &&& 31).toUInt32).toInt32) &&& (7 : Int32))), (.ref b2)])) (fun t k => ?_) ?_
    · show Steps p.tables e below (T17.setTop (mkF m 57 #[.val (.int p1), .val (.int p2), .unset, .unset] [(.ref b2)])) t
      refine XS.astoreN X17.here hx rfl (hb hby at_57) rfl rfl (l' := #[.val (.int p1), .val (.int p2), .unset, .val (.ref b2)]) rfl ?_
      show Steps p.tables e below (T17.setTop (mkF m 58 #[.val (.int p1), .val (.int p2), .unset, .val (.ref b2)] [])) t
      refine XS.aloadN X17.here hx rfl (hb hby at_58) rfl rfl ?_
      show Steps p.tables e below (T17.setTop (mkF m 59 #[.val (.int p1), .val (.int p2), .unset, .val (.ref b2)] [(.ref b2)])) t
      refine XS.iloadN X17.here hx rfl (hb hby at_59) rfl ?_
      show Steps p.tables e below (T17.setTop (mkF m 60 #[.val (.int p1), .val (.int p2), .unset, .val (.ref b2)] [(.int p2), (.ref b2)])) t
      refine XS.iconst X17.here hx rfl (hb hby at_60) ?_
      show Steps p.tables e below (T17.setTop (mkF m 61 #[.val (.int p1), .val (.int p2), .unset, .val (.ref b2)] [(.int (1 : Int32)), (.int p2), (.ref b2)])) t
      refine XS.iushr X17.here hx rfl (hb hby at_61) rfl ?_
      show Steps p.tables e below (T17.setTop (mkF m 62 #[.val (.int p1), .val (.int p2), .unset, .val (.ref b2)] [(.int ((p2.toUInt32 >>> ((1 : Int32) &&& 31).toUInt32).toInt32)), (.ref b2)])) t
      refine XS.bipush X17.here hx rfl (hb hby at_62) ?_
      show Steps p.tables e below (T17.setTop (mkF m 64 #[.val (.int p1), .val (.int p2), .unset, .val (.ref b2)] [(.int (7 : Int32)), (.int ((p2.toUInt32 >>> ((1 : Int32) &&& 31).toUInt32).toInt32)), (.ref b2)])) t
      refine XS.iand X17.here hx rfl (hb hby at_64) rfl ?_
      exact k
    obtain ⟨cl_o20, Ar_o20, q_o20, S_o20, Nn_o20, H_o20, G_o20⟩ := id V17
    have hin19 : ¬ ((((p2.toUInt32 >>> ((1 : Int32) &&& 31).toUInt32).toInt32) &&& (7 : Int32)) < 0 ∨ cl_o20.slots.size ≤ ((((p2.toUInt32 >>> ((1 : Int32) &&& 31).toUInt32).toInt32) &&& (7 : Int32))).toNatClampNeg) := inb_of S_o20 (own_in p2)
    have hat19 : cl_o20.slots[((((p2.toUInt32 >>> ((1 : Int32) &&& 31).toUInt32).toInt32) &&& (7 : Int32))).toNatClampNeg]? = some (.int (own_tab.getD ((((p2.toUInt32 >>> ((1 : Int32) &&& 31).toUInt32).toInt32) &&& (7 : Int32))).toNatClampNeg 0)) := own_hat (vs := own_tab) H_o20 hin19
    refine Done.of (g' := (mkF m 66 #[.val (.int p1), .val (.int p2), .unset, .val (.ref b2)] [(.int (own_tab.getD ((((p2.toUInt32 >>> ((1 : Int32) &&& 31).toUInt32).toInt32) &&& (7 : Int32))).toNatClampNeg 0))])) (X17.iaload hx (j := (((p2.toUInt32 >>> ((1 : Int32) &&& 31).toUInt32).toInt32) &&& (7 : Int32))) (v := (.int (own_tab.getD ((((p2.toUInt32 >>> ((1 : Int32) &&& 31).toUInt32).toInt32) &&& (7 : Int32))).toNatClampNeg 0))) (by rw [e17]; exact Ar_o20.1) (State.isArrayOf_alike hZ.alike Ar_o20.2.1) Ar_o20.2.2 hin19 hat19 (g := (mkF m 65 #[.val (.int p1), .val (.int p2), .unset, .val (.ref b2)] [(.int (((p2.toUInt32 >>> ((1 : Int32) &&& 31).toUInt32).toInt32) &&& (7 : Int32))), (.ref b2)])) rfl rfl (hb hby at_65)) ?_
    refine Done.of (T' := T17) (g' := (mkF m 71 #[.val (.int p1), .val (.int p2), .val (.int ((own_tab.getD ((((p2.toUInt32 >>> ((1 : Int32) &&& 31).toUInt32).toInt32) &&& (7 : Int32))).toNatClampNeg 0) + (p1 % (5 : Int32)))), .val (.ref b2)] [])) (fun t k => ?_) ?_
    · show Steps p.tables e below (T17.setTop (mkF m 66 #[.val (.int p1), .val (.int p2), .unset, .val (.ref b2)] [(.int (own_tab.getD ((((p2.toUInt32 >>> ((1 : Int32) &&& 31).toUInt32).toInt32) &&& (7 : Int32))).toNatClampNeg 0))])) t
      refine XS.iloadN X17.here hx rfl (hb hby at_66) rfl ?_
      show Steps p.tables e below (T17.setTop (mkF m 67 #[.val (.int p1), .val (.int p2), .unset, .val (.ref b2)] [(.int p1), (.int (own_tab.getD ((((p2.toUInt32 >>> ((1 : Int32) &&& 31).toUInt32).toInt32) &&& (7 : Int32))).toNatClampNeg 0))])) t
      refine XS.iconst X17.here hx rfl (hb hby at_67) ?_
      show Steps p.tables e below (T17.setTop (mkF m 68 #[.val (.int p1), .val (.int p2), .unset, .val (.ref b2)] [(.int (5 : Int32)), (.int p1), (.int (own_tab.getD ((((p2.toUInt32 >>> ((1 : Int32) &&& 31).toUInt32).toInt32) &&& (7 : Int32))).toNatClampNeg 0))])) t
      refine iremM X17 hx rfl (hb hby at_68) rfl (by decide) ?_
      show Steps p.tables e below (T17.setTop (mkF m 69 #[.val (.int p1), .val (.int p2), .unset, .val (.ref b2)] [(.int (p1 % (5 : Int32))), (.int (own_tab.getD ((((p2.toUInt32 >>> ((1 : Int32) &&& 31).toUInt32).toInt32) &&& (7 : Int32))).toNatClampNeg 0))])) t
      refine XS.iadd X17.here hx rfl (hb hby at_69) rfl ?_
      show Steps p.tables e below (T17.setTop (mkF m 70 #[.val (.int p1), .val (.int p2), .unset, .val (.ref b2)] [(.int ((own_tab.getD ((((p2.toUInt32 >>> ((1 : Int32) &&& 31).toUInt32).toInt32) &&& (7 : Int32))).toNatClampNeg 0) + (p1 % (5 : Int32))))])) t
      refine XS.istoreN X17.here hx rfl (hb hby at_70) rfl (l' := #[.val (.int p1), .val (.int p2), .val (.int ((own_tab.getD ((((p2.toUInt32 >>> ((1 : Int32) &&& 31).toUInt32).toInt32) &&& (7 : Int32))).toNatClampNeg 0) + (p1 % (5 : Int32)))), .val (.ref b2)]) rfl ?_
      exact k
    exact bk0_71 hx hZ hw hby hml hown hnm hret hlk X17 N17 e17 p1 p2 ((own_tab.getD ((((p2.toUInt32 >>> ((1 : Int32) &&& 31).toUInt32).toInt32) &&& (7 : Int32))).toNatClampNeg 0) + (p1 % (5 : Int32))) (.val (.ref b2)) (One.val rfl) (Nat.le_trans (Nat.le_trans (Nat.le_trans (Nat.le_trans (Nat.le_trans (Nat.le_trans (Nat.le_trans (Nat.le_trans (Nat.le_trans Z0 E2.1) (Keep.of_wr W3).1) (Keep.of_wr W5).1) (Keep.of_wr W7).1) (Keep.of_wr W9).1) (Keep.of_wr W11).1) (Keep.of_wr W13).1) (Keep.of_wr W15).1) (Keep.of_wr W17).1)
theorem own_rv (c A B f v : Int32) {a b : Int} (hA : A.toInt = a) (hB : B.toInt = b) : (if c < A then f else (if B < c then f else v)) = if (a ≤ c.toInt ∧ c.toInt ≤ b) then v else f := by
  simp only [Int32.lt_iff_toInt_lt]
  repeat' split
  all_goals first | rfl | (exfalso; omega)
theorem own_ei (c A f v : Int32) {a : Int} (hA : A.toInt = a) : (if c = A then f else v) = if c.toInt = a then f else v := by
  rw [← hA]; by_cases h : c = A
  · rw [if_pos h, if_pos (by rw [h])]
  · rw [if_neg h, if_neg (fun q => h (Int32.toInt_inj.mp q))]
theorem own_li (c A f v : Int32) {a : Int} (hA : A.toInt = a) : (if c < A then f else v) = if c.toInt < a then f else v := by
  simp only [Int32.lt_iff_toInt_lt, hA]
theorem own_gi (c A f v : Int32) {a : Int} (hA : A.toInt = a) : (if A < c then f else v) = if a < c.toInt then f else v := by
  simp only [Int32.lt_iff_toInt_lt, hA]
theorem own_R1_12 (i0 : Int32) : F1_12 i0 = (if (983040 ≤ i0.toInt ∧ i0.toInt ≤ 1114109) then (if (65533 : Int32) < (i0 &&& (65535 : Int32)) then (0 : Int32) else (1 : Int32)) else (0 : Int32)) := by
  unfold F1_12; rw [own_rv i0 (983040 : Int32) (1114109 : Int32) _ _ (a := 983040) (b := 1114109) rfl rfl]
theorem own_R1_0 (p1 : Int32) : F1_0 p1 = (if (57344 ≤ p1.toInt ∧ p1.toInt ≤ 63743) then (1 : Int32) else (F1_12 p1)) := by
  unfold F1_0; rw [own_rv p1 (57344 : Int32) (63743 : Int32) _ _ (a := 57344) (b := 63743) rfl rfl]
theorem own_F (c : Int32) : (F1_0 c = 1 ∧ ((57344 ≤ c.toInt ∧ c.toInt ≤ 63743) ∨ (983040 ≤ c.toInt ∧ c.toInt ≤ 1114109 ∧ c.toInt % 65536 ≤ 65533))) ∨ (F1_0 c = 0 ∧ ¬ ((57344 ≤ c.toInt ∧ c.toInt ≤ 63743) ∨ (983040 ≤ c.toInt ∧ c.toInt ≤ 1114109 ∧ c.toInt % 65536 ≤ 65533))) := by
  have m := c_mask c 65535 16 (by decide) (by decide)
  simp only [own_R1_12, own_R1_0]
  rw [own_gi (c &&& 65535) 65533 _ _ (a := 65533) rfl]
  repeat' split
  all_goals first | exact Or.inl ⟨rfl, by omega⟩ | exact Or.inr ⟨rfl, by omega⟩
theorem own_71 (i0 i1 c : Int32) : F0_71 i0 i1 c = 1 := by
  unfold F0_71 F0_83 F0_95 F0_107 F0_111 F0_112
  rcases own_F c with ⟨h, q⟩ | ⟨h, q⟩ <;> rw [h]
  · simp only [own_rv c 57344 63743 _ _ (a := 57344) (b := 63743) rfl rfl, own_rv c 983040 1048573 _ _ (a := 983040) (b := 1048573) rfl rfl, own_rv c 1048576 1114109 _ _ (a := 1048576) (b := 1114109) rfl rfl]
    repeat' split
    all_goals first | rfl | (exfalso; omega) | (exfalso; rename_i q; exact q trivial) | simp_all
  · simp only [own_rv c 57344 63743 _ _ (a := 57344) (b := 63743) rfl rfl, own_rv c 983040 1048573 _ _ (a := 983040) (b := 1048573) rfl rfl, own_rv c 1048576 1114109 _ _ (a := 1048576) (b := 1114109) rfl rfl]
    repeat' split
    all_goals first | rfl | (exfalso; omega) | (exfalso; rename_i q; exact q trivial) | simp_all
theorem own_law (p1 p2 : Int32) : F0_0 p1 p2 = 1 := by
  unfold F0_0
  split <;> exact own_71 _ _ _
theorem ef_0 (m : MethodId) (p1 : Int32) (p2 : Int32) : entryFrame m #[(.int p1), (.int p2)] maxLocals = mkF m 0 #[.val (.int p1), .val (.int p2), .unset, .unset] [] := by first | (simp [entryFrame, mkF, argsToLocals, Value.category, maxLocals]; done) | rfl
theorem pn_0 : plainName "com/example/pilotfish/pilotfish/formats/UriReferencesIsIprivatePinLaw" = true := by first | (simp [plainName, overriddenIn]; done) | decide +kernel
set_option maxRecDepth 65536 in
set_option maxHeartbeats 40000000 in
theorem rm0 (l : Launch) (Z : State) (a0 : Array Value) (hw : ∀ d ∈ tables_1, d.before a0 Z = true) (ws : List Jvm.Cond) (p1 : Int32) (p2 : Int32) (h0 : Heap) (n0 : Nat) (Z0 : n0 ≤ h0.size) :
    MetFree l x (head1 (Jvm.Cond.code x code maxLocals ret :: ws) room_1) (fun a U => a = #[(.int p1), (.int p2)] ∧ Z.Warmed39 U.vm ∧ U.heap = h0) (fun _ _ _ _ _ => True) (fun _ U o U' => ∃ v L, o = .returned v ∧ (Ql n0 (.int 1)) v U'.heap L ∧ FrameEnd U o U' L room_1.cells room_1.slots) := by
  refine MetFree.of_bodySF (plainFor_of_name pn_0) hisR ?_
  intro p e s m args below meth c s₁ Bd hml0 hP hK
  obtain ⟨rfl, hZ, hh⟩ := hP
  have hown : s.vm.findClass "com/example/pilotfish/pilotfish/formats/UriReferencesIsIprivatePinLaw" = some m.cls := findClass_of_methodNamed Bd.named
  have hnm := (name_of_methodNamed Bd.named Bd.method).1
  have X0 : Stand p l e room_1 s m #[(.int p1), (.int p2)] below meth c s₁ [] 0 0 := Stand.of_body Bd
  have e0 : s₁.heap = h0 := by rw [← hh, Bd.state]; rfl
  have d := bk0_0 (n0 := n0) Bd.exec hZ hw Bd.bytes hml0 hown hnm Bd.returns (BodyLoose.notSynchronized Bd) X0 (Fr.nil n0) e0 p1 p2 Z0
  rw [own_law p1 p2] at d
  have d2 : Done p e below s room_1 (Ql n0 (.int 1)) s₁ (entryFrame m #[(.int p1), (.int p2)] maxLocals) := by rw [ef_0]; exact d
  exact d2
set_option maxRecDepth 65536 in
set_option maxHeartbeats 40000000 in
theorem comes_1 {Post : Tables → Env → Array Value → State → Outcome → State → Prop} (hpost : ∀ tb e args s v u, (limb_1_1.after args s (.returned v) u = true ∧ limb_1_2.after args s (.returned v) u = true ∧ True) → FrameEnd s (.returned v) u (Jvm.fieldLocs frame_1_writes args s ++ Jvm.arrayLocs frame_1_arrays args s ++ Jvm.staticLocs frame_1_statics s) 16 128 → Post tb e args s (.returned v) u) :
    ArmFor flags0 classFile x code maxLocals ret World_1 tables_1 room_1 Calls_1 rest_1 Pre_1 Post := by
  intro l hfl _ _ p e ha hc hk s m args below hf hA hF happ hP
  obtain ⟨hcalls, hrest, hpre⟩ := hP
  obtain ⟨-, -, -, hnamed, -, -, -, hat⟩ := (Spec.applies_iff hf).mp happ
  obtain ⟨hg, hn⟩ := and_e (Cond.before_iff.mp (show (Jvm.Cond.and given_1 narrow_1).before args s = true from hpre))
  obtain ⟨g0, r0⟩ := and_e hg
  obtain ⟨v0, r1⟩ := and_e r0
  obtain ⟨w0, w1, rfl⟩ : ∃ w0 w1 : Value, args = #[w0, w1] := by
    have hs : args.size = 2 := by simpa [Cond.value, given_1] using g0
    obtain ⟨L⟩ := args
    match L, hs with
    | [w0, w1], _ => exact ⟨w0, w1, rfl⟩
  have hw := fun d (hd : d ∈ tables_1) => atoms_spec (ws := Jvm.Cond.code x code maxLocals ret :: tables_1) hat d (List.mem_cons_of_mem _ hd)
  obtain ⟨i0, ei0⟩ := is_v v0
  obtain rfl : w0 = (.int i0) := Option.some.inj ei0
  obtain ⟨i1, ei1⟩ := is_v r1
  obtain rfl : w1 = (.int i1) := Option.some.inj ei1
  obtain ⟨n, o, h1, h2, h3, _, L, rfl, ⟨rfl, N⟩, hq⟩ := rm0 l s _ hw tables_1 i0 i1 s.heap s.heap.size (Nat.le_refl _) p e ha hc hk s m _ below hf ((Spec.applies_iff_loose hf).mp happ).1 ⟨rfl, State.Warmed39.refl s, rfl⟩ trivial
  refine ⟨n, _, h1, h2, h3, hpost _ _ _ _ _ _ ⟨Cond.after_iff.mpr rfl, Cond.after_iff.mpr (eq_i res_at (Term.int_eval (1)) rfl), trivial⟩ ⟨hq.1, hq.2.1, (hq.2.2.sift fun y hy => Or.inr (N y hy)).mono (by decide) (by decide)⟩⟩
theorem main_1_1 : Claimed_1_1 := comes_1 fun _ _ _ _ _ _ h hF => ⟨h.1, hF⟩
theorem main_1_2 : Claimed_1_2 := comes_1 fun _ _ _ _ _ _ h hF => ⟨h.2.1, hF⟩
end Jvm.Pilot.@@N@@
namespace Jvm.Pilot.@@N@@
open Jvm Jvm.ClassFile Sem Op Lib Jvm.Free Jvm.Stand Jvm.Pilot.@@N@@.Jvm.D
/-! MADE BY PROGRAM (witnessworld.py) out of the Statement's table words and the real class files: 9 classes; the members and pool entries that the words name. The judged class is class 1, her method 1. -/
namespace start1
open Jvm.ClassFile
def u (s : String) : CpInfo := .utf8 (stringToUtf16 s)
/-- a pool by its gaps: so many unusable entries, then the entry; so many at the end -/
def gap : Nat → List CpInfo → List CpInfo
  | 0, r => r
  | n + 1, r => .unusable :: gap n r
def poolList (es : List (Nat × CpInfo)) (last : Nat) : List CpInfo := es.foldr (fun e r => gap e.1 (e.2 :: r)) (gap last [])
def pool (es : List (Nat × CpInfo)) (last : Nat) : Array CpInfo := ⟨poolList es last⟩
def fileOf (pool : Array CpInfo) (this : Nat) (attrs : Array Attribute := #[]) (ms : Array MethodInfo := #[]) (fl : Nat := 33) (sup : Nat := 0) (ifs : Array Nat := #[]) (fds : Array FieldInfo := #[]) : ClassFile where
  minorVersion := 0
  majorVersion := 65
  constantPool := pool
  accessFlags := fl
  thisClass := this
  superClass := sup
  interfaces := ifs
  fields := fds
  methods := ms
  attributes := attrs
def plain (name : String) (sup : Option ClassId) : Class where
  name := name
  kind := .ordinary
  loader := none
  accessFlags := 33
  super := sup
  interfaces := #[]
  cf := none
  fields := #[]
  methods := #[]
  instanceTypes := #[]
  staticTypes := #[]
  resolved := #[]
  callSites := []
  init := .initialized
  statics := none
  mirror := none

def pool0 : Array CpInfo := pool [(5, u "<init>"), (0, u "()V"), (1, .class_ 10), (1, u "java/lang/Object")] 113

def k0m0 : Method := { name := "<init>", desc := "()V", sig := { parameters := [], returnType := none }, accessFlags := 1, code := none }
/-- java/lang/Object -/
def k0 : Class := { plain "java/lang/Object" none with
  accessFlags := 33
  interfaces := #[]
  cf := some (fileOf pool0 8 #[] #[{ accessFlags := 1, nameIndex := 5, descriptorIndex := 6, attributes := #[] }] 33 0 #[] #[])
  fields := #[]
  methods := #[k0m0]
  instanceTypes := #[]
  staticTypes := #[]
  resolved := Array.replicate 124 none
  statics := none }

def pool1 : Array CpInfo := pool [(2, .class_ 4), (1, u "java/lang/Object"), (0, u "<init>"), (0, u "()V"), (0, .integer 57344), (0, .integer 63743), (0, .integer 983040), (0, .integer 1048573), (0, .integer 1048576), (0, .integer 1114109), (0, .integer 1048574), (0, .integer 1114111), (0, .methodref 16 17), (0, .class_ 18), (0, .nameAndType 19 20), (0, u "com/example/pilotfish/pilotfish/formats/UriReferences"), (0, u "isIprivate"), (0, u "(I)Z"), (0, .class_ 22), (0, u "com/example/pilotfish/pilotfish/formats/UriReferencesIsIprivatePinLaw"), (2, u "law"), (0, u "(II)Z")] 3

def k1m0 : Method := { name := "<init>", desc := "()V", sig := { parameters := [], returnType := none }, accessFlags := 2, code := none }
def k1c1 : Code := { maxStack := 4, maxLocals := 4, code := code, exceptionTable := #[], attributes := #[] }
def k1m1 : Method := { name := "law", desc := "(II)Z", sig := { parameters := [.int, .int], returnType := some .boolean }, accessFlags := 9, code := some k1c1 }
/-- com/example/pilotfish/pilotfish/formats/UriReferencesIsIprivatePinLaw -/
def k1 : Class := { plain "com/example/pilotfish/pilotfish/formats/UriReferencesIsIprivatePinLaw" (some 0) with
  accessFlags := 49
  interfaces := #[]
  cf := some (fileOf pool1 21 #[] #[{ accessFlags := 2, nameIndex := 5, descriptorIndex := 6, attributes := #[] }, { accessFlags := 9, nameIndex := 25, descriptorIndex := 26, attributes := #[] }] 49 2 #[] #[])
  fields := #[]
  methods := #[k1m0, k1m1]
  instanceTypes := #[]
  staticTypes := #[]
  resolved := Array.replicate 30 none
  statics := none }

def pool2 : Array CpInfo := pool [(2, .class_ 4), (1, u "java/lang/Object"), (0, u "<init>"), (0, u "()V"), (1, .class_ 10), (1, u "com/example/pilotfish/pilotfish/formats/UriReferences"), (11, .integer 983040), (0, .integer 65535), (0, .integer 65533), (2, .integer 57344), (0, .integer 63743), (0, .integer 1114109), (15, u "(I)Z"), (8, .class_ 55), (0, u "com/example/pilotfish/pilotfish/formats/UriReferences$Reader"), (45, u "SUB_DELIMITERS"), (0, u "Ljava/lang/String;"), (8, u "isIprivate"), (5, .class_ 118), (0, u "com/example/pilotfish/pilotfish/formats/UriReferences$Part")] 3

def k2m0 : Method := { name := "<init>", desc := "()V", sig := { parameters := [], returnType := none }, accessFlags := 2, code := none }
def k2c1 : Code := { maxStack := 2, maxLocals := 1, code := prog_20_method_7_code, exceptionTable := #[], attributes := #[] }
def k2m1 : Method := { name := "isIprivate", desc := "(I)Z", sig := { parameters := [.int], returnType := some .boolean }, accessFlags := 8, code := some k2c1 }
/-- com/example/pilotfish/pilotfish/formats/UriReferences -/
def k2 : Class := { plain "com/example/pilotfish/pilotfish/formats/UriReferences" (some 0) with
  accessFlags := 48
  interfaces := #[]
  cf := some (fileOf pool2 8 #[.nestMembers #[54, 117]] #[{ accessFlags := 2, nameIndex := 5, descriptorIndex := 6, attributes := #[] }, { accessFlags := 8, nameIndex := 111, descriptorIndex := 45, attributes := #[] }] 48 2 #[] #[{ accessFlags := 26, nameIndex := 101, descriptorIndex := 102, attributes := #[] }])
  fields := #[{ name := "SUB_DELIMITERS", type := (.object "java/lang/String"), accessFlags := 26, slot := 0, constantValue := 0 }]
  methods := #[k2m0, k2m1]
  instanceTypes := #[]
  staticTypes := #[(.object "java/lang/String")]
  resolved := Array.replicate 122 none
  statics := none }

def pool3 : Array CpInfo := pool [(1, u "java/lang/Cloneable"), (0, .class_ 1), (0, u "java/lang/Object"), (0, .class_ 3)] 3

/-- java/lang/Cloneable -/
def k3 : Class := { plain "java/lang/Cloneable" (some 0) with
  accessFlags := 1537
  interfaces := #[]
  cf := some (fileOf pool3 2 #[] #[] 1537 4 #[] #[])
  fields := #[]
  methods := #[]
  instanceTypes := #[]
  staticTypes := #[]
  resolved := Array.replicate 8 none
  statics := none }

def pool4 : Array CpInfo := pool [(1, u "java/io/Serializable"), (0, .class_ 1), (0, u "java/lang/Object"), (0, .class_ 3)] 3

/-- java/io/Serializable -/
def k4 : Class := { plain "java/io/Serializable" (some 0) with
  accessFlags := 1537
  interfaces := #[]
  cf := some (fileOf pool4 2 #[] #[] 1537 4 #[] #[])
  fields := #[]
  methods := #[]
  instanceTypes := #[]
  staticTypes := #[]
  resolved := Array.replicate 8 none
  statics := none }

/-- the primitive byte -/
def k5 : Class := { plain "byte" none with kind := .primitive 'B', accessFlags := 0x411 }
/-- [B -/
def k6 : Class := { plain "[B" (some 0) with kind := .array 5 .byte, interfaces := #[3, 4], accessFlags := 1041 }

/-- the primitive int -/
def k7 : Class := { plain "int" none with kind := .primitive 'I', accessFlags := 0x411 }
/-- [I -/
def k8 : Class := { plain "[I" (some 0) with kind := .array 7 .int, interfaces := #[3, 4], accessFlags := 1041 }

def heap : Heap := #[]
def classes : Array Class := #[k0, k1, k2, k3, k4, k5, k6, k7, k8]
def interned : List (Array UInt16 × Addr) := []
def slotsUsed : Nat := 0
def theMethod : MethodId := ⟨1, 1⟩
def args0 : Array Value := #[.int 5, .int 5]
def aboutOver (below : List Frame) : State where
  vm := { classes := classes, interned := interned.toArray }
  heap := heap
  slotsUsed := slotsUsed
  threads := #[{ frames := .invoking theMethod args0 :: below }]
def below0 : List Frame := [.native { method := ⟨0, 0⟩, args := #[] }]
def about1 : State := aboutOver below0
def p0 : Program := .bare "" "" ""
def e0 : Env := launch0.env 0 0 0
theorem w_frames : about1.frames = Frame.invoking theMethod args0 :: below0 := rfl
set_option maxRecDepth 65536 in
theorem w_args : argsFit about1.vm theMethod args0 = true := by decide +kernel
set_option maxRecDepth 65536 in
theorem w_heap : heapFits about1 = true := by decide +kernel
set_option maxRecDepth 65536 in
theorem w_runnable : about1.curStatus? = some .runnable := by decide +kernel
set_option maxRecDepth 65536 in
theorem w_alone : about1.alone = true := by decide +kernel
set_option maxRecDepth 65536 in
theorem w_named : about1.methodNamed? x = some theMethod := by decide +kernel
set_option maxRecDepth 65536 in
theorem w_hears : about1.hears theMethod below0 = true := by decide +kernel
set_option maxRecDepth 65536 in
theorem w_ripe : about1.ripe theMethod args0 below0 = true := by decide +kernel
theorem w_running : about1.status = .running := rfl
set_option maxRecDepth 65536 in
theorem w_room : about1.hasRoom e0.platform room_1 = true :=
  launch0.hasRoom_least _ room_1 (by decide +kernel) (by decide +kernel) (by decide +kernel) (by decide +kernel) (by decide +kernel) (by decide +kernel)
theorem allAtoms_all (ts : List Jvm.Cond) (a : Array Jvm.Value) (st : Jvm.State) : (allAtoms ts).before a st = ts.all (fun c => c.before a st) := by
  induction ts with
  | nil => rfl
  | cons c t ih =>
    show (Jvm.Cond.and c (allAtoms t)).before a st = _
    rw [Jvm.Cond.before_and, ih, List.all_cons]
def words1 : List Jvm.Cond := Jvm.Cond.code x code maxLocals ret :: tables_1
/-- a 'code' word, met by the world's own term for the bytes: nothing is compared byte by byte -/
theorem code_word {y : MethodName} {bytes : ByteArray} {mx : Nat} {rt : Option FieldType} {a : Array Value} {s : State} {m : MethodId} {meth : Method} {c : Code} (h1 : s.methodNamed? y = some m) (h2 : s.vm.method? m = some meth) (h3 : meth.code = some c) (h4 : c.code = bytes)
    (h5 : (c.maxLocals == mx && c.exceptionTable.isEmpty && decide (c.maxStack ≤ mostOperands) && decide (meth.sig.returnType = rt) && !meth.locks && decide (parseMethodDescriptor y.desc = some meth.sig)) = true) : (Jvm.Cond.code y bytes mx rt).before a s = true := by
  simp only [Bool.and_eq_true, beq_iff_eq, Bool.not_eq_true', decide_eq_true_eq] at h5
  obtain ⟨⟨⟨⟨⟨g1, g2⟩, g3⟩, g4⟩, g5⟩, g6⟩ := h5
  simp [Cond.before, Cond.holds, Cond.value, h1, h2, h3, h4, g1, g2, g3, g4, g5, g6]
def isCode : Jvm.Cond → Bool
  | .code _ _ _ _ => true
  | _ => false
theorem all_split {L : List Jvm.Cond} {P : Jvm.Cond → Bool} (h1 : L.all (fun c => isCode c || P c) = true) (h2 : ∀ c ∈ L.filter isCode, P c = true) : L.all P = true := by
  refine List.all_eq_true.mpr fun c hc => ?_
  have h := List.all_eq_true.mp h1 c hc
  rcases Bool.eq_false_or_eq_true (isCode c) with hi | hi
  · exact h2 c (List.mem_filter.mpr ⟨hc, hi⟩)
  · simpa [hi] using h
set_option maxRecDepth 65536 in
theorem w_c0 : (Jvm.Cond.code x code maxLocals ret).before args0 about1 = true := code_word (m := ⟨1, 1⟩) (meth := k1m1) (c := k1c1) (by decide +kernel) rfl rfl rfl (by decide +kernel)
set_option maxRecDepth 65536 in
theorem w_c1 : (Jvm.Cond.code ({ cls := "com/example/pilotfish/pilotfish/formats/UriReferences", name := "isIprivate", desc := "(I)Z" } : Jvm.MethodName) prog_20_method_7_code (1 : Nat) (Option.some Jvm.ClassFile.FieldType.boolean)).before args0 about1 = true := code_word (m := ⟨2, 1⟩) (meth := k2m1) (c := k2c1) (by decide +kernel) rfl rfl rfl (by decide +kernel)
def codes1 : List Jvm.Cond := [Jvm.Cond.code x code maxLocals ret, Jvm.Cond.code ({ cls := "com/example/pilotfish/pilotfish/formats/UriReferences", name := "isIprivate", desc := "(I)Z" } : Jvm.MethodName) prog_20_method_7_code (1 : Nat) (Option.some Jvm.ClassFile.FieldType.boolean)]
set_option maxRecDepth 65536 in
theorem codes_eq : words1.filter isCode = codes1 := rfl
theorem w_codes : ∀ c ∈ words1.filter isCode, c.before args0 about1 = true := by
  rw [codes_eq]
  intro c hc
  simp only [codes1, List.mem_cons, List.not_mem_nil, or_false] at hc
  rcases hc with rfl | rfl
  · exact w_c0
  · exact w_c1
set_option maxRecDepth 65536 in
theorem w_t1 : words1.all (fun c => isCode c || c.before args0 about1) = true := by decide +kernel
theorem w_tables : (allAtoms (Jvm.Cond.code x code maxLocals ret :: tables_1)).before args0 about1 = true := by
  rw [allAtoms_all]
  show words1.all (fun c => c.before args0 about1) = true
  refine all_split ?_ w_codes
  rw [w_t1]
set_option maxRecDepth 65536 in
theorem w_case : (Jvm.Cond.and given_1 narrow_1).before args0 about1 = true := by decide +kernel
theorem w_applies : (headSpec (Jvm.Cond.code x code maxLocals ret :: tables_1) room_1).applies x e0.platform about1 = true :=
  (Spec.applies_iff w_frames).mpr ⟨w_running, w_runnable, w_alone, w_named, w_hears, w_ripe, w_room, w_tables⟩
theorem atStart : AtStart classFile x code maxLocals ret World_1 tables_1 room_1 Calls_1 rest_1 Pre_1 launch0 p0 e0 about1 theMethod args0 below0 :=
  ⟨lists_1, trivial, launch0.admits_env _ _ _, launch0.least_env, fairChoices_fair.cas, fairChoices_fair.clock, w_frames, w_args, w_heap, w_applies, trivial, trivial, w_case⟩
end start1
theorem witness_1 : WitnessClaimed_1 := ⟨start1.p0, start1.e0, start1.about1, start1.theMethod, start1.args0, start1.below0, start1.atStart⟩
end Jvm.Pilot.@@N@@
