import JvmDerived
import JvmDerived.Pilot.@@N@@Statement
import JvmDerived.Pilot.@@N@@Code
set_option linter.unusedVariables false
set_option linter.unusedSimpArgs false
namespace Jvm.RoadKit
open Sem ClassFile Op Lib Jvm.Stand Jvm.Free Jvm.LawKit
section New
variable {p : Program} {l : Launch} {e : Env} {R : Room} {s : State} {m : MethodId} {args : Array Value} {below : List Frame} {meth : Method} {c : Code} {T : State} {locs : List Loc} {cells slots : Nat}
theorem retI (X : Stand p l e R s m args below meth c T locs cells slots) (hx : p.tables.exec = Jvm.exec) {pc : Nat} {Ls : Array Slot} {z : Int32} {rest : List Value} (hret : meth.sig.returnType = some .int) (hd : decode c.code pc = .ok (.ireturn, 1)) {fs : List Frame}
    (hl : ∀ (f : JFrame) (acts : List Action), f.method = m → f.locked = none → f.entered = [] → (doReturn e (T.setTop f) acts (some (.int z))).1 = T.setFrames fs) : Steps p.tables e below (T.setTop (mkF m pc Ls (.int z :: rest))) (T.setFrames fs) := by
  have hm' : T.vm.method? m = some meth := X.method'
  have hn : narrow .int (.int z) = .int z := rfl
  show Steps p.tables e below (T.setTop { method := m, pc := pc, locals := Ls, stack := _ :: rest, locked := none }) _
  jvm_step X.here [X.here.top, hx, hd, hm', hret, hn]
  first | (intro acts; rw [hl _ acts rfl rfl rfl]) | rw [hl _ _ rfl rfl rfl]
  exact Steps.refl _
theorem retA (X : Stand p l e R s m args below meth c T locs cells slots) (hx : p.tables.exec = Jvm.exec) {pc : Nat} {Ls : Array Slot} {z : Addr} {rest : List Value} {t : FieldType} (hret : meth.sig.returnType = some t) (ht : t.isReference = true) (hd : decode c.code pc = .ok (.areturn, 1)) {fs : List Frame}
    (hl : ∀ (f : JFrame) (acts : List Action), f.method = m → f.locked = none → f.entered = [] → (doReturn e (T.setTop f) acts (some (.ref z))).1 = T.setFrames fs) : Steps p.tables e below (T.setTop (mkF m pc Ls (.ref z :: rest))) (T.setFrames fs) := by
  have hm' : T.vm.method? m = some meth := X.method'
  show Steps p.tables e below (T.setTop { method := m, pc := pc, locals := Ls, stack := _ :: rest, locked := none }) _
  jvm_step X.here [X.here.top, hx, hd, hm', hret, ht, Value.isRef]
  first | (intro acts; rw [hl _ acts rfl rfl rfl]) | rw [hl _ _ rfl rfl rfl]
  exact Steps.refl _
theorem retJ (X : Stand p l e R s m args below meth c T locs cells slots) (hx : p.tables.exec = Jvm.exec) {pc : Nat} {Ls : Array Slot} {z : Int64} {rest : List Value} (hret : meth.sig.returnType = some .long) (hd : decode c.code pc = .ok (.lreturn, 1)) {fs : List Frame}
    (hl : ∀ (f : JFrame) (acts : List Action), f.method = m → f.locked = none → f.entered = [] → (doReturn e (T.setTop f) acts (some (.long z))).1 = T.setFrames fs) : Steps p.tables e below (T.setTop (mkF m pc Ls (.long z :: rest))) (T.setFrames fs) := by
  have hm' : T.vm.method? m = some meth := X.method'
  show Steps p.tables e below (T.setTop { method := m, pc := pc, locals := Ls, stack := _ :: rest, locked := none }) _
  jvm_step X.here [X.here.top, hx, hd, hm', hret]
  first | (intro acts; rw [hl _ acts rfl rfl rfl]) | rw [hl _ _ rfl rfl rfl]
  exact Steps.refl _
end New
end Jvm.RoadKit
namespace Jvm.Pilot.@@N@@
open Jvm Jvm.ClassFile Sem Op Lib Jvm.Free Jvm.Stand Jvm.LawKit Jvm.RoadKit Bundle Jvm.Pilot.@@N@@.Jvm.D
/-! My own frame of a walk: 'Done' says: from this frame the run ends, and Q holds of what came back, of the heap, and of the places written. -/
def Done (p : Program) (e : Env) (below : List Frame) (s : State) (R : Room) (Q : Option Value → Heap → List Loc → Prop) (T : State) (g : JFrame) : Prop :=
  ∃ s₂ o, Steps p.tables e below (T.setTop g) s₂ ∧ s₂.status = .running ∧ Ended s₂ below o ∧ ∃ v L, o = .returned v ∧ Q v s₂.heap L ∧ FrameEnd s o s₂ L R.cells R.slots
def Qp (h0 : Heap) (n0 : Nat) (z : Value) (v : Option Value) (h : Heap) (L : List Loc) : Prop := v = some z ∧ Fr n0 L ∧ h = h0
def Qv (h0 : Heap) (n0 : Nat) (v : Option Value) (h : Heap) (L : List Loc) : Prop := v = none ∧ Fr n0 L ∧ h = h0
def Ql (n0 : Nat) (z : Value) (v : Option Value) (h : Heap) (L : List Loc) : Prop := v = some z ∧ Fr n0 L
theorem Done.of {p : Program} {e : Env} {below : List Frame} {s : State} {R : Room} {Q : Option Value → Heap → List Loc → Prop} {T T' : State} {g g' : JFrame}
    (st : ∀ t, Steps p.tables e below (T'.setTop g') t → Steps p.tables e below (T.setTop g) t) (d : Done p e below s R Q T' g') : Done p e below s R Q T g := by
  obtain ⟨s₂, o, h1, h2⟩ := d
  exact ⟨s₂, o, st _ h1, h2⟩
section Ends
variable {p : Program} {l : Launch} {e : Env} {R : Room} {s : State} {m : MethodId} {args : Array Value} {below : List Frame} {meth : Method} {c : Code} {T : State} {locs : List Loc} {cells slots : Nat} {Q : Option Value → Heap → List Loc → Prop}
theorem doneI (X : Stand p l e R s m args below meth c T locs cells slots) (hx : p.tables.exec = Jvm.exec) {pc : Nat} {Ls : Array Slot} {z : Int32} {rest : List Value} (hret : meth.sig.returnType = some .int) (hlk : meth.locks = false) (hd : decode c.code pc = .ok (.ireturn, 1))
    (hQ : Q (some (.int z)) T.heap locs) (hc : cells ≤ R.cells) (hs : slots ≤ R.slots) : Done p e below s R Q T (mkF m pc Ls (.int z :: rest)) := by
  obtain ⟨fs, hr, hrun, hended, hW, hsame⟩ := X.leave (v := some (.int z)) (fun h => by rw [hret] at h; cases h) hlk
  exact ⟨_, _, retI X hx hret hd hr, hrun, hended, _, _, rfl, hQ, ⟨_, rfl⟩, hW, hsame.mono hc hs⟩
theorem doneN (t : FieldType) (X : Stand p l e R s m args below meth c T locs cells slots) (ht : t = .boolean ∨ t = .byte ∨ t = .char ∨ t = .short) (hx : p.tables.exec = Jvm.exec) {pc : Nat} {Ls : Array Slot} {z : Int32} {rest : List Value} (hret : meth.sig.returnType = some t) (hlk : meth.locks = false) (hd : decode c.code pc = .ok (.ireturn, 1))
    (hQ : Q (some (.int (nar t z))) T.heap locs) (hc : cells ≤ R.cells) (hs : slots ≤ R.slots) : Done p e below s R Q T (mkF m pc Ls (.int z :: rest)) := by
  obtain ⟨fs, hr, hrun, hended, hW, hsame⟩ := X.leave (v := some (.int (nar t z))) (fun h => by rw [hret] at h; cases h) hlk
  exact ⟨_, _, retN X hx hret ht hd hr, hrun, hended, _, _, rfl, hQ, ⟨_, rfl⟩, hW, hsame.mono hc hs⟩
theorem doneJ (X : Stand p l e R s m args below meth c T locs cells slots) (hx : p.tables.exec = Jvm.exec) {pc : Nat} {Ls : Array Slot} {z : Int64} {rest : List Value} (hret : meth.sig.returnType = some .long) (hlk : meth.locks = false) (hd : decode c.code pc = .ok (.lreturn, 1))
    (hQ : Q (some (.long z)) T.heap locs) (hc : cells ≤ R.cells) (hs : slots ≤ R.slots) : Done p e below s R Q T (mkF m pc Ls (.long z :: rest)) := by
  obtain ⟨fs, hr, hrun, hended, hW, hsame⟩ := X.leave (v := some (.long z)) (fun h => by rw [hret] at h; cases h) hlk
  exact ⟨_, _, retJ X hx hret hd hr, hrun, hended, _, _, rfl, hQ, ⟨_, rfl⟩, hW, hsame.mono hc hs⟩
theorem doneA (X : Stand p l e R s m args below meth c T locs cells slots) (hx : p.tables.exec = Jvm.exec) {pc : Nat} {Ls : Array Slot} {z : Addr} {rest : List Value} {t : FieldType} (hret : meth.sig.returnType = some t) (ht : t.isReference = true) (hlk : meth.locks = false) (hd : decode c.code pc = .ok (.areturn, 1))
    (hQ : Q (some (.ref z)) T.heap locs) (hc : cells ≤ R.cells) (hs : slots ≤ R.slots) : Done p e below s R Q T (mkF m pc Ls (.ref z :: rest)) := by
  obtain ⟨fs, hr, hrun, hended, hW, hsame⟩ := X.leave (v := some (.ref z)) (fun h => by rw [hret] at h; cases h) hlk
  exact ⟨_, _, retA X hx hret ht hd hr, hrun, hended, _, _, rfl, hQ, ⟨_, rfl⟩, hW, hsame.mono hc hs⟩
theorem doneV (X : Stand p l e R s m args below meth c T locs cells slots) (hx : p.tables.exec = Jvm.exec) {pc : Nat} {Ls : Array Slot} (hret : meth.sig.returnType = none) (hlk : meth.locks = false) (hd : decode c.code pc = .ok (.return_, 1))
    (hQ : Q none T.heap locs) (hc : cells ≤ R.cells) (hs : slots ≤ R.slots) : Done p e below s R Q T (mkF m pc Ls []) := by
  obtain ⟨fs, hr, hrun, hended, hW, hsame⟩ := X.leave (v := none) (fun _ => rfl) hlk
  exact ⟨_, _, X.returnOut hx hret hd hr, hrun, hended, _, _, rfl, hQ, ⟨_, rfl⟩, hW, hsame.mono hc hs⟩
end Ends
theorem lcLt_t {x y : Int64} (h : x < y) : ifCond.holds .lt (lcmpW x y) = true ∧ ifCond.holds .ge (lcmpW x y) = false := ⟨(if0 _ _).trans (tlt ((lw_lt x y).mpr h)).1, (if0 _ _).trans (tlt ((lw_lt x y).mpr h)).2.1⟩
theorem lcLt_f {x y : Int64} (h : ¬ x < y) : ifCond.holds .lt (lcmpW x y) = false ∧ ifCond.holds .ge (lcmpW x y) = true := ⟨(if0 _ _).trans (flt (fun q => h ((lw_lt x y).mp q))).1, (if0 _ _).trans (flt (fun q => h ((lw_lt x y).mp q))).2.1⟩
theorem lcGt_t {x y : Int64} (h : y < x) : ifCond.holds .gt (lcmpW x y) = true ∧ ifCond.holds .le (lcmpW x y) = false := ⟨(if0 _ _).trans (tlt ((lw_gt x y).mpr h)).2.2.1, (if0 _ _).trans (tlt ((lw_gt x y).mpr h)).2.2.2⟩
theorem lcGt_f {x y : Int64} (h : ¬ y < x) : ifCond.holds .gt (lcmpW x y) = false ∧ ifCond.holds .le (lcmpW x y) = true := ⟨(if0 _ _).trans (flt (fun q => h ((lw_gt x y).mp q))).2.2.1, (if0 _ _).trans (flt (fun q => h ((lw_gt x y).mp q))).2.2.2⟩
theorem lcEq_t {x y : Int64} (h : x = y) : ifCond.holds .eq (lcmpW x y) = true ∧ ifCond.holds .ne (lcmpW x y) = false := ⟨(if0 _ _).trans (teq ((lw_eq x y).mpr h)).1, (if0 _ _).trans (teq ((lw_eq x y).mpr h)).2⟩
theorem lcEq_f {x y : Int64} (h : ¬ x = y) : ifCond.holds .eq (lcmpW x y) = false ∧ ifCond.holds .ne (lcmpW x y) = true := ⟨(if0 _ _).trans (feq (fun q => h ((lw_eq x y).mp q))).1, (if0 _ _).trans (feq (fun q => h ((lw_eq x y).mp q))).2⟩
theorem own_selP {s : State} {args : Array Value} {y : MethodName} {n : Nat} (hins : (Cond.instantiable y.cls n).before args s = true) (hpriv : (Cond.privateMethod y).before args s = true) (hinst : (Cond.instanceMethod y).before args s = true) (hy : y.cls ≠ "java/lang/invoke/MethodHandle" ∧ y.cls ≠ "java/lang/invoke/VarHandle") :
    (Cond.selects y.cls y y).before args s = true := by
  obtain ⟨c, k, hc, hk, -, hniab, -, -⟩ := Cond.instantiable_spec hins
  exact selects_self_of_private hc hk (Bool.or_eq_false_iff.mp hniab).1 (Cond.privateMethod_at hpriv) hinst hy
theorem own_hat {c : Cell} {vs : List Int32} {j : Int32} (H : Has c (vs.map Value.int) (.int (0 : Int32))) (hin : ¬ (j < 0 ∨ c.slots.size ≤ j.toNatClampNeg)) : c.slots[j.toNatClampNeg]? = some (.int (vs.getD j.toNatClampNeg 0)) := by
  rw [H j.toNatClampNeg (Nat.lt_of_not_le fun q => hin (Or.inr q))]
  simp only [List.getD_eq_getElem?_getD, List.getElem?_map]
  cases vs[j.toNatClampNeg]? <;> rfl
theorem own_fin {n : Nat} (c : Int32) (h0 : 0 ≤ c.toInt) (h1 : c.toInt < n) : ∃ i : Fin n, c = Int32.ofInt (i.1 : Int) :=
  ⟨⟨c.toInt.toNat, by omega⟩, by show c = Int32.ofInt ((c.toInt.toNat : Nat) : Int); rw [Int.toNat_of_nonneg h0]; exact (Int32.ofInt_toInt c).symm⟩
theorem own_set (N i : Nat) (f : Nat → Int32) (v : Int32) : ((List.range N).map fun j => Value.int (f j)).set i (.int v) = (List.range N).map fun j => Value.int (if j = i then v else f j) := by
  apply List.ext_getElem
  · simp
  · intro k h1 h2
    rw [List.getElem_set]
    simp only [List.getElem_map, List.getElem_range]
    by_cases q : i = k
    · rw [if_pos q, if_pos q.symm]
    · rw [if_neg q, if_neg (Ne.symm q)]
theorem own_setA {Z : State} {h : Heap} {a : Addr} {k : ClassId} {ty : FieldType} {z : Int32} {N i : Nat} {f : Nat → Int32} {v : Int32} {dv : Value} (A : Arv Z h a k ty z (((List.range N).map fun j => Value.int (f j)).set i (.int v)) dv) :
    Arv Z h a k ty z ((List.range N).map fun j => Value.int (if j = i then v else f j)) dv := by rw [← own_set]; exact A
theorem own_hatF {c : Cell} {N : Nat} {f : Nat → Int32} {j : Int32} {d : Value} (H : Has c ((List.range N).map fun j => Value.int (f j)) d) (hN : c.slots.size = N) (hin : ¬ (j < 0 ∨ c.slots.size ≤ j.toNatClampNeg)) : c.slots[j.toNatClampNeg]? = some (.int (f j.toNatClampNeg)) := by
  have hl : j.toNatClampNeg < c.slots.size := Nat.lt_of_not_le fun q => hin (Or.inr q)
  rw [H j.toNatClampNeg hl, List.getD_eq_getElem?_getD, List.getElem?_map, List.getElem?_range (by omega)]
  rfl
theorem own_sz {c : Cell} {z : Int32} {N : Nat} (S : c.slots.size = z.toNatClampNeg) (h : z.toNatClampNeg = N := by decide) : c.slots.size = N := S.trans h
theorem own_len {c : Cell} {z j : Int32} {N : Nat} {f : Nat → Int32} (S : c.slots.size = z.toNatClampNeg) (hin : ¬ (j < 0 ∨ c.slots.size ≤ j.toNatClampNeg)) (h : z.toNatClampNeg = N := by decide) : j.toNatClampNeg < ((List.range N).map fun j => Value.int (f j)).length := by
  have : j.toNatClampNeg < c.slots.size := Nat.lt_of_not_le fun q => hin (Or.inr q)
  rw [List.length_map, List.length_range]; omega
theorem d1_0 : decode prog_5_method_2_code 0 = .ok (.lload_n 0, 1) := by decide +kernel
theorem d1_1 : decode prog_5_method_2_code 1 = .ok (.lconst 0, 1) := by decide +kernel
theorem d1_2 : decode prog_5_method_2_code 2 = .ok (.lcmp, 1) := by decide +kernel
theorem d1_3 : decode prog_5_method_2_code 3 = .ok (.ifCond .ne 7, 3) := by decide +kernel
theorem d1_6 : decode prog_5_method_2_code 6 = .ok (.ldc2_w 11, 3) := by decide +kernel
theorem d1_9 : decode prog_5_method_2_code 9 = .ok (.lreturn, 1) := by decide +kernel
theorem d1_10 : decode prog_5_method_2_code 10 = .ok (.lload_n 0, 1) := by decide +kernel
theorem d1_11 : decode prog_5_method_2_code 11 = .ok (.lconst 0, 1) := by decide +kernel
theorem d1_12 : decode prog_5_method_2_code 12 = .ok (.lcmp, 1) := by decide +kernel
theorem d1_13 : decode prog_5_method_2_code 13 = .ok (.ifCond .ge 7, 3) := by decide +kernel
theorem d1_16 : decode prog_5_method_2_code 16 = .ok (.ldc2_w 13, 3) := by decide +kernel
theorem d1_19 : decode prog_5_method_2_code 19 = .ok (.lreturn, 1) := by decide +kernel
theorem d1_20 : decode prog_5_method_2_code 20 = .ok (.lload_n 0, 1) := by decide +kernel
theorem d1_21 : decode prog_5_method_2_code 21 = .ok (.ldc2_w 15, 3) := by decide +kernel
theorem d1_24 : decode prog_5_method_2_code 24 = .ok (.lcmp, 1) := by decide +kernel
theorem d1_25 : decode prog_5_method_2_code 25 = .ok (.ifCond .gt 11, 3) := by decide +kernel
theorem d1_28 : decode prog_5_method_2_code 28 = .ok (.lload_n 2, 1) := by decide +kernel
theorem d1_29 : decode prog_5_method_2_code 29 = .ok (.lload_n 0, 1) := by decide +kernel
theorem d1_30 : decode prog_5_method_2_code 30 = .ok (.ldc2_w 17, 3) := by decide +kernel
theorem d1_33 : decode prog_5_method_2_code 33 = .ok (.lmul, 1) := by decide +kernel
theorem d1_34 : decode prog_5_method_2_code 34 = .ok (.ladd, 1) := by decide +kernel
theorem d1_35 : decode prog_5_method_2_code 35 = .ok (.lreturn, 1) := by decide +kernel
theorem d1_36 : decode prog_5_method_2_code 36 = .ok (.lload_n 0, 1) := by decide +kernel
theorem d1_37 : decode prog_5_method_2_code 37 = .ok (.ldc2_w 19, 3) := by decide +kernel
theorem d1_40 : decode prog_5_method_2_code 40 = .ok (.lcmp, 1) := by decide +kernel
theorem d1_41 : decode prog_5_method_2_code 41 = .ok (.ifCond .le 7, 3) := by decide +kernel
theorem d1_44 : decode prog_5_method_2_code 44 = .ok (.ldc2_w 11, 3) := by decide +kernel
theorem d1_47 : decode prog_5_method_2_code 47 = .ok (.lreturn, 1) := by decide +kernel
theorem d1_48 : decode prog_5_method_2_code 48 = .ok (.lload_n 0, 1) := by decide +kernel
theorem d1_49 : decode prog_5_method_2_code 49 = .ok (.ldc2_w 17, 3) := by decide +kernel
theorem d1_52 : decode prog_5_method_2_code 52 = .ok (.lmul, 1) := by decide +kernel
theorem d1_53 : decode prog_5_method_2_code 53 = .ok (.lreturn, 1) := by decide +kernel
def F1_0 (q1 : Int64) (q2 : Int64) : Int64 := (if q1 = (0 : Int64) then (9223372036854775807 : Int64) else (if q1 < (0 : Int64) then (-9223372036854775808 : Int64) else (if (2592000 : Int64) < q1 then (if (9223372036854775 : Int64) < q1 then (9223372036854775807 : Int64) else (q1 * (1000 : Int64))) else (q2 + (q1 * (1000 : Int64))))))
set_option maxRecDepth 65536 in
set_option maxHeartbeats 40000000 in
theorem bk1_0 {p : Program} {l : Launch} {e : Env} {s : State} {m : MethodId} {args : Array Value} {below : List Frame} {meth : Method} {c : Code} {T0 : State} {locs : List Loc} {Z : State} {a0 : Array Value} {h0 : Heap} {n0 : Nat}
    (hx : p.tables.exec = Jvm.exec) (hZ : Z.Warmed39 s.vm) (hw : ∀ d ∈ tables_1, d.before a0 Z = true) (hby : c.code = prog_5_method_2_code) (hml : c.maxLocals = 4) (hown : s.vm.findClass "com/example/noreply/noreply/engine/Expiration" = some m.cls) (hnm : meth.name = "deadlineMillis") (hret : meth.sig.returnType = some .long) (hlk : meth.locks = false)
    (X0 : Stand p l e ({ frames := 0, cells := 0, slots := 0, locals := 0 } : Room) s m args below meth c T0 locs 0 0) (N0 : Fr n0 locs) (e0 : T0.heap = h0) (q1 : Int64) (q2 : Int64) :
    Done p e below s ({ frames := 0, cells := 0, slots := 0, locals := 0 } : Room) (Qp h0 n0 (.long (F1_0 q1 q2))) T0 (mkF m 0 #[.val (.long q1), .second, .val (.long q2), .second] []) := by
  unfold F1_0
  refine Done.of (T' := T0) (g' := (mkF m 3 #[.val (.long q1), .second, .val (.long q2), .second] [(.int (lcmpW q1 (0 : Int64)))])) (fun t k => ?_) ?_
  · show Steps p.tables e below (T0.setTop (mkF m 0 #[.val (.long q1), .second, .val (.long q2), .second] [])) t
    refine XS.lloadN X0.here hx rfl (hb hby d1_0) rfl ?_
    show Steps p.tables e below (T0.setTop (mkF m 1 #[.val (.long q1), .second, .val (.long q2), .second] [(.long q1)])) t
    refine XS.lconst X0.here hx rfl (hb hby d1_1) ?_
    show Steps p.tables e below (T0.setTop (mkF m 2 #[.val (.long q1), .second, .val (.long q2), .second] [(.long (0 : Int64)), (.long q1)])) t
    refine XS.lcmp X0.here hx rfl (hb hby d1_2) rfl ?_
    exact k
  by_cases hc3_0 : q1 = (0 : Int64)
  · rw [if_pos hc3_0]
    refine Done.of (T' := T0) (g' := (mkF m 9 #[.val (.long q1), .second, .val (.long q2), .second] [(.long (9223372036854775807 : Int64))])) (fun t k => ?_) ?_
    · show Steps p.tables e below (T0.setTop (mkF m 3 #[.val (.long q1), .second, .val (.long q2), .second] [(.int (lcmpW q1 (0 : Int64)))])) t
      refine XS.ifNo X0.here hx rfl (hb hby d1_3) rfl (lcEq_t hc3_0).2 ?_
      show Steps p.tables e below (T0.setTop (mkF m 6 #[.val (.long q1), .second, .val (.long q2), .second] [])) t
      refine X0.ldc2Long hx hown (mvT hZ (hw _ (List.mem_of_getElem? (i := 11) rfl))) (g := (mkF m 6 #[.val (.long q1), .second, .val (.long q2), .second] [])) rfl (hb hby d1_6) _ ?_
      exact k
    exact doneJ X0 hx hret hlk (hb hby d1_9) ⟨rfl, N0, e0⟩ (by decide) (by decide)
  · rw [if_neg hc3_0]
    refine Done.of (T' := T0) (g' := (mkF m 13 #[.val (.long q1), .second, .val (.long q2), .second] [(.int (lcmpW q1 (0 : Int64)))])) (fun t k => ?_) ?_
    · show Steps p.tables e below (T0.setTop (mkF m 3 #[.val (.long q1), .second, .val (.long q2), .second] [(.int (lcmpW q1 (0 : Int64)))])) t
      refine XS.ifYes X0.here hx rfl (pc0 := 3) (pc' := 10) rfl (hb hby d1_3) rfl (lcEq_f hc3_0).2 (by decide) (by decide) ?_
      show Steps p.tables e below (T0.setTop (mkF m 10 #[.val (.long q1), .second, .val (.long q2), .second] [])) t
      refine XS.lloadN X0.here hx rfl (hb hby d1_10) rfl ?_
      show Steps p.tables e below (T0.setTop (mkF m 11 #[.val (.long q1), .second, .val (.long q2), .second] [(.long q1)])) t
      refine XS.lconst X0.here hx rfl (hb hby d1_11) ?_
      show Steps p.tables e below (T0.setTop (mkF m 12 #[.val (.long q1), .second, .val (.long q2), .second] [(.long (0 : Int64)), (.long q1)])) t
      refine XS.lcmp X0.here hx rfl (hb hby d1_12) rfl ?_
      exact k
    by_cases hc13_1 : q1 < (0 : Int64)
    · rw [if_pos hc13_1]
      refine Done.of (T' := T0) (g' := (mkF m 19 #[.val (.long q1), .second, .val (.long q2), .second] [(.long (-9223372036854775808 : Int64))])) (fun t k => ?_) ?_
      · show Steps p.tables e below (T0.setTop (mkF m 13 #[.val (.long q1), .second, .val (.long q2), .second] [(.int (lcmpW q1 (0 : Int64)))])) t
        refine XS.ifNo X0.here hx rfl (hb hby d1_13) rfl (lcLt_t hc13_1).2 ?_
        show Steps p.tables e below (T0.setTop (mkF m 16 #[.val (.long q1), .second, .val (.long q2), .second] [])) t
        refine X0.ldc2Long hx hown (mvT hZ (hw _ (List.mem_of_getElem? (i := 14) rfl))) (g := (mkF m 16 #[.val (.long q1), .second, .val (.long q2), .second] [])) rfl (hb hby d1_16) _ ?_
        exact k
      exact doneJ X0 hx hret hlk (hb hby d1_19) ⟨rfl, N0, e0⟩ (by decide) (by decide)
    · rw [if_neg hc13_1]
      refine Done.of (T' := T0) (g' := (mkF m 25 #[.val (.long q1), .second, .val (.long q2), .second] [(.int (lcmpW q1 (2592000 : Int64)))])) (fun t k => ?_) ?_
      · show Steps p.tables e below (T0.setTop (mkF m 13 #[.val (.long q1), .second, .val (.long q2), .second] [(.int (lcmpW q1 (0 : Int64)))])) t
        refine XS.ifYes X0.here hx rfl (pc0 := 13) (pc' := 20) rfl (hb hby d1_13) rfl (lcLt_f hc13_1).2 (by decide) (by decide) ?_
        show Steps p.tables e below (T0.setTop (mkF m 20 #[.val (.long q1), .second, .val (.long q2), .second] [])) t
        refine XS.lloadN X0.here hx rfl (hb hby d1_20) rfl ?_
        show Steps p.tables e below (T0.setTop (mkF m 21 #[.val (.long q1), .second, .val (.long q2), .second] [(.long q1)])) t
        refine X0.ldc2Long hx hown (mvT hZ (hw _ (List.mem_of_getElem? (i := 8) rfl))) (g := (mkF m 21 #[.val (.long q1), .second, .val (.long q2), .second] [(.long q1)])) rfl (hb hby d1_21) _ ?_
        show Steps p.tables e below (T0.setTop (mkF m 24 #[.val (.long q1), .second, .val (.long q2), .second] [(.long (2592000 : Int64)), (.long q1)])) t
        refine XS.lcmp X0.here hx rfl (hb hby d1_24) rfl ?_
        exact k
      by_cases hc25_2 : (2592000 : Int64) < q1
      · rw [if_pos hc25_2]
        refine Done.of (T' := T0) (g' := (mkF m 41 #[.val (.long q1), .second, .val (.long q2), .second] [(.int (lcmpW q1 (9223372036854775 : Int64)))])) (fun t k => ?_) ?_
        · show Steps p.tables e below (T0.setTop (mkF m 25 #[.val (.long q1), .second, .val (.long q2), .second] [(.int (lcmpW q1 (2592000 : Int64)))])) t
          refine XS.ifYes X0.here hx rfl (pc0 := 25) (pc' := 36) rfl (hb hby d1_25) rfl (lcGt_t hc25_2).1 (by decide) (by decide) ?_
          show Steps p.tables e below (T0.setTop (mkF m 36 #[.val (.long q1), .second, .val (.long q2), .second] [])) t
          refine XS.lloadN X0.here hx rfl (hb hby d1_36) rfl ?_
          show Steps p.tables e below (T0.setTop (mkF m 37 #[.val (.long q1), .second, .val (.long q2), .second] [(.long q1)])) t
          refine X0.ldc2Long hx hown (mvT hZ (hw _ (List.mem_of_getElem? (i := 12) rfl))) (g := (mkF m 37 #[.val (.long q1), .second, .val (.long q2), .second] [(.long q1)])) rfl (hb hby d1_37) _ ?_
          show Steps p.tables e below (T0.setTop (mkF m 40 #[.val (.long q1), .second, .val (.long q2), .second] [(.long (9223372036854775 : Int64)), (.long q1)])) t
          refine XS.lcmp X0.here hx rfl (hb hby d1_40) rfl ?_
          exact k
        by_cases hc41_3 : (9223372036854775 : Int64) < q1
        · rw [if_pos hc41_3]
          refine Done.of (T' := T0) (g' := (mkF m 47 #[.val (.long q1), .second, .val (.long q2), .second] [(.long (9223372036854775807 : Int64))])) (fun t k => ?_) ?_
          · show Steps p.tables e below (T0.setTop (mkF m 41 #[.val (.long q1), .second, .val (.long q2), .second] [(.int (lcmpW q1 (9223372036854775 : Int64)))])) t
            refine XS.ifNo X0.here hx rfl (hb hby d1_41) rfl (lcGt_t hc41_3).2 ?_
            show Steps p.tables e below (T0.setTop (mkF m 44 #[.val (.long q1), .second, .val (.long q2), .second] [])) t
            refine X0.ldc2Long hx hown (mvT hZ (hw _ (List.mem_of_getElem? (i := 11) rfl))) (g := (mkF m 44 #[.val (.long q1), .second, .val (.long q2), .second] [])) rfl (hb hby d1_44) _ ?_
            exact k
          exact doneJ X0 hx hret hlk (hb hby d1_47) ⟨rfl, N0, e0⟩ (by decide) (by decide)
        · rw [if_neg hc41_3]
          refine Done.of (T' := T0) (g' := (mkF m 53 #[.val (.long q1), .second, .val (.long q2), .second] [(.long (q1 * (1000 : Int64)))])) (fun t k => ?_) ?_
          · show Steps p.tables e below (T0.setTop (mkF m 41 #[.val (.long q1), .second, .val (.long q2), .second] [(.int (lcmpW q1 (9223372036854775 : Int64)))])) t
            refine XS.ifYes X0.here hx rfl (pc0 := 41) (pc' := 48) rfl (hb hby d1_41) rfl (lcGt_f hc41_3).2 (by decide) (by decide) ?_
            show Steps p.tables e below (T0.setTop (mkF m 48 #[.val (.long q1), .second, .val (.long q2), .second] [])) t
            refine XS.lloadN X0.here hx rfl (hb hby d1_48) rfl ?_
            show Steps p.tables e below (T0.setTop (mkF m 49 #[.val (.long q1), .second, .val (.long q2), .second] [(.long q1)])) t
            refine X0.ldc2Long hx hown (mvT hZ (hw _ (List.mem_of_getElem? (i := 9) rfl))) (g := (mkF m 49 #[.val (.long q1), .second, .val (.long q2), .second] [(.long q1)])) rfl (hb hby d1_49) _ ?_
            show Steps p.tables e below (T0.setTop (mkF m 52 #[.val (.long q1), .second, .val (.long q2), .second] [(.long (1000 : Int64)), (.long q1)])) t
            refine XS.lmul X0.here hx rfl (hb hby d1_52) rfl ?_
            exact k
          exact doneJ X0 hx hret hlk (hb hby d1_53) ⟨rfl, N0, e0⟩ (by decide) (by decide)
      · rw [if_neg hc25_2]
        refine Done.of (T' := T0) (g' := (mkF m 35 #[.val (.long q1), .second, .val (.long q2), .second] [(.long (q2 + (q1 * (1000 : Int64))))])) (fun t k => ?_) ?_
        · show Steps p.tables e below (T0.setTop (mkF m 25 #[.val (.long q1), .second, .val (.long q2), .second] [(.int (lcmpW q1 (2592000 : Int64)))])) t
          refine XS.ifNo X0.here hx rfl (hb hby d1_25) rfl (lcGt_f hc25_2).1 ?_
          show Steps p.tables e below (T0.setTop (mkF m 28 #[.val (.long q1), .second, .val (.long q2), .second] [])) t
          refine XS.lloadN X0.here hx rfl (hb hby d1_28) rfl ?_
          show Steps p.tables e below (T0.setTop (mkF m 29 #[.val (.long q1), .second, .val (.long q2), .second] [(.long q2)])) t
          refine XS.lloadN X0.here hx rfl (hb hby d1_29) rfl ?_
          show Steps p.tables e below (T0.setTop (mkF m 30 #[.val (.long q1), .second, .val (.long q2), .second] [(.long q1), (.long q2)])) t
          refine X0.ldc2Long hx hown (mvT hZ (hw _ (List.mem_of_getElem? (i := 9) rfl))) (g := (mkF m 30 #[.val (.long q1), .second, .val (.long q2), .second] [(.long q1), (.long q2)])) rfl (hb hby d1_30) _ ?_
          show Steps p.tables e below (T0.setTop (mkF m 33 #[.val (.long q1), .second, .val (.long q2), .second] [(.long (1000 : Int64)), (.long q1), (.long q2)])) t
          refine XS.lmul X0.here hx rfl (hb hby d1_33) rfl ?_
          show Steps p.tables e below (T0.setTop (mkF m 34 #[.val (.long q1), .second, .val (.long q2), .second] [(.long (q1 * (1000 : Int64))), (.long q2)])) t
          refine XS.ladd X0.here hx rfl (hb hby d1_34) rfl ?_
          exact k
        exact doneJ X0 hx hret hlk (hb hby d1_35) ⟨rfl, N0, e0⟩ (by decide) (by decide)
theorem ef_1 (m : MethodId) (q1 : Int64) (q2 : Int64) : entryFrame m #[(.long q1), (.long q2)] 4 = mkF m 0 #[.val (.long q1), .second, .val (.long q2), .second] [] := by first | (simp [entryFrame, mkF, argsToLocals, Value.category, maxLocals]; done) | rfl
theorem pn_1 : plainName "com/example/noreply/noreply/engine/Expiration" = true := by first | (simp [plainName, overriddenIn]; done) | decide +kernel
set_option maxRecDepth 65536 in
set_option maxHeartbeats 40000000 in
theorem rm1 (l : Launch) (Z : State) (a0 : Array Value) (hw : ∀ d ∈ tables_1, d.before a0 Z = true) (ws : List Jvm.Cond) (q1 : Int64) (q2 : Int64) (h0 : Heap) (n0 : Nat) :
    MetFree l (⟨"com/example/noreply/noreply/engine/Expiration", "deadlineMillis", "(JJ)J"⟩ : MethodName) (head1 (Jvm.Cond.code (⟨"com/example/noreply/noreply/engine/Expiration", "deadlineMillis", "(JJ)J"⟩ : MethodName) prog_5_method_2_code 4 (some .long) :: ws) ({ frames := 0, cells := 0, slots := 0, locals := 0 } : Room)) (fun a U => a = #[(.long q1), (.long q2)] ∧ Z.Warmed39 U.vm ∧ U.heap = h0) (fun _ _ _ _ _ => True) (fun _ U o U' => ∃ v L, o = .returned v ∧ (Qp h0 n0 (.long (F1_0 q1 q2))) v U'.heap L ∧ FrameEnd U o U' L ({ frames := 0, cells := 0, slots := 0, locals := 0 } : Room).cells ({ frames := 0, cells := 0, slots := 0, locals := 0 } : Room).slots) := by
  refine MetFree.of_bodySF (plainFor_of_name pn_1) hisR ?_
  intro p e s m args below meth c s₁ Bd hml0 hP hK
  obtain ⟨rfl, hZ, hh⟩ := hP
  have hown : s.vm.findClass "com/example/noreply/noreply/engine/Expiration" = some m.cls := findClass_of_methodNamed Bd.named
  have hnm := (name_of_methodNamed Bd.named Bd.method).1
  have X0 : Stand p l e ({ frames := 0, cells := 0, slots := 0, locals := 0 } : Room) s m #[(.long q1), (.long q2)] below meth c s₁ [] 0 0 := Stand.of_body Bd
  have e0 : s₁.heap = h0 := by rw [← hh, Bd.state]; rfl
  have d := bk1_0 (n0 := n0) Bd.exec hZ hw Bd.bytes hml0 hown hnm Bd.returns (BodyLoose.notSynchronized Bd) X0 (Fr.nil n0) e0 q1 q2
  have d2 : Done p e below s ({ frames := 0, cells := 0, slots := 0, locals := 0 } : Room) (Qp h0 n0 (.long (F1_0 q1 q2))) s₁ (entryFrame m #[(.long q1), (.long q2)] 4) := by rw [ef_1]; exact d
  exact d2
theorem pd_0 : parseMethodDescriptor "(JJ)J" = some ⟨[.long, .long], some .long⟩ := by decide +kernel
def F0_0 (q1 : Int64) (q2 : Int64) (q3 : Int64) (p4 : Int32) : Int32 := (if ((p4 &&& (2147483647 : Int32)) % (5 : Int32)) = (0 : Int32) then (if (F1_0 (0 : Int64) q2) = (9223372036854775807 : Int64) then (if (F1_0 (0 : Int64) q3) = (9223372036854775807 : Int64) then (1 : Int32) else (0 : Int32)) else (0 : Int32)) else (if ((p4 &&& (2147483647 : Int32)) % (5 : Int32)) = (1 : Int32) then (if (F1_0 (q1 ||| (-9223372036854775808 : Int64)) q2) = (-9223372036854775808 : Int64) then (if (F1_0 (q1 ||| (-9223372036854775808 : Int64)) q3) = (-9223372036854775808 : Int64) then (1 : Int32) else (0 : Int32)) else (0 : Int32)) else (if ((p4 &&& (2147483647 : Int32)) % (5 : Int32)) = (2 : Int32) then (if (F1_0 ((1 : Int64) + ((q1 &&& (9223372036854775807 : Int64)) - ((q1 &&& (9223372036854775807 : Int64)) / (2592000 : Int64)) * (2592000 : Int64))) q2) = (q2 + (((1 : Int64) + ((q1 &&& (9223372036854775807 : Int64)) - ((q1 &&& (9223372036854775807 : Int64)) / (2592000 : Int64)) * (2592000 : Int64))) * (1000 : Int64))) then (if ((F1_0 ((1 : Int64) + ((q1 &&& (9223372036854775807 : Int64)) - ((q1 &&& (9223372036854775807 : Int64)) / (2592000 : Int64)) * (2592000 : Int64))) q3) - q3) = (((1 : Int64) + ((q1 &&& (9223372036854775807 : Int64)) - ((q1 &&& (9223372036854775807 : Int64)) / (2592000 : Int64)) * (2592000 : Int64))) * (1000 : Int64)) then (1 : Int32) else (0 : Int32)) else (0 : Int32)) else (if ((p4 &&& (2147483647 : Int32)) % (5 : Int32)) = (3 : Int32) then (if (F1_0 ((2592001 : Int64) + ((q1 &&& (9223372036854775807 : Int64)) - ((q1 &&& (9223372036854775807 : Int64)) / ((9223372036854775 : Int64) - (2592000 : Int64))) * ((9223372036854775 : Int64) - (2592000 : Int64)))) q2) = (((2592001 : Int64) + ((q1 &&& (9223372036854775807 : Int64)) - ((q1 &&& (9223372036854775807 : Int64)) / ((9223372036854775 : Int64) - (2592000 : Int64))) * ((9223372036854775 : Int64) - (2592000 : Int64)))) * (1000 : Int64)) then (if (F1_0 ((2592001 : Int64) + ((q1 &&& (9223372036854775807 : Int64)) - ((q1 &&& (9223372036854775807 : Int64)) / ((9223372036854775 : Int64) - (2592000 : Int64))) * ((9223372036854775 : Int64) - (2592000 : Int64)))) q3) = (((2592001 : Int64) + ((q1 &&& (9223372036854775807 : Int64)) - ((q1 &&& (9223372036854775807 : Int64)) / ((9223372036854775 : Int64) - (2592000 : Int64))) * ((9223372036854775 : Int64) - (2592000 : Int64)))) * (1000 : Int64)) then (1 : Int32) else (0 : Int32)) else (0 : Int32)) else (if (F1_0 (((9223372036854775 : Int64) + (1 : Int64)) + ((q1 &&& (9223372036854775807 : Int64)) - ((q1 &&& (9223372036854775807 : Int64)) / ((9223372036854775807 : Int64) - (9223372036854775 : Int64))) * ((9223372036854775807 : Int64) - (9223372036854775 : Int64)))) q2) = (9223372036854775807 : Int64) then (if (F1_0 (((9223372036854775 : Int64) + (1 : Int64)) + ((q1 &&& (9223372036854775807 : Int64)) - ((q1 &&& (9223372036854775807 : Int64)) / ((9223372036854775807 : Int64) - (9223372036854775 : Int64))) * ((9223372036854775807 : Int64) - (9223372036854775 : Int64)))) q3) = (9223372036854775807 : Int64) then (1 : Int32) else (0 : Int32)) else (0 : Int32))))))
set_option maxRecDepth 65536 in
set_option maxHeartbeats 40000000 in
theorem bk0_0 {p : Program} {l : Launch} {e : Env} {s : State} {m : MethodId} {args : Array Value} {below : List Frame} {meth : Method} {c : Code} {T0 : State} {locs : List Loc} {Z : State} {a0 : Array Value} {h0 : Heap} {n0 : Nat}
    (hx : p.tables.exec = Jvm.exec) (hZ : Z.Warmed39 s.vm) (hw : ∀ d ∈ tables_1, d.before a0 Z = true) (hby : c.code = code) (hml : c.maxLocals = 14) (hown : s.vm.findClass "com/example/noreply/noreply/engine/ExpirationDeadlineMillisPinLaw" = some m.cls) (hnm : meth.name = "law") (hret : meth.sig.returnType = some .boolean) (hlk : meth.locks = false)
    (X0 : Stand p l e room_1 s m args below meth c T0 locs 0 0) (N0 : Fr n0 locs) (e0 : T0.heap = h0) (q1 : Int64) (q2 : Int64) (q3 : Int64) (p4 : Int32) :
    Done p e below s room_1 (Ql n0 (.int (F0_0 q1 q2 q3 p4))) T0 (mkF m 0 #[.val (.long q1), .second, .val (.long q2), .second, .val (.long q3), .second, .val (.int p4), .unset, .unset, .unset, .unset, .unset, .unset, .unset] []) := by
  unfold F0_0
  refine Done.of (T' := T0) (g' := (mkF m 23 #[.val (.long q1), .second, .val (.long q2), .second, .val (.long q3), .second, .val (.int p4), .val (.int ((p4 &&& (2147483647 : Int32)) % (5 : Int32))), .val (.long (q1 &&& (9223372036854775807 : Int64))), .second, .val (.long (9223372036854775 : Int64)), .second, .unset, .unset] [(.int ((p4 &&& (2147483647 : Int32)) % (5 : Int32)))])) (fun t k => ?_) ?_
  · show Steps p.tables e below (T0.setTop (mkF m 0 #[.val (.long q1), .second, .val (.long q2), .second, .val (.long q3), .second, .val (.int p4), .unset, .unset, .unset, .unset, .unset, .unset, .unset] [])) t
    refine XS.iload X0.here hx rfl (hb hby at_0) rfl ?_
    show Steps p.tables e below (T0.setTop (mkF m 2 #[.val (.long q1), .second, .val (.long q2), .second, .val (.long q3), .second, .val (.int p4), .unset, .unset, .unset, .unset, .unset, .unset, .unset] [(.int p4)])) t
    refine X0.ldcInt hx hown (mvT hZ (hw _ (List.mem_of_getElem? (i := 0) rfl))) (g := (mkF m 2 #[.val (.long q1), .second, .val (.long q2), .second, .val (.long q3), .second, .val (.int p4), .unset, .unset, .unset, .unset, .unset, .unset, .unset] [(.int p4)])) rfl (hb hby at_2) _ ?_
    show Steps p.tables e below (T0.setTop (mkF m 4 #[.val (.long q1), .second, .val (.long q2), .second, .val (.long q3), .second, .val (.int p4), .unset, .unset, .unset, .unset, .unset, .unset, .unset] [(.int (2147483647 : Int32)), (.int p4)])) t
    refine XS.iand X0.here hx rfl (hb hby at_4) rfl ?_
    show Steps p.tables e below (T0.setTop (mkF m 5 #[.val (.long q1), .second, .val (.long q2), .second, .val (.long q3), .second, .val (.int p4), .unset, .unset, .unset, .unset, .unset, .unset, .unset] [(.int (p4 &&& (2147483647 : Int32)))])) t
    refine XS.iconst X0.here hx rfl (hb hby at_5) ?_
    show Steps p.tables e below (T0.setTop (mkF m 6 #[.val (.long q1), .second, .val (.long q2), .second, .val (.long q3), .second, .val (.int p4), .unset, .unset, .unset, .unset, .unset, .unset, .unset] [(.int (5 : Int32)), (.int (p4 &&& (2147483647 : Int32)))])) t
    refine iremM X0 hx rfl (hb hby at_6) rfl (by decide) ?_
    show Steps p.tables e below (T0.setTop (mkF m 7 #[.val (.long q1), .second, .val (.long q2), .second, .val (.long q3), .second, .val (.int p4), .unset, .unset, .unset, .unset, .unset, .unset, .unset] [(.int ((p4 &&& (2147483647 : Int32)) % (5 : Int32)))])) t
    refine XS.istore X0.here hx rfl (hb hby at_7) rfl (l' := #[.val (.long q1), .second, .val (.long q2), .second, .val (.long q3), .second, .val (.int p4), .val (.int ((p4 &&& (2147483647 : Int32)) % (5 : Int32))), .unset, .unset, .unset, .unset, .unset, .unset]) rfl ?_
    show Steps p.tables e below (T0.setTop (mkF m 9 #[.val (.long q1), .second, .val (.long q2), .second, .val (.long q3), .second, .val (.int p4), .val (.int ((p4 &&& (2147483647 : Int32)) % (5 : Int32))), .unset, .unset, .unset, .unset, .unset, .unset] [])) t
    refine XS.lloadN X0.here hx rfl (hb hby at_9) rfl ?_
    show Steps p.tables e below (T0.setTop (mkF m 10 #[.val (.long q1), .second, .val (.long q2), .second, .val (.long q3), .second, .val (.int p4), .val (.int ((p4 &&& (2147483647 : Int32)) % (5 : Int32))), .unset, .unset, .unset, .unset, .unset, .unset] [(.long q1)])) t
    refine X0.ldc2Long hx hown (mvT hZ (hw _ (List.mem_of_getElem? (i := 1) rfl))) (g := (mkF m 10 #[.val (.long q1), .second, .val (.long q2), .second, .val (.long q3), .second, .val (.int p4), .val (.int ((p4 &&& (2147483647 : Int32)) % (5 : Int32))), .unset, .unset, .unset, .unset, .unset, .unset] [(.long q1)])) rfl (hb hby at_10) _ ?_
    show Steps p.tables e below (T0.setTop (mkF m 13 #[.val (.long q1), .second, .val (.long q2), .second, .val (.long q3), .second, .val (.int p4), .val (.int ((p4 &&& (2147483647 : Int32)) % (5 : Int32))), .unset, .unset, .unset, .unset, .unset, .unset] [(.long (9223372036854775807 : Int64)), (.long q1)])) t
    refine XS.land X0.here hx rfl (hb hby at_13) rfl ?_
    show Steps p.tables e below (T0.setTop (mkF m 14 #[.val (.long q1), .second, .val (.long q2), .second, .val (.long q3), .second, .val (.int p4), .val (.int ((p4 &&& (2147483647 : Int32)) % (5 : Int32))), .unset, .unset, .unset, .unset, .unset, .unset] [(.long (q1 &&& (9223372036854775807 : Int64)))])) t
    refine XS.lstore X0.here hx rfl (hb hby at_14) rfl (l' := #[.val (.long q1), .second, .val (.long q2), .second, .val (.long q3), .second, .val (.int p4), .val (.int ((p4 &&& (2147483647 : Int32)) % (5 : Int32))), .val (.long (q1 &&& (9223372036854775807 : Int64))), .second, .unset, .unset, .unset, .unset]) rfl ?_
    show Steps p.tables e below (T0.setTop (mkF m 16 #[.val (.long q1), .second, .val (.long q2), .second, .val (.long q3), .second, .val (.int p4), .val (.int ((p4 &&& (2147483647 : Int32)) % (5 : Int32))), .val (.long (q1 &&& (9223372036854775807 : Int64))), .second, .unset, .unset, .unset, .unset] [])) t
    refine X0.ldc2Long hx hown (mvT hZ (hw _ (List.mem_of_getElem? (i := 2) rfl))) (g := (mkF m 16 #[.val (.long q1), .second, .val (.long q2), .second, .val (.long q3), .second, .val (.int p4), .val (.int ((p4 &&& (2147483647 : Int32)) % (5 : Int32))), .val (.long (q1 &&& (9223372036854775807 : Int64))), .second, .unset, .unset, .unset, .unset] [])) rfl (hb hby at_16) _ ?_
    show Steps p.tables e below (T0.setTop (mkF m 19 #[.val (.long q1), .second, .val (.long q2), .second, .val (.long q3), .second, .val (.int p4), .val (.int ((p4 &&& (2147483647 : Int32)) % (5 : Int32))), .val (.long (q1 &&& (9223372036854775807 : Int64))), .second, .unset, .unset, .unset, .unset] [(.long (9223372036854775 : Int64))])) t
    refine XS.lstore X0.here hx rfl (hb hby at_19) rfl (l' := #[.val (.long q1), .second, .val (.long q2), .second, .val (.long q3), .second, .val (.int p4), .val (.int ((p4 &&& (2147483647 : Int32)) % (5 : Int32))), .val (.long (q1 &&& (9223372036854775807 : Int64))), .second, .val (.long (9223372036854775 : Int64)), .second, .unset, .unset]) rfl ?_
    show Steps p.tables e below (T0.setTop (mkF m 21 #[.val (.long q1), .second, .val (.long q2), .second, .val (.long q3), .second, .val (.int p4), .val (.int ((p4 &&& (2147483647 : Int32)) % (5 : Int32))), .val (.long (q1 &&& (9223372036854775807 : Int64))), .second, .val (.long (9223372036854775 : Int64)), .second, .unset, .unset] [])) t
    refine XS.iload X0.here hx rfl (hb hby at_21) rfl ?_
    exact k
  by_cases hc23_0 : ((p4 &&& (2147483647 : Int32)) % (5 : Int32)) = (0 : Int32)
  · rw [if_pos hc23_0]
    refine Done.of (T' := T0) (g' := (mkF m 28 #[.val (.long q1), .second, .val (.long q2), .second, .val (.long q3), .second, .val (.int p4), .val (.int ((p4 &&& (2147483647 : Int32)) % (5 : Int32))), .val (.long (q1 &&& (9223372036854775807 : Int64))), .second, .val (.long (9223372036854775 : Int64)), .second, .unset, .unset] [(.long q2), (.long (0 : Int64))])) (fun t k => ?_) ?_
    · show Steps p.tables e below (T0.setTop (mkF m 23 #[.val (.long q1), .second, .val (.long q2), .second, .val (.long q3), .second, .val (.int p4), .val (.int ((p4 &&& (2147483647 : Int32)) % (5 : Int32))), .val (.long (q1 &&& (9223372036854775807 : Int64))), .second, .val (.long (9223372036854775 : Int64)), .second, .unset, .unset] [(.int ((p4 &&& (2147483647 : Int32)) % (5 : Int32)))])) t
      refine XS.ifNo X0.here hx rfl (hb hby at_23) rfl ((if0 _ _).trans (teq hc23_0).2) ?_
      show Steps p.tables e below (T0.setTop (mkF m 26 #[.val (.long q1), .second, .val (.long q2), .second, .val (.long q3), .second, .val (.int p4), .val (.int ((p4 &&& (2147483647 : Int32)) % (5 : Int32))), .val (.long (q1 &&& (9223372036854775807 : Int64))), .second, .val (.long (9223372036854775 : Int64)), .second, .unset, .unset] [])) t
      refine XS.lconst X0.here hx rfl (hb hby at_26) ?_
      show Steps p.tables e below (T0.setTop (mkF m 27 #[.val (.long q1), .second, .val (.long q2), .second, .val (.long q3), .second, .val (.int p4), .val (.int ((p4 &&& (2147483647 : Int32)) % (5 : Int32))), .val (.long (q1 &&& (9223372036854775807 : Int64))), .second, .val (.long (9223372036854775 : Int64)), .second, .unset, .unset] [(.long (0 : Int64))])) t
      refine XS.lloadN X0.here hx rfl (hb hby at_27) rfl ?_
      exact k
    obtain ⟨_, _, ⟨T2, L2, k2, n2⟩, -, X2, ⟨Lc2, hQ2, l2, y2, z2⟩, st2⟩ := Jvm.LawKit.callS X0 hx (y := (⟨"com/example/noreply/noreply/engine/Expiration", "deadlineMillis", "(JJ)J"⟩ : MethodName)) hown (mvT hZ (hw _ (List.mem_of_getElem? (i := 4) rfl))) (mvT hZ (hw _ (List.mem_of_getElem? (i := 5) rfl))) (mvT hZ (hw _ (List.mem_of_getElem? (i := 6) rfl))) (mvT hZ (hw _ (List.mem_of_getElem? (i := 7) rfl))) (by decide) (backOf (W := 0) (rm1 l Z a0 hw [] (0 : Int64) q2 h0 n0) hZ (hw _ (List.mem_of_getElem? (i := 7) rfl)) (hw _ (List.mem_of_getElem? (i := 6) rfl)) (by decide) (by decide)) (g := (mkF m 28 #[.val (.long q1), .second, .val (.long q2), .second, .val (.long q3), .second, .val (.int p4), .val (.int ((p4 &&& (2147483647 : Int32)) % (5 : Int32))), .val (.long (q1 &&& (9223372036854775807 : Int64))), .second, .val (.long (9223372036854775 : Int64)), .second, .unset, .unset] [(.long q2), (.long (0 : Int64))])) rfl (by rw [hml]; rfl) (argsL := [(.long (0 : Int64)), (.long q2)]) (rest := []) (lenOf pd_0 rfl) rfl (by show 2 * 0 + _ ≤ _; exact Nat.le_of_eq rfl) (hb hby at_28) (fun _ _ => ⟨rfl, e0, (by decide : 0 + 0 ≤ _), (by decide : 0 + 0 ≤ _)⟩)
    dsimp only [Pt.U, Pt.locs, Pt.cells, Pt.slots] at X2 l2 y2 z2 st2 hQ2
    subst l2 y2 z2
    obtain ⟨rfl, N2q, e2⟩ := hQ2
    have N2 := Fr.app N0 N2q
    replace X2 : Stand p l e room_1 s m args below meth c T2 _ 0 0 := X2
    refine Done.of (g' := (mkF m 31 #[.val (.long q1), .second, .val (.long q2), .second, .val (.long q3), .second, .val (.int p4), .val (.int ((p4 &&& (2147483647 : Int32)) % (5 : Int32))), .val (.long (q1 &&& (9223372036854775807 : Int64))), .second, .val (.long (9223372036854775 : Int64)), .second, .unset, .unset] [(.long (F1_0 (0 : Int64) q2))])) st2 ?_
    refine Done.of (T' := T2) (g' := (mkF m 35 #[.val (.long q1), .second, .val (.long q2), .second, .val (.long q3), .second, .val (.int p4), .val (.int ((p4 &&& (2147483647 : Int32)) % (5 : Int32))), .val (.long (q1 &&& (9223372036854775807 : Int64))), .second, .val (.long (9223372036854775 : Int64)), .second, .unset, .unset] [(.int (lcmpW (F1_0 (0 : Int64) q2) (9223372036854775807 : Int64)))])) (fun t k => ?_) ?_
    · show Steps p.tables e below (T2.setTop (mkF m 31 #[.val (.long q1), .second, .val (.long q2), .second, .val (.long q3), .second, .val (.int p4), .val (.int ((p4 &&& (2147483647 : Int32)) % (5 : Int32))), .val (.long (q1 &&& (9223372036854775807 : Int64))), .second, .val (.long (9223372036854775 : Int64)), .second, .unset, .unset] [(.long (F1_0 (0 : Int64) q2))])) t
      refine X2.ldc2Long hx hown (mvT hZ (hw _ (List.mem_of_getElem? (i := 1) rfl))) (g := (mkF m 31 #[.val (.long q1), .second, .val (.long q2), .second, .val (.long q3), .second, .val (.int p4), .val (.int ((p4 &&& (2147483647 : Int32)) % (5 : Int32))), .val (.long (q1 &&& (9223372036854775807 : Int64))), .second, .val (.long (9223372036854775 : Int64)), .second, .unset, .unset] [(.long (F1_0 (0 : Int64) q2))])) rfl (hb hby at_31) _ ?_
      show Steps p.tables e below (T2.setTop (mkF m 34 #[.val (.long q1), .second, .val (.long q2), .second, .val (.long q3), .second, .val (.int p4), .val (.int ((p4 &&& (2147483647 : Int32)) % (5 : Int32))), .val (.long (q1 &&& (9223372036854775807 : Int64))), .second, .val (.long (9223372036854775 : Int64)), .second, .unset, .unset] [(.long (9223372036854775807 : Int64)), (.long (F1_0 (0 : Int64) q2))])) t
      refine XS.lcmp X2.here hx rfl (hb hby at_34) rfl ?_
      exact k
    by_cases hc35_2 : (F1_0 (0 : Int64) q2) = (9223372036854775807 : Int64)
    · rw [if_pos hc35_2]
      refine Done.of (T' := T2) (g' := (mkF m 41 #[.val (.long q1), .second, .val (.long q2), .second, .val (.long q3), .second, .val (.int p4), .val (.int ((p4 &&& (2147483647 : Int32)) % (5 : Int32))), .val (.long (q1 &&& (9223372036854775807 : Int64))), .second, .val (.long (9223372036854775 : Int64)), .second, .unset, .unset] [(.long q3), (.long (0 : Int64))])) (fun t k => ?_) ?_
      · show Steps p.tables e below (T2.setTop (mkF m 35 #[.val (.long q1), .second, .val (.long q2), .second, .val (.long q3), .second, .val (.int p4), .val (.int ((p4 &&& (2147483647 : Int32)) % (5 : Int32))), .val (.long (q1 &&& (9223372036854775807 : Int64))), .second, .val (.long (9223372036854775 : Int64)), .second, .unset, .unset] [(.int (lcmpW (F1_0 (0 : Int64) q2) (9223372036854775807 : Int64)))])) t
        refine XS.ifNo X2.here hx rfl (hb hby at_35) rfl (lcEq_t hc35_2).2 ?_
        show Steps p.tables e below (T2.setTop (mkF m 38 #[.val (.long q1), .second, .val (.long q2), .second, .val (.long q3), .second, .val (.int p4), .val (.int ((p4 &&& (2147483647 : Int32)) % (5 : Int32))), .val (.long (q1 &&& (9223372036854775807 : Int64))), .second, .val (.long (9223372036854775 : Int64)), .second, .unset, .unset] [])) t
        refine XS.lconst X2.here hx rfl (hb hby at_38) ?_
        show Steps p.tables e below (T2.setTop (mkF m 39 #[.val (.long q1), .second, .val (.long q2), .second, .val (.long q3), .second, .val (.int p4), .val (.int ((p4 &&& (2147483647 : Int32)) % (5 : Int32))), .val (.long (q1 &&& (9223372036854775807 : Int64))), .second, .val (.long (9223372036854775 : Int64)), .second, .unset, .unset] [(.long (0 : Int64))])) t
        refine XS.lload X2.here hx rfl (hb hby at_39) rfl ?_
        exact k
      obtain ⟨_, _, ⟨T4, L4, k4, n4⟩, -, X4, ⟨Lc4, hQ4, l4, y4, z4⟩, st4⟩ := Jvm.LawKit.callS X2 hx (y := (⟨"com/example/noreply/noreply/engine/Expiration", "deadlineMillis", "(JJ)J"⟩ : MethodName)) hown (mvT hZ (hw _ (List.mem_of_getElem? (i := 4) rfl))) (mvT hZ (hw _ (List.mem_of_getElem? (i := 5) rfl))) (mvT hZ (hw _ (List.mem_of_getElem? (i := 6) rfl))) (mvT hZ (hw _ (List.mem_of_getElem? (i := 7) rfl))) (by decide) (backOf (W := 0) (rm1 l Z a0 hw [] (0 : Int64) q3 h0 n0) hZ (hw _ (List.mem_of_getElem? (i := 7) rfl)) (hw _ (List.mem_of_getElem? (i := 6) rfl)) (by decide) (by decide)) (g := (mkF m 41 #[.val (.long q1), .second, .val (.long q2), .second, .val (.long q3), .second, .val (.int p4), .val (.int ((p4 &&& (2147483647 : Int32)) % (5 : Int32))), .val (.long (q1 &&& (9223372036854775807 : Int64))), .second, .val (.long (9223372036854775 : Int64)), .second, .unset, .unset] [(.long q3), (.long (0 : Int64))])) rfl (by rw [hml]; rfl) (argsL := [(.long (0 : Int64)), (.long q3)]) (rest := []) (lenOf pd_0 rfl) rfl (by show 2 * 0 + _ ≤ _; exact Nat.le_of_eq rfl) (hb hby at_41) (fun _ _ => ⟨rfl, e2, (by decide : 0 + 0 ≤ _), (by decide : 0 + 0 ≤ _)⟩)
      dsimp only [Pt.U, Pt.locs, Pt.cells, Pt.slots] at X4 l4 y4 z4 st4 hQ4
      subst l4 y4 z4
      obtain ⟨rfl, N4q, e4⟩ := hQ4
      have N4 := Fr.app N2 N4q
      replace X4 : Stand p l e room_1 s m args below meth c T4 _ 0 0 := X4
      refine Done.of (g' := (mkF m 44 #[.val (.long q1), .second, .val (.long q2), .second, .val (.long q3), .second, .val (.int p4), .val (.int ((p4 &&& (2147483647 : Int32)) % (5 : Int32))), .val (.long (q1 &&& (9223372036854775807 : Int64))), .second, .val (.long (9223372036854775 : Int64)), .second, .unset, .unset] [(.long (F1_0 (0 : Int64) q3))])) st4 ?_
      refine Done.of (T' := T4) (g' := (mkF m 48 #[.val (.long q1), .second, .val (.long q2), .second, .val (.long q3), .second, .val (.int p4), .val (.int ((p4 &&& (2147483647 : Int32)) % (5 : Int32))), .val (.long (q1 &&& (9223372036854775807 : Int64))), .second, .val (.long (9223372036854775 : Int64)), .second, .unset, .unset] [(.int (lcmpW (F1_0 (0 : Int64) q3) (9223372036854775807 : Int64)))])) (fun t k => ?_) ?_
      · show Steps p.tables e below (T4.setTop (mkF m 44 #[.val (.long q1), .second, .val (.long q2), .second, .val (.long q3), .second, .val (.int p4), .val (.int ((p4 &&& (2147483647 : Int32)) % (5 : Int32))), .val (.long (q1 &&& (9223372036854775807 : Int64))), .second, .val (.long (9223372036854775 : Int64)), .second, .unset, .unset] [(.long (F1_0 (0 : Int64) q3))])) t
        refine X4.ldc2Long hx hown (mvT hZ (hw _ (List.mem_of_getElem? (i := 1) rfl))) (g := (mkF m 44 #[.val (.long q1), .second, .val (.long q2), .second, .val (.long q3), .second, .val (.int p4), .val (.int ((p4 &&& (2147483647 : Int32)) % (5 : Int32))), .val (.long (q1 &&& (9223372036854775807 : Int64))), .second, .val (.long (9223372036854775 : Int64)), .second, .unset, .unset] [(.long (F1_0 (0 : Int64) q3))])) rfl (hb hby at_44) _ ?_
        show Steps p.tables e below (T4.setTop (mkF m 47 #[.val (.long q1), .second, .val (.long q2), .second, .val (.long q3), .second, .val (.int p4), .val (.int ((p4 &&& (2147483647 : Int32)) % (5 : Int32))), .val (.long (q1 &&& (9223372036854775807 : Int64))), .second, .val (.long (9223372036854775 : Int64)), .second, .unset, .unset] [(.long (9223372036854775807 : Int64)), (.long (F1_0 (0 : Int64) q3))])) t
        refine XS.lcmp X4.here hx rfl (hb hby at_47) rfl ?_
        exact k
      by_cases hc48_4 : (F1_0 (0 : Int64) q3) = (9223372036854775807 : Int64)
      · rw [if_pos hc48_4]
        refine Done.of (T' := T4) (g' := (mkF m 56 #[.val (.long q1), .second, .val (.long q2), .second, .val (.long q3), .second, .val (.int p4), .val (.int ((p4 &&& (2147483647 : Int32)) % (5 : Int32))), .val (.long (q1 &&& (9223372036854775807 : Int64))), .second, .val (.long (9223372036854775 : Int64)), .second, .unset, .unset] [(.int (1 : Int32))])) (fun t k => ?_) ?_
        · show Steps p.tables e below (T4.setTop (mkF m 48 #[.val (.long q1), .second, .val (.long q2), .second, .val (.long q3), .second, .val (.int p4), .val (.int ((p4 &&& (2147483647 : Int32)) % (5 : Int32))), .val (.long (q1 &&& (9223372036854775807 : Int64))), .second, .val (.long (9223372036854775 : Int64)), .second, .unset, .unset] [(.int (lcmpW (F1_0 (0 : Int64) q3) (9223372036854775807 : Int64)))])) t
          refine XS.ifNo X4.here hx rfl (hb hby at_48) rfl (lcEq_t hc48_4).2 ?_
          show Steps p.tables e below (T4.setTop (mkF m 51 #[.val (.long q1), .second, .val (.long q2), .second, .val (.long q3), .second, .val (.int p4), .val (.int ((p4 &&& (2147483647 : Int32)) % (5 : Int32))), .val (.long (q1 &&& (9223372036854775807 : Int64))), .second, .val (.long (9223372036854775 : Int64)), .second, .unset, .unset] [])) t
          refine XS.iconst X4.here hx rfl (hb hby at_51) ?_
          show Steps p.tables e below (T4.setTop (mkF m 52 #[.val (.long q1), .second, .val (.long q2), .second, .val (.long q3), .second, .val (.int p4), .val (.int ((p4 &&& (2147483647 : Int32)) % (5 : Int32))), .val (.long (q1 &&& (9223372036854775807 : Int64))), .second, .val (.long (9223372036854775 : Int64)), .second, .unset, .unset] [(.int (1 : Int32))])) t
          refine XS.goto X4.here hx rfl (pc0 := 52) (pc' := 56) rfl (hb hby at_52) (by decide) (by decide) ?_
          exact k
        exact doneN (t := .boolean) X4 (by simp) hx hret hlk (hb hby at_56) ⟨rfl, N4⟩ (by decide) (by decide)
      · rw [if_neg hc48_4]
        refine Done.of (T' := T4) (g' := (mkF m 56 #[.val (.long q1), .second, .val (.long q2), .second, .val (.long q3), .second, .val (.int p4), .val (.int ((p4 &&& (2147483647 : Int32)) % (5 : Int32))), .val (.long (q1 &&& (9223372036854775807 : Int64))), .second, .val (.long (9223372036854775 : Int64)), .second, .unset, .unset] [(.int (0 : Int32))])) (fun t k => ?_) ?_
        · show Steps p.tables e below (T4.setTop (mkF m 48 #[.val (.long q1), .second, .val (.long q2), .second, .val (.long q3), .second, .val (.int p4), .val (.int ((p4 &&& (2147483647 : Int32)) % (5 : Int32))), .val (.long (q1 &&& (9223372036854775807 : Int64))), .second, .val (.long (9223372036854775 : Int64)), .second, .unset, .unset] [(.int (lcmpW (F1_0 (0 : Int64) q3) (9223372036854775807 : Int64)))])) t
          refine XS.ifYes X4.here hx rfl (pc0 := 48) (pc' := 55) rfl (hb hby at_48) rfl (lcEq_f hc48_4).2 (by decide) (by decide) ?_
          show Steps p.tables e below (T4.setTop (mkF m 55 #[.val (.long q1), .second, .val (.long q2), .second, .val (.long q3), .second, .val (.int p4), .val (.int ((p4 &&& (2147483647 : Int32)) % (5 : Int32))), .val (.long (q1 &&& (9223372036854775807 : Int64))), .second, .val (.long (9223372036854775 : Int64)), .second, .unset, .unset] [])) t
          refine XS.iconst X4.here hx rfl (hb hby at_55) ?_
          exact k
        exact doneN (t := .boolean) X4 (by simp) hx hret hlk (hb hby at_56) ⟨rfl, N4⟩ (by decide) (by decide)
    · rw [if_neg hc35_2]
      refine Done.of (T' := T2) (g' := (mkF m 56 #[.val (.long q1), .second, .val (.long q2), .second, .val (.long q3), .second, .val (.int p4), .val (.int ((p4 &&& (2147483647 : Int32)) % (5 : Int32))), .val (.long (q1 &&& (9223372036854775807 : Int64))), .second, .val (.long (9223372036854775 : Int64)), .second, .unset, .unset] [(.int (0 : Int32))])) (fun t k => ?_) ?_
      · show Steps p.tables e below (T2.setTop (mkF m 35 #[.val (.long q1), .second, .val (.long q2), .second, .val (.long q3), .second, .val (.int p4), .val (.int ((p4 &&& (2147483647 : Int32)) % (5 : Int32))), .val (.long (q1 &&& (9223372036854775807 : Int64))), .second, .val (.long (9223372036854775 : Int64)), .second, .unset, .unset] [(.int (lcmpW (F1_0 (0 : Int64) q2) (9223372036854775807 : Int64)))])) t
        refine XS.ifYes X2.here hx rfl (pc0 := 35) (pc' := 55) rfl (hb hby at_35) rfl (lcEq_f hc35_2).2 (by decide) (by decide) ?_
        show Steps p.tables e below (T2.setTop (mkF m 55 #[.val (.long q1), .second, .val (.long q2), .second, .val (.long q3), .second, .val (.int p4), .val (.int ((p4 &&& (2147483647 : Int32)) % (5 : Int32))), .val (.long (q1 &&& (9223372036854775807 : Int64))), .second, .val (.long (9223372036854775 : Int64)), .second, .unset, .unset] [])) t
        refine XS.iconst X2.here hx rfl (hb hby at_55) ?_
        exact k
      exact doneN (t := .boolean) X2 (by simp) hx hret hlk (hb hby at_56) ⟨rfl, N2⟩ (by decide) (by decide)
  · rw [if_neg hc23_0]
    refine Done.of (T' := T0) (g' := (mkF m 60 #[.val (.long q1), .second, .val (.long q2), .second, .val (.long q3), .second, .val (.int p4), .val (.int ((p4 &&& (2147483647 : Int32)) % (5 : Int32))), .val (.long (q1 &&& (9223372036854775807 : Int64))), .second, .val (.long (9223372036854775 : Int64)), .second, .unset, .unset] [(.int (1 : Int32)), (.int ((p4 &&& (2147483647 : Int32)) % (5 : Int32)))])) (fun t k => ?_) ?_
    · show Steps p.tables e below (T0.setTop (mkF m 23 #[.val (.long q1), .second, .val (.long q2), .second, .val (.long q3), .second, .val (.int p4), .val (.int ((p4 &&& (2147483647 : Int32)) % (5 : Int32))), .val (.long (q1 &&& (9223372036854775807 : Int64))), .second, .val (.long (9223372036854775 : Int64)), .second, .unset, .unset] [(.int ((p4 &&& (2147483647 : Int32)) % (5 : Int32)))])) t
      refine XS.ifYes X0.here hx rfl (pc0 := 23) (pc' := 57) rfl (hb hby at_23) rfl ((if0 _ _).trans (feq hc23_0).2) (by decide) (by decide) ?_
      show Steps p.tables e below (T0.setTop (mkF m 57 #[.val (.long q1), .second, .val (.long q2), .second, .val (.long q3), .second, .val (.int p4), .val (.int ((p4 &&& (2147483647 : Int32)) % (5 : Int32))), .val (.long (q1 &&& (9223372036854775807 : Int64))), .second, .val (.long (9223372036854775 : Int64)), .second, .unset, .unset] [])) t
      refine XS.iload X0.here hx rfl (hb hby at_57) rfl ?_
      show Steps p.tables e below (T0.setTop (mkF m 59 #[.val (.long q1), .second, .val (.long q2), .second, .val (.long q3), .second, .val (.int p4), .val (.int ((p4 &&& (2147483647 : Int32)) % (5 : Int32))), .val (.long (q1 &&& (9223372036854775807 : Int64))), .second, .val (.long (9223372036854775 : Int64)), .second, .unset, .unset] [(.int ((p4 &&& (2147483647 : Int32)) % (5 : Int32)))])) t
      refine XS.iconst X0.here hx rfl (hb hby at_59) ?_
      exact k
    by_cases hc60_5 : ((p4 &&& (2147483647 : Int32)) % (5 : Int32)) = (1 : Int32)
    · rw [if_pos hc60_5]
      refine Done.of (T' := T0) (g' := (mkF m 73 #[.val (.long q1), .second, .val (.long q2), .second, .val (.long q3), .second, .val (.int p4), .val (.int ((p4 &&& (2147483647 : Int32)) % (5 : Int32))), .val (.long (q1 &&& (9223372036854775807 : Int64))), .second, .val (.long (9223372036854775 : Int64)), .second, .val (.long (q1 ||| (-9223372036854775808 : Int64))), .second] [(.long q2), (.long (q1 ||| (-9223372036854775808 : Int64)))])) (fun t k => ?_) ?_
      · show Steps p.tables e below (T0.setTop (mkF m 60 #[.val (.long q1), .second, .val (.long q2), .second, .val (.long q3), .second, .val (.int p4), .val (.int ((p4 &&& (2147483647 : Int32)) % (5 : Int32))), .val (.long (q1 &&& (9223372036854775807 : Int64))), .second, .val (.long (9223372036854775 : Int64)), .second, .unset, .unset] [(.int (1 : Int32)), (.int ((p4 &&& (2147483647 : Int32)) % (5 : Int32)))])) t
        refine XS.icmpNo X0.here hx rfl (hb hby at_60) rfl (teq hc60_5).2 ?_
        show Steps p.tables e below (T0.setTop (mkF m 63 #[.val (.long q1), .second, .val (.long q2), .second, .val (.long q3), .second, .val (.int p4), .val (.int ((p4 &&& (2147483647 : Int32)) % (5 : Int32))), .val (.long (q1 &&& (9223372036854775807 : Int64))), .second, .val (.long (9223372036854775 : Int64)), .second, .unset, .unset] [])) t
        refine XS.lloadN X0.here hx rfl (hb hby at_63) rfl ?_
        show Steps p.tables e below (T0.setTop (mkF m 64 #[.val (.long q1), .second, .val (.long q2), .second, .val (.long q3), .second, .val (.int p4), .val (.int ((p4 &&& (2147483647 : Int32)) % (5 : Int32))), .val (.long (q1 &&& (9223372036854775807 : Int64))), .second, .val (.long (9223372036854775 : Int64)), .second, .unset, .unset] [(.long q1)])) t
        refine X0.ldc2Long hx hown (mvT hZ (hw _ (List.mem_of_getElem? (i := 13) rfl))) (g := (mkF m 64 #[.val (.long q1), .second, .val (.long q2), .second, .val (.long q3), .second, .val (.int p4), .val (.int ((p4 &&& (2147483647 : Int32)) % (5 : Int32))), .val (.long (q1 &&& (9223372036854775807 : Int64))), .second, .val (.long (9223372036854775 : Int64)), .second, .unset, .unset] [(.long q1)])) rfl (hb hby at_64) _ ?_
        show Steps p.tables e below (T0.setTop (mkF m 67 #[.val (.long q1), .second, .val (.long q2), .second, .val (.long q3), .second, .val (.int p4), .val (.int ((p4 &&& (2147483647 : Int32)) % (5 : Int32))), .val (.long (q1 &&& (9223372036854775807 : Int64))), .second, .val (.long (9223372036854775 : Int64)), .second, .unset, .unset] [(.long (-9223372036854775808 : Int64)), (.long q1)])) t
        refine XS.lor X0.here hx rfl (hb hby at_67) rfl ?_
        show Steps p.tables e below (T0.setTop (mkF m 68 #[.val (.long q1), .second, .val (.long q2), .second, .val (.long q3), .second, .val (.int p4), .val (.int ((p4 &&& (2147483647 : Int32)) % (5 : Int32))), .val (.long (q1 &&& (9223372036854775807 : Int64))), .second, .val (.long (9223372036854775 : Int64)), .second, .unset, .unset] [(.long (q1 ||| (-9223372036854775808 : Int64)))])) t
        refine XS.lstore X0.here hx rfl (hb hby at_68) rfl (l' := #[.val (.long q1), .second, .val (.long q2), .second, .val (.long q3), .second, .val (.int p4), .val (.int ((p4 &&& (2147483647 : Int32)) % (5 : Int32))), .val (.long (q1 &&& (9223372036854775807 : Int64))), .second, .val (.long (9223372036854775 : Int64)), .second, .val (.long (q1 ||| (-9223372036854775808 : Int64))), .second]) rfl ?_
        show Steps p.tables e below (T0.setTop (mkF m 70 #[.val (.long q1), .second, .val (.long q2), .second, .val (.long q3), .second, .val (.int p4), .val (.int ((p4 &&& (2147483647 : Int32)) % (5 : Int32))), .val (.long (q1 &&& (9223372036854775807 : Int64))), .second, .val (.long (9223372036854775 : Int64)), .second, .val (.long (q1 ||| (-9223372036854775808 : Int64))), .second] [])) t
        refine XS.lload X0.here hx rfl (hb hby at_70) rfl ?_
        show Steps p.tables e below (T0.setTop (mkF m 72 #[.val (.long q1), .second, .val (.long q2), .second, .val (.long q3), .second, .val (.int p4), .val (.int ((p4 &&& (2147483647 : Int32)) % (5 : Int32))), .val (.long (q1 &&& (9223372036854775807 : Int64))), .second, .val (.long (9223372036854775 : Int64)), .second, .val (.long (q1 ||| (-9223372036854775808 : Int64))), .second] [(.long (q1 ||| (-9223372036854775808 : Int64)))])) t
        refine XS.lloadN X0.here hx rfl (hb hby at_72) rfl ?_
        exact k
      obtain ⟨_, _, ⟨T7, L7, k7, n7⟩, -, X7, ⟨Lc7, hQ7, l7, y7, z7⟩, st7⟩ := Jvm.LawKit.callS X0 hx (y := (⟨"com/example/noreply/noreply/engine/Expiration", "deadlineMillis", "(JJ)J"⟩ : MethodName)) hown (mvT hZ (hw _ (List.mem_of_getElem? (i := 4) rfl))) (mvT hZ (hw _ (List.mem_of_getElem? (i := 5) rfl))) (mvT hZ (hw _ (List.mem_of_getElem? (i := 6) rfl))) (mvT hZ (hw _ (List.mem_of_getElem? (i := 7) rfl))) (by decide) (backOf (W := 0) (rm1 l Z a0 hw [] (q1 ||| (-9223372036854775808 : Int64)) q2 h0 n0) hZ (hw _ (List.mem_of_getElem? (i := 7) rfl)) (hw _ (List.mem_of_getElem? (i := 6) rfl)) (by decide) (by decide)) (g := (mkF m 73 #[.val (.long q1), .second, .val (.long q2), .second, .val (.long q3), .second, .val (.int p4), .val (.int ((p4 &&& (2147483647 : Int32)) % (5 : Int32))), .val (.long (q1 &&& (9223372036854775807 : Int64))), .second, .val (.long (9223372036854775 : Int64)), .second, .val (.long (q1 ||| (-9223372036854775808 : Int64))), .second] [(.long q2), (.long (q1 ||| (-9223372036854775808 : Int64)))])) rfl (by rw [hml]; rfl) (argsL := [(.long (q1 ||| (-9223372036854775808 : Int64))), (.long q2)]) (rest := []) (lenOf pd_0 rfl) rfl (by show 2 * 0 + _ ≤ _; exact Nat.le_of_eq rfl) (hb hby at_73) (fun _ _ => ⟨rfl, e0, (by decide : 0 + 0 ≤ _), (by decide : 0 + 0 ≤ _)⟩)
      dsimp only [Pt.U, Pt.locs, Pt.cells, Pt.slots] at X7 l7 y7 z7 st7 hQ7
      subst l7 y7 z7
      obtain ⟨rfl, N7q, e7⟩ := hQ7
      have N7 := Fr.app N0 N7q
      replace X7 : Stand p l e room_1 s m args below meth c T7 _ 0 0 := X7
      refine Done.of (g' := (mkF m 76 #[.val (.long q1), .second, .val (.long q2), .second, .val (.long q3), .second, .val (.int p4), .val (.int ((p4 &&& (2147483647 : Int32)) % (5 : Int32))), .val (.long (q1 &&& (9223372036854775807 : Int64))), .second, .val (.long (9223372036854775 : Int64)), .second, .val (.long (q1 ||| (-9223372036854775808 : Int64))), .second] [(.long (F1_0 (q1 ||| (-9223372036854775808 : Int64)) q2))])) st7 ?_
      refine Done.of (T' := T7) (g' := (mkF m 80 #[.val (.long q1), .second, .val (.long q2), .second, .val (.long q3), .second, .val (.int p4), .val (.int ((p4 &&& (2147483647 : Int32)) % (5 : Int32))), .val (.long (q1 &&& (9223372036854775807 : Int64))), .second, .val (.long (9223372036854775 : Int64)), .second, .val (.long (q1 ||| (-9223372036854775808 : Int64))), .second] [(.int (lcmpW (F1_0 (q1 ||| (-9223372036854775808 : Int64)) q2) (-9223372036854775808 : Int64)))])) (fun t k => ?_) ?_
      · show Steps p.tables e below (T7.setTop (mkF m 76 #[.val (.long q1), .second, .val (.long q2), .second, .val (.long q3), .second, .val (.int p4), .val (.int ((p4 &&& (2147483647 : Int32)) % (5 : Int32))), .val (.long (q1 &&& (9223372036854775807 : Int64))), .second, .val (.long (9223372036854775 : Int64)), .second, .val (.long (q1 ||| (-9223372036854775808 : Int64))), .second] [(.long (F1_0 (q1 ||| (-9223372036854775808 : Int64)) q2))])) t
        refine X7.ldc2Long hx hown (mvT hZ (hw _ (List.mem_of_getElem? (i := 13) rfl))) (g := (mkF m 76 #[.val (.long q1), .second, .val (.long q2), .second, .val (.long q3), .second, .val (.int p4), .val (.int ((p4 &&& (2147483647 : Int32)) % (5 : Int32))), .val (.long (q1 &&& (9223372036854775807 : Int64))), .second, .val (.long (9223372036854775 : Int64)), .second, .val (.long (q1 ||| (-9223372036854775808 : Int64))), .second] [(.long (F1_0 (q1 ||| (-9223372036854775808 : Int64)) q2))])) rfl (hb hby at_76) _ ?_
        show Steps p.tables e below (T7.setTop (mkF m 79 #[.val (.long q1), .second, .val (.long q2), .second, .val (.long q3), .second, .val (.int p4), .val (.int ((p4 &&& (2147483647 : Int32)) % (5 : Int32))), .val (.long (q1 &&& (9223372036854775807 : Int64))), .second, .val (.long (9223372036854775 : Int64)), .second, .val (.long (q1 ||| (-9223372036854775808 : Int64))), .second] [(.long (-9223372036854775808 : Int64)), (.long (F1_0 (q1 ||| (-9223372036854775808 : Int64)) q2))])) t
        refine XS.lcmp X7.here hx rfl (hb hby at_79) rfl ?_
        exact k
      by_cases hc80_7 : (F1_0 (q1 ||| (-9223372036854775808 : Int64)) q2) = (-9223372036854775808 : Int64)
      · rw [if_pos hc80_7]
        refine Done.of (T' := T7) (g' := (mkF m 87 #[.val (.long q1), .second, .val (.long q2), .second, .val (.long q3), .second, .val (.int p4), .val (.int ((p4 &&& (2147483647 : Int32)) % (5 : Int32))), .val (.long (q1 &&& (9223372036854775807 : Int64))), .second, .val (.long (9223372036854775 : Int64)), .second, .val (.long (q1 ||| (-9223372036854775808 : Int64))), .second] [(.long q3), (.long (q1 ||| (-9223372036854775808 : Int64)))])) (fun t k => ?_) ?_
        · show Steps p.tables e below (T7.setTop (mkF m 80 #[.val (.long q1), .second, .val (.long q2), .second, .val (.long q3), .second, .val (.int p4), .val (.int ((p4 &&& (2147483647 : Int32)) % (5 : Int32))), .val (.long (q1 &&& (9223372036854775807 : Int64))), .second, .val (.long (9223372036854775 : Int64)), .second, .val (.long (q1 ||| (-9223372036854775808 : Int64))), .second] [(.int (lcmpW (F1_0 (q1 ||| (-9223372036854775808 : Int64)) q2) (-9223372036854775808 : Int64)))])) t
          refine XS.ifNo X7.here hx rfl (hb hby at_80) rfl (lcEq_t hc80_7).2 ?_
          show Steps p.tables e below (T7.setTop (mkF m 83 #[.val (.long q1), .second, .val (.long q2), .second, .val (.long q3), .second, .val (.int p4), .val (.int ((p4 &&& (2147483647 : Int32)) % (5 : Int32))), .val (.long (q1 &&& (9223372036854775807 : Int64))), .second, .val (.long (9223372036854775 : Int64)), .second, .val (.long (q1 ||| (-9223372036854775808 : Int64))), .second] [])) t
          refine XS.lload X7.here hx rfl (hb hby at_83) rfl ?_
          show Steps p.tables e below (T7.setTop (mkF m 85 #[.val (.long q1), .second, .val (.long q2), .second, .val (.long q3), .second, .val (.int p4), .val (.int ((p4 &&& (2147483647 : Int32)) % (5 : Int32))), .val (.long (q1 &&& (9223372036854775807 : Int64))), .second, .val (.long (9223372036854775 : Int64)), .second, .val (.long (q1 ||| (-9223372036854775808 : Int64))), .second] [(.long (q1 ||| (-9223372036854775808 : Int64)))])) t
          refine XS.lload X7.here hx rfl (hb hby at_85) rfl ?_
          exact k
        obtain ⟨_, _, ⟨T9, L9, k9, n9⟩, -, X9, ⟨Lc9, hQ9, l9, y9, z9⟩, st9⟩ := Jvm.LawKit.callS X7 hx (y := (⟨"com/example/noreply/noreply/engine/Expiration", "deadlineMillis", "(JJ)J"⟩ : MethodName)) hown (mvT hZ (hw _ (List.mem_of_getElem? (i := 4) rfl))) (mvT hZ (hw _ (List.mem_of_getElem? (i := 5) rfl))) (mvT hZ (hw _ (List.mem_of_getElem? (i := 6) rfl))) (mvT hZ (hw _ (List.mem_of_getElem? (i := 7) rfl))) (by decide) (backOf (W := 0) (rm1 l Z a0 hw [] (q1 ||| (-9223372036854775808 : Int64)) q3 h0 n0) hZ (hw _ (List.mem_of_getElem? (i := 7) rfl)) (hw _ (List.mem_of_getElem? (i := 6) rfl)) (by decide) (by decide)) (g := (mkF m 87 #[.val (.long q1), .second, .val (.long q2), .second, .val (.long q3), .second, .val (.int p4), .val (.int ((p4 &&& (2147483647 : Int32)) % (5 : Int32))), .val (.long (q1 &&& (9223372036854775807 : Int64))), .second, .val (.long (9223372036854775 : Int64)), .second, .val (.long (q1 ||| (-9223372036854775808 : Int64))), .second] [(.long q3), (.long (q1 ||| (-9223372036854775808 : Int64)))])) rfl (by rw [hml]; rfl) (argsL := [(.long (q1 ||| (-9223372036854775808 : Int64))), (.long q3)]) (rest := []) (lenOf pd_0 rfl) rfl (by show 2 * 0 + _ ≤ _; exact Nat.le_of_eq rfl) (hb hby at_87) (fun _ _ => ⟨rfl, e7, (by decide : 0 + 0 ≤ _), (by decide : 0 + 0 ≤ _)⟩)
        dsimp only [Pt.U, Pt.locs, Pt.cells, Pt.slots] at X9 l9 y9 z9 st9 hQ9
        subst l9 y9 z9
        obtain ⟨rfl, N9q, e9⟩ := hQ9
        have N9 := Fr.app N7 N9q
        replace X9 : Stand p l e room_1 s m args below meth c T9 _ 0 0 := X9
        refine Done.of (g' := (mkF m 90 #[.val (.long q1), .second, .val (.long q2), .second, .val (.long q3), .second, .val (.int p4), .val (.int ((p4 &&& (2147483647 : Int32)) % (5 : Int32))), .val (.long (q1 &&& (9223372036854775807 : Int64))), .second, .val (.long (9223372036854775 : Int64)), .second, .val (.long (q1 ||| (-9223372036854775808 : Int64))), .second] [(.long (F1_0 (q1 ||| (-9223372036854775808 : Int64)) q3))])) st9 ?_
        refine Done.of (T' := T9) (g' := (mkF m 94 #[.val (.long q1), .second, .val (.long q2), .second, .val (.long q3), .second, .val (.int p4), .val (.int ((p4 &&& (2147483647 : Int32)) % (5 : Int32))), .val (.long (q1 &&& (9223372036854775807 : Int64))), .second, .val (.long (9223372036854775 : Int64)), .second, .val (.long (q1 ||| (-9223372036854775808 : Int64))), .second] [(.int (lcmpW (F1_0 (q1 ||| (-9223372036854775808 : Int64)) q3) (-9223372036854775808 : Int64)))])) (fun t k => ?_) ?_
        · show Steps p.tables e below (T9.setTop (mkF m 90 #[.val (.long q1), .second, .val (.long q2), .second, .val (.long q3), .second, .val (.int p4), .val (.int ((p4 &&& (2147483647 : Int32)) % (5 : Int32))), .val (.long (q1 &&& (9223372036854775807 : Int64))), .second, .val (.long (9223372036854775 : Int64)), .second, .val (.long (q1 ||| (-9223372036854775808 : Int64))), .second] [(.long (F1_0 (q1 ||| (-9223372036854775808 : Int64)) q3))])) t
          refine X9.ldc2Long hx hown (mvT hZ (hw _ (List.mem_of_getElem? (i := 13) rfl))) (g := (mkF m 90 #[.val (.long q1), .second, .val (.long q2), .second, .val (.long q3), .second, .val (.int p4), .val (.int ((p4 &&& (2147483647 : Int32)) % (5 : Int32))), .val (.long (q1 &&& (9223372036854775807 : Int64))), .second, .val (.long (9223372036854775 : Int64)), .second, .val (.long (q1 ||| (-9223372036854775808 : Int64))), .second] [(.long (F1_0 (q1 ||| (-9223372036854775808 : Int64)) q3))])) rfl (hb hby at_90) _ ?_
          show Steps p.tables e below (T9.setTop (mkF m 93 #[.val (.long q1), .second, .val (.long q2), .second, .val (.long q3), .second, .val (.int p4), .val (.int ((p4 &&& (2147483647 : Int32)) % (5 : Int32))), .val (.long (q1 &&& (9223372036854775807 : Int64))), .second, .val (.long (9223372036854775 : Int64)), .second, .val (.long (q1 ||| (-9223372036854775808 : Int64))), .second] [(.long (-9223372036854775808 : Int64)), (.long (F1_0 (q1 ||| (-9223372036854775808 : Int64)) q3))])) t
          refine XS.lcmp X9.here hx rfl (hb hby at_93) rfl ?_
          exact k
        by_cases hc94_9 : (F1_0 (q1 ||| (-9223372036854775808 : Int64)) q3) = (-9223372036854775808 : Int64)
        · rw [if_pos hc94_9]
          refine Done.of (T' := T9) (g' := (mkF m 102 #[.val (.long q1), .second, .val (.long q2), .second, .val (.long q3), .second, .val (.int p4), .val (.int ((p4 &&& (2147483647 : Int32)) % (5 : Int32))), .val (.long (q1 &&& (9223372036854775807 : Int64))), .second, .val (.long (9223372036854775 : Int64)), .second, .val (.long (q1 ||| (-9223372036854775808 : Int64))), .second] [(.int (1 : Int32))])) (fun t k => ?_) ?_
          · show Steps p.tables e below (T9.setTop (mkF m 94 #[.val (.long q1), .second, .val (.long q2), .second, .val (.long q3), .second, .val (.int p4), .val (.int ((p4 &&& (2147483647 : Int32)) % (5 : Int32))), .val (.long (q1 &&& (9223372036854775807 : Int64))), .second, .val (.long (9223372036854775 : Int64)), .second, .val (.long (q1 ||| (-9223372036854775808 : Int64))), .second] [(.int (lcmpW (F1_0 (q1 ||| (-9223372036854775808 : Int64)) q3) (-9223372036854775808 : Int64)))])) t
            refine XS.ifNo X9.here hx rfl (hb hby at_94) rfl (lcEq_t hc94_9).2 ?_
            show Steps p.tables e below (T9.setTop (mkF m 97 #[.val (.long q1), .second, .val (.long q2), .second, .val (.long q3), .second, .val (.int p4), .val (.int ((p4 &&& (2147483647 : Int32)) % (5 : Int32))), .val (.long (q1 &&& (9223372036854775807 : Int64))), .second, .val (.long (9223372036854775 : Int64)), .second, .val (.long (q1 ||| (-9223372036854775808 : Int64))), .second] [])) t
            refine XS.iconst X9.here hx rfl (hb hby at_97) ?_
            show Steps p.tables e below (T9.setTop (mkF m 98 #[.val (.long q1), .second, .val (.long q2), .second, .val (.long q3), .second, .val (.int p4), .val (.int ((p4 &&& (2147483647 : Int32)) % (5 : Int32))), .val (.long (q1 &&& (9223372036854775807 : Int64))), .second, .val (.long (9223372036854775 : Int64)), .second, .val (.long (q1 ||| (-9223372036854775808 : Int64))), .second] [(.int (1 : Int32))])) t
            refine XS.goto X9.here hx rfl (pc0 := 98) (pc' := 102) rfl (hb hby at_98) (by decide) (by decide) ?_
            exact k
          exact doneN (t := .boolean) X9 (by simp) hx hret hlk (hb hby at_102) ⟨rfl, N9⟩ (by decide) (by decide)
        · rw [if_neg hc94_9]
          refine Done.of (T' := T9) (g' := (mkF m 102 #[.val (.long q1), .second, .val (.long q2), .second, .val (.long q3), .second, .val (.int p4), .val (.int ((p4 &&& (2147483647 : Int32)) % (5 : Int32))), .val (.long (q1 &&& (9223372036854775807 : Int64))), .second, .val (.long (9223372036854775 : Int64)), .second, .val (.long (q1 ||| (-9223372036854775808 : Int64))), .second] [(.int (0 : Int32))])) (fun t k => ?_) ?_
          · show Steps p.tables e below (T9.setTop (mkF m 94 #[.val (.long q1), .second, .val (.long q2), .second, .val (.long q3), .second, .val (.int p4), .val (.int ((p4 &&& (2147483647 : Int32)) % (5 : Int32))), .val (.long (q1 &&& (9223372036854775807 : Int64))), .second, .val (.long (9223372036854775 : Int64)), .second, .val (.long (q1 ||| (-9223372036854775808 : Int64))), .second] [(.int (lcmpW (F1_0 (q1 ||| (-9223372036854775808 : Int64)) q3) (-9223372036854775808 : Int64)))])) t
            refine XS.ifYes X9.here hx rfl (pc0 := 94) (pc' := 101) rfl (hb hby at_94) rfl (lcEq_f hc94_9).2 (by decide) (by decide) ?_
            show Steps p.tables e below (T9.setTop (mkF m 101 #[.val (.long q1), .second, .val (.long q2), .second, .val (.long q3), .second, .val (.int p4), .val (.int ((p4 &&& (2147483647 : Int32)) % (5 : Int32))), .val (.long (q1 &&& (9223372036854775807 : Int64))), .second, .val (.long (9223372036854775 : Int64)), .second, .val (.long (q1 ||| (-9223372036854775808 : Int64))), .second] [])) t
            refine XS.iconst X9.here hx rfl (hb hby at_101) ?_
            exact k
          exact doneN (t := .boolean) X9 (by simp) hx hret hlk (hb hby at_102) ⟨rfl, N9⟩ (by decide) (by decide)
      · rw [if_neg hc80_7]
        refine Done.of (T' := T7) (g' := (mkF m 102 #[.val (.long q1), .second, .val (.long q2), .second, .val (.long q3), .second, .val (.int p4), .val (.int ((p4 &&& (2147483647 : Int32)) % (5 : Int32))), .val (.long (q1 &&& (9223372036854775807 : Int64))), .second, .val (.long (9223372036854775 : Int64)), .second, .val (.long (q1 ||| (-9223372036854775808 : Int64))), .second] [(.int (0 : Int32))])) (fun t k => ?_) ?_
        · show Steps p.tables e below (T7.setTop (mkF m 80 #[.val (.long q1), .second, .val (.long q2), .second, .val (.long q3), .second, .val (.int p4), .val (.int ((p4 &&& (2147483647 : Int32)) % (5 : Int32))), .val (.long (q1 &&& (9223372036854775807 : Int64))), .second, .val (.long (9223372036854775 : Int64)), .second, .val (.long (q1 ||| (-9223372036854775808 : Int64))), .second] [(.int (lcmpW (F1_0 (q1 ||| (-9223372036854775808 : Int64)) q2) (-9223372036854775808 : Int64)))])) t
          refine XS.ifYes X7.here hx rfl (pc0 := 80) (pc' := 101) rfl (hb hby at_80) rfl (lcEq_f hc80_7).2 (by decide) (by decide) ?_
          show Steps p.tables e below (T7.setTop (mkF m 101 #[.val (.long q1), .second, .val (.long q2), .second, .val (.long q3), .second, .val (.int p4), .val (.int ((p4 &&& (2147483647 : Int32)) % (5 : Int32))), .val (.long (q1 &&& (9223372036854775807 : Int64))), .second, .val (.long (9223372036854775 : Int64)), .second, .val (.long (q1 ||| (-9223372036854775808 : Int64))), .second] [])) t
          refine XS.iconst X7.here hx rfl (hb hby at_101) ?_
          exact k
        exact doneN (t := .boolean) X7 (by simp) hx hret hlk (hb hby at_102) ⟨rfl, N7⟩ (by decide) (by decide)
    · rw [if_neg hc60_5]
      refine Done.of (T' := T0) (g' := (mkF m 106 #[.val (.long q1), .second, .val (.long q2), .second, .val (.long q3), .second, .val (.int p4), .val (.int ((p4 &&& (2147483647 : Int32)) % (5 : Int32))), .val (.long (q1 &&& (9223372036854775807 : Int64))), .second, .val (.long (9223372036854775 : Int64)), .second, .unset, .unset] [(.int (2 : Int32)), (.int ((p4 &&& (2147483647 : Int32)) % (5 : Int32)))])) (fun t k => ?_) ?_
      · show Steps p.tables e below (T0.setTop (mkF m 60 #[.val (.long q1), .second, .val (.long q2), .second, .val (.long q3), .second, .val (.int p4), .val (.int ((p4 &&& (2147483647 : Int32)) % (5 : Int32))), .val (.long (q1 &&& (9223372036854775807 : Int64))), .second, .val (.long (9223372036854775 : Int64)), .second, .unset, .unset] [(.int (1 : Int32)), (.int ((p4 &&& (2147483647 : Int32)) % (5 : Int32)))])) t
        refine XS.icmpYes X0.here hx rfl (pc0 := 60) (pc' := 103) rfl (hb hby at_60) rfl (feq hc60_5).2 (by decide) (by decide) ?_
        show Steps p.tables e below (T0.setTop (mkF m 103 #[.val (.long q1), .second, .val (.long q2), .second, .val (.long q3), .second, .val (.int p4), .val (.int ((p4 &&& (2147483647 : Int32)) % (5 : Int32))), .val (.long (q1 &&& (9223372036854775807 : Int64))), .second, .val (.long (9223372036854775 : Int64)), .second, .unset, .unset] [])) t
        refine XS.iload X0.here hx rfl (hb hby at_103) rfl ?_
        show Steps p.tables e below (T0.setTop (mkF m 105 #[.val (.long q1), .second, .val (.long q2), .second, .val (.long q3), .second, .val (.int p4), .val (.int ((p4 &&& (2147483647 : Int32)) % (5 : Int32))), .val (.long (q1 &&& (9223372036854775807 : Int64))), .second, .val (.long (9223372036854775 : Int64)), .second, .unset, .unset] [(.int ((p4 &&& (2147483647 : Int32)) % (5 : Int32)))])) t
        refine XS.iconst X0.here hx rfl (hb hby at_105) ?_
        exact k
      by_cases hc106_10 : ((p4 &&& (2147483647 : Int32)) % (5 : Int32)) = (2 : Int32)
      · rw [if_pos hc106_10]
        refine Done.of (T' := T0) (g' := (mkF m 122 #[.val (.long q1), .second, .val (.long q2), .second, .val (.long q3), .second, .val (.int p4), .val (.int ((p4 &&& (2147483647 : Int32)) % (5 : Int32))), .val (.long (q1 &&& (9223372036854775807 : Int64))), .second, .val (.long (9223372036854775 : Int64)), .second, .val (.long ((1 : Int64) + ((q1 &&& (9223372036854775807 : Int64)) - ((q1 &&& (9223372036854775807 : Int64)) / (2592000 : Int64)) * (2592000 : Int64)))), .second] [(.long q2), (.long ((1 : Int64) + ((q1 &&& (9223372036854775807 : Int64)) - ((q1 &&& (9223372036854775807 : Int64)) / (2592000 : Int64)) * (2592000 : Int64))))])) (fun t k => ?_) ?_
        · show Steps p.tables e below (T0.setTop (mkF m 106 #[.val (.long q1), .second, .val (.long q2), .second, .val (.long q3), .second, .val (.int p4), .val (.int ((p4 &&& (2147483647 : Int32)) % (5 : Int32))), .val (.long (q1 &&& (9223372036854775807 : Int64))), .second, .val (.long (9223372036854775 : Int64)), .second, .unset, .unset] [(.int (2 : Int32)), (.int ((p4 &&& (2147483647 : Int32)) % (5 : Int32)))])) t
          refine XS.icmpNo X0.here hx rfl (hb hby at_106) rfl (teq hc106_10).2 ?_
          show Steps p.tables e below (T0.setTop (mkF m 109 #[.val (.long q1), .second, .val (.long q2), .second, .val (.long q3), .second, .val (.int p4), .val (.int ((p4 &&& (2147483647 : Int32)) % (5 : Int32))), .val (.long (q1 &&& (9223372036854775807 : Int64))), .second, .val (.long (9223372036854775 : Int64)), .second, .unset, .unset] [])) t
          refine XS.lconst X0.here hx rfl (hb hby at_109) ?_
          show Steps p.tables e below (T0.setTop (mkF m 110 #[.val (.long q1), .second, .val (.long q2), .second, .val (.long q3), .second, .val (.int p4), .val (.int ((p4 &&& (2147483647 : Int32)) % (5 : Int32))), .val (.long (q1 &&& (9223372036854775807 : Int64))), .second, .val (.long (9223372036854775 : Int64)), .second, .unset, .unset] [(.long (1 : Int64))])) t
          refine XS.lload X0.here hx rfl (hb hby at_110) rfl ?_
          show Steps p.tables e below (T0.setTop (mkF m 112 #[.val (.long q1), .second, .val (.long q2), .second, .val (.long q3), .second, .val (.int p4), .val (.int ((p4 &&& (2147483647 : Int32)) % (5 : Int32))), .val (.long (q1 &&& (9223372036854775807 : Int64))), .second, .val (.long (9223372036854775 : Int64)), .second, .unset, .unset] [(.long (q1 &&& (9223372036854775807 : Int64))), (.long (1 : Int64))])) t
          refine X0.ldc2Long hx hown (mvT hZ (hw _ (List.mem_of_getElem? (i := 3) rfl))) (g := (mkF m 112 #[.val (.long q1), .second, .val (.long q2), .second, .val (.long q3), .second, .val (.int p4), .val (.int ((p4 &&& (2147483647 : Int32)) % (5 : Int32))), .val (.long (q1 &&& (9223372036854775807 : Int64))), .second, .val (.long (9223372036854775 : Int64)), .second, .unset, .unset] [(.long (q1 &&& (9223372036854775807 : Int64))), (.long (1 : Int64))])) rfl (hb hby at_112) _ ?_
          show Steps p.tables e below (T0.setTop (mkF m 115 #[.val (.long q1), .second, .val (.long q2), .second, .val (.long q3), .second, .val (.int p4), .val (.int ((p4 &&& (2147483647 : Int32)) % (5 : Int32))), .val (.long (q1 &&& (9223372036854775807 : Int64))), .second, .val (.long (9223372036854775 : Int64)), .second, .unset, .unset] [(.long (2592000 : Int64)), (.long (q1 &&& (9223372036854775807 : Int64))), (.long (1 : Int64))])) t
          refine XS.lrem X0.here hx rfl (hb hby at_115) rfl (by decide) ?_
          show Steps p.tables e below (T0.setTop (mkF m 116 #[.val (.long q1), .second, .val (.long q2), .second, .val (.long q3), .second, .val (.int p4), .val (.int ((p4 &&& (2147483647 : Int32)) % (5 : Int32))), .val (.long (q1 &&& (9223372036854775807 : Int64))), .second, .val (.long (9223372036854775 : Int64)), .second, .unset, .unset] [(.long ((q1 &&& (9223372036854775807 : Int64)) - ((q1 &&& (9223372036854775807 : Int64)) / (2592000 : Int64)) * (2592000 : Int64))), (.long (1 : Int64))])) t
          refine XS.ladd X0.here hx rfl (hb hby at_116) rfl ?_
          show Steps p.tables e below (T0.setTop (mkF m 117 #[.val (.long q1), .second, .val (.long q2), .second, .val (.long q3), .second, .val (.int p4), .val (.int ((p4 &&& (2147483647 : Int32)) % (5 : Int32))), .val (.long (q1 &&& (9223372036854775807 : Int64))), .second, .val (.long (9223372036854775 : Int64)), .second, .unset, .unset] [(.long ((1 : Int64) + ((q1 &&& (9223372036854775807 : Int64)) - ((q1 &&& (9223372036854775807 : Int64)) / (2592000 : Int64)) * (2592000 : Int64))))])) t
          refine XS.lstore X0.here hx rfl (hb hby at_117) rfl (l' := #[.val (.long q1), .second, .val (.long q2), .second, .val (.long q3), .second, .val (.int p4), .val (.int ((p4 &&& (2147483647 : Int32)) % (5 : Int32))), .val (.long (q1 &&& (9223372036854775807 : Int64))), .second, .val (.long (9223372036854775 : Int64)), .second, .val (.long ((1 : Int64) + ((q1 &&& (9223372036854775807 : Int64)) - ((q1 &&& (9223372036854775807 : Int64)) / (2592000 : Int64)) * (2592000 : Int64)))), .second]) rfl ?_
          show Steps p.tables e below (T0.setTop (mkF m 119 #[.val (.long q1), .second, .val (.long q2), .second, .val (.long q3), .second, .val (.int p4), .val (.int ((p4 &&& (2147483647 : Int32)) % (5 : Int32))), .val (.long (q1 &&& (9223372036854775807 : Int64))), .second, .val (.long (9223372036854775 : Int64)), .second, .val (.long ((1 : Int64) + ((q1 &&& (9223372036854775807 : Int64)) - ((q1 &&& (9223372036854775807 : Int64)) / (2592000 : Int64)) * (2592000 : Int64)))), .second] [])) t
          refine XS.lload X0.here hx rfl (hb hby at_119) rfl ?_
          show Steps p.tables e below (T0.setTop (mkF m 121 #[.val (.long q1), .second, .val (.long q2), .second, .val (.long q3), .second, .val (.int p4), .val (.int ((p4 &&& (2147483647 : Int32)) % (5 : Int32))), .val (.long (q1 &&& (9223372036854775807 : Int64))), .second, .val (.long (9223372036854775 : Int64)), .second, .val (.long ((1 : Int64) + ((q1 &&& (9223372036854775807 : Int64)) - ((q1 &&& (9223372036854775807 : Int64)) / (2592000 : Int64)) * (2592000 : Int64)))), .second] [(.long ((1 : Int64) + ((q1 &&& (9223372036854775807 : Int64)) - ((q1 &&& (9223372036854775807 : Int64)) / (2592000 : Int64)) * (2592000 : Int64))))])) t
          refine XS.lloadN X0.here hx rfl (hb hby at_121) rfl ?_
          exact k
        obtain ⟨_, _, ⟨T12, L12, k12, n12⟩, -, X12, ⟨Lc12, hQ12, l12, y12, z12⟩, st12⟩ := Jvm.LawKit.callS X0 hx (y := (⟨"com/example/noreply/noreply/engine/Expiration", "deadlineMillis", "(JJ)J"⟩ : MethodName)) hown (mvT hZ (hw _ (List.mem_of_getElem? (i := 4) rfl))) (mvT hZ (hw _ (List.mem_of_getElem? (i := 5) rfl))) (mvT hZ (hw _ (List.mem_of_getElem? (i := 6) rfl))) (mvT hZ (hw _ (List.mem_of_getElem? (i := 7) rfl))) (by decide) (backOf (W := 0) (rm1 l Z a0 hw [] ((1 : Int64) + ((q1 &&& (9223372036854775807 : Int64)) - ((q1 &&& (9223372036854775807 : Int64)) / (2592000 : Int64)) * (2592000 : Int64))) q2 h0 n0) hZ (hw _ (List.mem_of_getElem? (i := 7) rfl)) (hw _ (List.mem_of_getElem? (i := 6) rfl)) (by decide) (by decide)) (g := (mkF m 122 #[.val (.long q1), .second, .val (.long q2), .second, .val (.long q3), .second, .val (.int p4), .val (.int ((p4 &&& (2147483647 : Int32)) % (5 : Int32))), .val (.long (q1 &&& (9223372036854775807 : Int64))), .second, .val (.long (9223372036854775 : Int64)), .second, .val (.long ((1 : Int64) + ((q1 &&& (9223372036854775807 : Int64)) - ((q1 &&& (9223372036854775807 : Int64)) / (2592000 : Int64)) * (2592000 : Int64)))), .second] [(.long q2), (.long ((1 : Int64) + ((q1 &&& (9223372036854775807 : Int64)) - ((q1 &&& (9223372036854775807 : Int64)) / (2592000 : Int64)) * (2592000 : Int64))))])) rfl (by rw [hml]; rfl) (argsL := [(.long ((1 : Int64) + ((q1 &&& (9223372036854775807 : Int64)) - ((q1 &&& (9223372036854775807 : Int64)) / (2592000 : Int64)) * (2592000 : Int64)))), (.long q2)]) (rest := []) (lenOf pd_0 rfl) rfl (by show 2 * 0 + _ ≤ _; exact Nat.le_of_eq rfl) (hb hby at_122) (fun _ _ => ⟨rfl, e0, (by decide : 0 + 0 ≤ _), (by decide : 0 + 0 ≤ _)⟩)
        dsimp only [Pt.U, Pt.locs, Pt.cells, Pt.slots] at X12 l12 y12 z12 st12 hQ12
        subst l12 y12 z12
        obtain ⟨rfl, N12q, e12⟩ := hQ12
        have N12 := Fr.app N0 N12q
        replace X12 : Stand p l e room_1 s m args below meth c T12 _ 0 0 := X12
        refine Done.of (g' := (mkF m 125 #[.val (.long q1), .second, .val (.long q2), .second, .val (.long q3), .second, .val (.int p4), .val (.int ((p4 &&& (2147483647 : Int32)) % (5 : Int32))), .val (.long (q1 &&& (9223372036854775807 : Int64))), .second, .val (.long (9223372036854775 : Int64)), .second, .val (.long ((1 : Int64) + ((q1 &&& (9223372036854775807 : Int64)) - ((q1 &&& (9223372036854775807 : Int64)) / (2592000 : Int64)) * (2592000 : Int64)))), .second] [(.long (F1_0 ((1 : Int64) + ((q1 &&& (9223372036854775807 : Int64)) - ((q1 &&& (9223372036854775807 : Int64)) / (2592000 : Int64)) * (2592000 : Int64))) q2))])) st12 ?_
        refine Done.of (T' := T12) (g' := (mkF m 134 #[.val (.long q1), .second, .val (.long q2), .second, .val (.long q3), .second, .val (.int p4), .val (.int ((p4 &&& (2147483647 : Int32)) % (5 : Int32))), .val (.long (q1 &&& (9223372036854775807 : Int64))), .second, .val (.long (9223372036854775 : Int64)), .second, .val (.long ((1 : Int64) + ((q1 &&& (9223372036854775807 : Int64)) - ((q1 &&& (9223372036854775807 : Int64)) / (2592000 : Int64)) * (2592000 : Int64)))), .second] [(.int (lcmpW (F1_0 ((1 : Int64) + ((q1 &&& (9223372036854775807 : Int64)) - ((q1 &&& (9223372036854775807 : Int64)) / (2592000 : Int64)) * (2592000 : Int64))) q2) (q2 + (((1 : Int64) + ((q1 &&& (9223372036854775807 : Int64)) - ((q1 &&& (9223372036854775807 : Int64)) / (2592000 : Int64)) * (2592000 : Int64))) * (1000 : Int64)))))])) (fun t k => ?_) ?_
        · show Steps p.tables e below (T12.setTop (mkF m 125 #[.val (.long q1), .second, .val (.long q2), .second, .val (.long q3), .second, .val (.int p4), .val (.int ((p4 &&& (2147483647 : Int32)) % (5 : Int32))), .val (.long (q1 &&& (9223372036854775807 : Int64))), .second, .val (.long (9223372036854775 : Int64)), .second, .val (.long ((1 : Int64) + ((q1 &&& (9223372036854775807 : Int64)) - ((q1 &&& (9223372036854775807 : Int64)) / (2592000 : Int64)) * (2592000 : Int64)))), .second] [(.long (F1_0 ((1 : Int64) + ((q1 &&& (9223372036854775807 : Int64)) - ((q1 &&& (9223372036854775807 : Int64)) / (2592000 : Int64)) * (2592000 : Int64))) q2))])) t
          refine XS.lloadN X12.here hx rfl (hb hby at_125) rfl ?_
          show Steps p.tables e below (T12.setTop (mkF m 126 #[.val (.long q1), .second, .val (.long q2), .second, .val (.long q3), .second, .val (.int p4), .val (.int ((p4 &&& (2147483647 : Int32)) % (5 : Int32))), .val (.long (q1 &&& (9223372036854775807 : Int64))), .second, .val (.long (9223372036854775 : Int64)), .second, .val (.long ((1 : Int64) + ((q1 &&& (9223372036854775807 : Int64)) - ((q1 &&& (9223372036854775807 : Int64)) / (2592000 : Int64)) * (2592000 : Int64)))), .second] [(.long q2), (.long (F1_0 ((1 : Int64) + ((q1 &&& (9223372036854775807 : Int64)) - ((q1 &&& (9223372036854775807 : Int64)) / (2592000 : Int64)) * (2592000 : Int64))) q2))])) t
          refine XS.lload X12.here hx rfl (hb hby at_126) rfl ?_
          show Steps p.tables e below (T12.setTop (mkF m 128 #[.val (.long q1), .second, .val (.long q2), .second, .val (.long q3), .second, .val (.int p4), .val (.int ((p4 &&& (2147483647 : Int32)) % (5 : Int32))), .val (.long (q1 &&& (9223372036854775807 : Int64))), .second, .val (.long (9223372036854775 : Int64)), .second, .val (.long ((1 : Int64) + ((q1 &&& (9223372036854775807 : Int64)) - ((q1 &&& (9223372036854775807 : Int64)) / (2592000 : Int64)) * (2592000 : Int64)))), .second] [(.long ((1 : Int64) + ((q1 &&& (9223372036854775807 : Int64)) - ((q1 &&& (9223372036854775807 : Int64)) / (2592000 : Int64)) * (2592000 : Int64)))), (.long q2), (.long (F1_0 ((1 : Int64) + ((q1 &&& (9223372036854775807 : Int64)) - ((q1 &&& (9223372036854775807 : Int64)) / (2592000 : Int64)) * (2592000 : Int64))) q2))])) t
          refine X12.ldc2Long hx hown (mvT hZ (hw _ (List.mem_of_getElem? (i := 10) rfl))) (g := (mkF m 128 #[.val (.long q1), .second, .val (.long q2), .second, .val (.long q3), .second, .val (.int p4), .val (.int ((p4 &&& (2147483647 : Int32)) % (5 : Int32))), .val (.long (q1 &&& (9223372036854775807 : Int64))), .second, .val (.long (9223372036854775 : Int64)), .second, .val (.long ((1 : Int64) + ((q1 &&& (9223372036854775807 : Int64)) - ((q1 &&& (9223372036854775807 : Int64)) / (2592000 : Int64)) * (2592000 : Int64)))), .second] [(.long ((1 : Int64) + ((q1 &&& (9223372036854775807 : Int64)) - ((q1 &&& (9223372036854775807 : Int64)) / (2592000 : Int64)) * (2592000 : Int64)))), (.long q2), (.long (F1_0 ((1 : Int64) + ((q1 &&& (9223372036854775807 : Int64)) - ((q1 &&& (9223372036854775807 : Int64)) / (2592000 : Int64)) * (2592000 : Int64))) q2))])) rfl (hb hby at_128) _ ?_
          show Steps p.tables e below (T12.setTop (mkF m 131 #[.val (.long q1), .second, .val (.long q2), .second, .val (.long q3), .second, .val (.int p4), .val (.int ((p4 &&& (2147483647 : Int32)) % (5 : Int32))), .val (.long (q1 &&& (9223372036854775807 : Int64))), .second, .val (.long (9223372036854775 : Int64)), .second, .val (.long ((1 : Int64) + ((q1 &&& (9223372036854775807 : Int64)) - ((q1 &&& (9223372036854775807 : Int64)) / (2592000 : Int64)) * (2592000 : Int64)))), .second] [(.long (1000 : Int64)), (.long ((1 : Int64) + ((q1 &&& (9223372036854775807 : Int64)) - ((q1 &&& (9223372036854775807 : Int64)) / (2592000 : Int64)) * (2592000 : Int64)))), (.long q2), (.long (F1_0 ((1 : Int64) + ((q1 &&& (9223372036854775807 : Int64)) - ((q1 &&& (9223372036854775807 : Int64)) / (2592000 : Int64)) * (2592000 : Int64))) q2))])) t
          refine XS.lmul X12.here hx rfl (hb hby at_131) rfl ?_
          show Steps p.tables e below (T12.setTop (mkF m 132 #[.val (.long q1), .second, .val (.long q2), .second, .val (.long q3), .second, .val (.int p4), .val (.int ((p4 &&& (2147483647 : Int32)) % (5 : Int32))), .val (.long (q1 &&& (9223372036854775807 : Int64))), .second, .val (.long (9223372036854775 : Int64)), .second, .val (.long ((1 : Int64) + ((q1 &&& (9223372036854775807 : Int64)) - ((q1 &&& (9223372036854775807 : Int64)) / (2592000 : Int64)) * (2592000 : Int64)))), .second] [(.long (((1 : Int64) + ((q1 &&& (9223372036854775807 : Int64)) - ((q1 &&& (9223372036854775807 : Int64)) / (2592000 : Int64)) * (2592000 : Int64))) * (1000 : Int64))), (.long q2), (.long (F1_0 ((1 : Int64) + ((q1 &&& (9223372036854775807 : Int64)) - ((q1 &&& (9223372036854775807 : Int64)) / (2592000 : Int64)) * (2592000 : Int64))) q2))])) t
          refine XS.ladd X12.here hx rfl (hb hby at_132) rfl ?_
          show Steps p.tables e below (T12.setTop (mkF m 133 #[.val (.long q1), .second, .val (.long q2), .second, .val (.long q3), .second, .val (.int p4), .val (.int ((p4 &&& (2147483647 : Int32)) % (5 : Int32))), .val (.long (q1 &&& (9223372036854775807 : Int64))), .second, .val (.long (9223372036854775 : Int64)), .second, .val (.long ((1 : Int64) + ((q1 &&& (9223372036854775807 : Int64)) - ((q1 &&& (9223372036854775807 : Int64)) / (2592000 : Int64)) * (2592000 : Int64)))), .second] [(.long (q2 + (((1 : Int64) + ((q1 &&& (9223372036854775807 : Int64)) - ((q1 &&& (9223372036854775807 : Int64)) / (2592000 : Int64)) * (2592000 : Int64))) * (1000 : Int64)))), (.long (F1_0 ((1 : Int64) + ((q1 &&& (9223372036854775807 : Int64)) - ((q1 &&& (9223372036854775807 : Int64)) / (2592000 : Int64)) * (2592000 : Int64))) q2))])) t
          refine XS.lcmp X12.here hx rfl (hb hby at_133) rfl ?_
          exact k
        by_cases hc134_12 : (F1_0 ((1 : Int64) + ((q1 &&& (9223372036854775807 : Int64)) - ((q1 &&& (9223372036854775807 : Int64)) / (2592000 : Int64)) * (2592000 : Int64))) q2) = (q2 + (((1 : Int64) + ((q1 &&& (9223372036854775807 : Int64)) - ((q1 &&& (9223372036854775807 : Int64)) / (2592000 : Int64)) * (2592000 : Int64))) * (1000 : Int64)))
        · rw [if_pos hc134_12]
          refine Done.of (T' := T12) (g' := (mkF m 141 #[.val (.long q1), .second, .val (.long q2), .second, .val (.long q3), .second, .val (.int p4), .val (.int ((p4 &&& (2147483647 : Int32)) % (5 : Int32))), .val (.long (q1 &&& (9223372036854775807 : Int64))), .second, .val (.long (9223372036854775 : Int64)), .second, .val (.long ((1 : Int64) + ((q1 &&& (9223372036854775807 : Int64)) - ((q1 &&& (9223372036854775807 : Int64)) / (2592000 : Int64)) * (2592000 : Int64)))), .second] [(.long q3), (.long ((1 : Int64) + ((q1 &&& (9223372036854775807 : Int64)) - ((q1 &&& (9223372036854775807 : Int64)) / (2592000 : Int64)) * (2592000 : Int64))))])) (fun t k => ?_) ?_
          · show Steps p.tables e below (T12.setTop (mkF m 134 #[.val (.long q1), .second, .val (.long q2), .second, .val (.long q3), .second, .val (.int p4), .val (.int ((p4 &&& (2147483647 : Int32)) % (5 : Int32))), .val (.long (q1 &&& (9223372036854775807 : Int64))), .second, .val (.long (9223372036854775 : Int64)), .second, .val (.long ((1 : Int64) + ((q1 &&& (9223372036854775807 : Int64)) - ((q1 &&& (9223372036854775807 : Int64)) / (2592000 : Int64)) * (2592000 : Int64)))), .second] [(.int (lcmpW (F1_0 ((1 : Int64) + ((q1 &&& (9223372036854775807 : Int64)) - ((q1 &&& (9223372036854775807 : Int64)) / (2592000 : Int64)) * (2592000 : Int64))) q2) (q2 + (((1 : Int64) + ((q1 &&& (9223372036854775807 : Int64)) - ((q1 &&& (9223372036854775807 : Int64)) / (2592000 : Int64)) * (2592000 : Int64))) * (1000 : Int64)))))])) t
            refine XS.ifNo X12.here hx rfl (hb hby at_134) rfl (lcEq_t hc134_12).2 ?_
            show Steps p.tables e below (T12.setTop (mkF m 137 #[.val (.long q1), .second, .val (.long q2), .second, .val (.long q3), .second, .val (.int p4), .val (.int ((p4 &&& (2147483647 : Int32)) % (5 : Int32))), .val (.long (q1 &&& (9223372036854775807 : Int64))), .second, .val (.long (9223372036854775 : Int64)), .second, .val (.long ((1 : Int64) + ((q1 &&& (9223372036854775807 : Int64)) - ((q1 &&& (9223372036854775807 : Int64)) / (2592000 : Int64)) * (2592000 : Int64)))), .second] [])) t
            refine XS.lload X12.here hx rfl (hb hby at_137) rfl ?_
            show Steps p.tables e below (T12.setTop (mkF m 139 #[.val (.long q1), .second, .val (.long q2), .second, .val (.long q3), .second, .val (.int p4), .val (.int ((p4 &&& (2147483647 : Int32)) % (5 : Int32))), .val (.long (q1 &&& (9223372036854775807 : Int64))), .second, .val (.long (9223372036854775 : Int64)), .second, .val (.long ((1 : Int64) + ((q1 &&& (9223372036854775807 : Int64)) - ((q1 &&& (9223372036854775807 : Int64)) / (2592000 : Int64)) * (2592000 : Int64)))), .second] [(.long ((1 : Int64) + ((q1 &&& (9223372036854775807 : Int64)) - ((q1 &&& (9223372036854775807 : Int64)) / (2592000 : Int64)) * (2592000 : Int64))))])) t
            refine XS.lload X12.here hx rfl (hb hby at_139) rfl ?_
            exact k
          obtain ⟨_, _, ⟨T14, L14, k14, n14⟩, -, X14, ⟨Lc14, hQ14, l14, y14, z14⟩, st14⟩ := Jvm.LawKit.callS X12 hx (y := (⟨"com/example/noreply/noreply/engine/Expiration", "deadlineMillis", "(JJ)J"⟩ : MethodName)) hown (mvT hZ (hw _ (List.mem_of_getElem? (i := 4) rfl))) (mvT hZ (hw _ (List.mem_of_getElem? (i := 5) rfl))) (mvT hZ (hw _ (List.mem_of_getElem? (i := 6) rfl))) (mvT hZ (hw _ (List.mem_of_getElem? (i := 7) rfl))) (by decide) (backOf (W := 0) (rm1 l Z a0 hw [] ((1 : Int64) + ((q1 &&& (9223372036854775807 : Int64)) - ((q1 &&& (9223372036854775807 : Int64)) / (2592000 : Int64)) * (2592000 : Int64))) q3 h0 n0) hZ (hw _ (List.mem_of_getElem? (i := 7) rfl)) (hw _ (List.mem_of_getElem? (i := 6) rfl)) (by decide) (by decide)) (g := (mkF m 141 #[.val (.long q1), .second, .val (.long q2), .second, .val (.long q3), .second, .val (.int p4), .val (.int ((p4 &&& (2147483647 : Int32)) % (5 : Int32))), .val (.long (q1 &&& (9223372036854775807 : Int64))), .second, .val (.long (9223372036854775 : Int64)), .second, .val (.long ((1 : Int64) + ((q1 &&& (9223372036854775807 : Int64)) - ((q1 &&& (9223372036854775807 : Int64)) / (2592000 : Int64)) * (2592000 : Int64)))), .second] [(.long q3), (.long ((1 : Int64) + ((q1 &&& (9223372036854775807 : Int64)) - ((q1 &&& (9223372036854775807 : Int64)) / (2592000 : Int64)) * (2592000 : Int64))))])) rfl (by rw [hml]; rfl) (argsL := [(.long ((1 : Int64) + ((q1 &&& (9223372036854775807 : Int64)) - ((q1 &&& (9223372036854775807 : Int64)) / (2592000 : Int64)) * (2592000 : Int64)))), (.long q3)]) (rest := []) (lenOf pd_0 rfl) rfl (by show 2 * 0 + _ ≤ _; exact Nat.le_of_eq rfl) (hb hby at_141) (fun _ _ => ⟨rfl, e12, (by decide : 0 + 0 ≤ _), (by decide : 0 + 0 ≤ _)⟩)
          dsimp only [Pt.U, Pt.locs, Pt.cells, Pt.slots] at X14 l14 y14 z14 st14 hQ14
          subst l14 y14 z14
          obtain ⟨rfl, N14q, e14⟩ := hQ14
          have N14 := Fr.app N12 N14q
          replace X14 : Stand p l e room_1 s m args below meth c T14 _ 0 0 := X14
          refine Done.of (g' := (mkF m 144 #[.val (.long q1), .second, .val (.long q2), .second, .val (.long q3), .second, .val (.int p4), .val (.int ((p4 &&& (2147483647 : Int32)) % (5 : Int32))), .val (.long (q1 &&& (9223372036854775807 : Int64))), .second, .val (.long (9223372036854775 : Int64)), .second, .val (.long ((1 : Int64) + ((q1 &&& (9223372036854775807 : Int64)) - ((q1 &&& (9223372036854775807 : Int64)) / (2592000 : Int64)) * (2592000 : Int64)))), .second] [(.long (F1_0 ((1 : Int64) + ((q1 &&& (9223372036854775807 : Int64)) - ((q1 &&& (9223372036854775807 : Int64)) / (2592000 : Int64)) * (2592000 : Int64))) q3))])) st14 ?_
          refine Done.of (T' := T14) (g' := (mkF m 154 #[.val (.long q1), .second, .val (.long q2), .second, .val (.long q3), .second, .val (.int p4), .val (.int ((p4 &&& (2147483647 : Int32)) % (5 : Int32))), .val (.long (q1 &&& (9223372036854775807 : Int64))), .second, .val (.long (9223372036854775 : Int64)), .second, .val (.long ((1 : Int64) + ((q1 &&& (9223372036854775807 : Int64)) - ((q1 &&& (9223372036854775807 : Int64)) / (2592000 : Int64)) * (2592000 : Int64)))), .second] [(.int (lcmpW ((F1_0 ((1 : Int64) + ((q1 &&& (9223372036854775807 : Int64)) - ((q1 &&& (9223372036854775807 : Int64)) / (2592000 : Int64)) * (2592000 : Int64))) q3) - q3) (((1 : Int64) + ((q1 &&& (9223372036854775807 : Int64)) - ((q1 &&& (9223372036854775807 : Int64)) / (2592000 : Int64)) * (2592000 : Int64))) * (1000 : Int64))))])) (fun t k => ?_) ?_
          · show Steps p.tables e below (T14.setTop (mkF m 144 #[.val (.long q1), .second, .val (.long q2), .second, .val (.long q3), .second, .val (.int p4), .val (.int ((p4 &&& (2147483647 : Int32)) % (5 : Int32))), .val (.long (q1 &&& (9223372036854775807 : Int64))), .second, .val (.long (9223372036854775 : Int64)), .second, .val (.long ((1 : Int64) + ((q1 &&& (9223372036854775807 : Int64)) - ((q1 &&& (9223372036854775807 : Int64)) / (2592000 : Int64)) * (2592000 : Int64)))), .second] [(.long (F1_0 ((1 : Int64) + ((q1 &&& (9223372036854775807 : Int64)) - ((q1 &&& (9223372036854775807 : Int64)) / (2592000 : Int64)) * (2592000 : Int64))) q3))])) t
            refine XS.lload X14.here hx rfl (hb hby at_144) rfl ?_
            show Steps p.tables e below (T14.setTop (mkF m 146 #[.val (.long q1), .second, .val (.long q2), .second, .val (.long q3), .second, .val (.int p4), .val (.int ((p4 &&& (2147483647 : Int32)) % (5 : Int32))), .val (.long (q1 &&& (9223372036854775807 : Int64))), .second, .val (.long (9223372036854775 : Int64)), .second, .val (.long ((1 : Int64) + ((q1 &&& (9223372036854775807 : Int64)) - ((q1 &&& (9223372036854775807 : Int64)) / (2592000 : Int64)) * (2592000 : Int64)))), .second] [(.long q3), (.long (F1_0 ((1 : Int64) + ((q1 &&& (9223372036854775807 : Int64)) - ((q1 &&& (9223372036854775807 : Int64)) / (2592000 : Int64)) * (2592000 : Int64))) q3))])) t
            refine XS.lsub X14.here hx rfl (hb hby at_146) rfl ?_
            show Steps p.tables e below (T14.setTop (mkF m 147 #[.val (.long q1), .second, .val (.long q2), .second, .val (.long q3), .second, .val (.int p4), .val (.int ((p4 &&& (2147483647 : Int32)) % (5 : Int32))), .val (.long (q1 &&& (9223372036854775807 : Int64))), .second, .val (.long (9223372036854775 : Int64)), .second, .val (.long ((1 : Int64) + ((q1 &&& (9223372036854775807 : Int64)) - ((q1 &&& (9223372036854775807 : Int64)) / (2592000 : Int64)) * (2592000 : Int64)))), .second] [(.long ((F1_0 ((1 : Int64) + ((q1 &&& (9223372036854775807 : Int64)) - ((q1 &&& (9223372036854775807 : Int64)) / (2592000 : Int64)) * (2592000 : Int64))) q3) - q3))])) t
            refine XS.lload X14.here hx rfl (hb hby at_147) rfl ?_
            show Steps p.tables e below (T14.setTop (mkF m 149 #[.val (.long q1), .second, .val (.long q2), .second, .val (.long q3), .second, .val (.int p4), .val (.int ((p4 &&& (2147483647 : Int32)) % (5 : Int32))), .val (.long (q1 &&& (9223372036854775807 : Int64))), .second, .val (.long (9223372036854775 : Int64)), .second, .val (.long ((1 : Int64) + ((q1 &&& (9223372036854775807 : Int64)) - ((q1 &&& (9223372036854775807 : Int64)) / (2592000 : Int64)) * (2592000 : Int64)))), .second] [(.long ((1 : Int64) + ((q1 &&& (9223372036854775807 : Int64)) - ((q1 &&& (9223372036854775807 : Int64)) / (2592000 : Int64)) * (2592000 : Int64)))), (.long ((F1_0 ((1 : Int64) + ((q1 &&& (9223372036854775807 : Int64)) - ((q1 &&& (9223372036854775807 : Int64)) / (2592000 : Int64)) * (2592000 : Int64))) q3) - q3))])) t
            refine X14.ldc2Long hx hown (mvT hZ (hw _ (List.mem_of_getElem? (i := 10) rfl))) (g := (mkF m 149 #[.val (.long q1), .second, .val (.long q2), .second, .val (.long q3), .second, .val (.int p4), .val (.int ((p4 &&& (2147483647 : Int32)) % (5 : Int32))), .val (.long (q1 &&& (9223372036854775807 : Int64))), .second, .val (.long (9223372036854775 : Int64)), .second, .val (.long ((1 : Int64) + ((q1 &&& (9223372036854775807 : Int64)) - ((q1 &&& (9223372036854775807 : Int64)) / (2592000 : Int64)) * (2592000 : Int64)))), .second] [(.long ((1 : Int64) + ((q1 &&& (9223372036854775807 : Int64)) - ((q1 &&& (9223372036854775807 : Int64)) / (2592000 : Int64)) * (2592000 : Int64)))), (.long ((F1_0 ((1 : Int64) + ((q1 &&& (9223372036854775807 : Int64)) - ((q1 &&& (9223372036854775807 : Int64)) / (2592000 : Int64)) * (2592000 : Int64))) q3) - q3))])) rfl (hb hby at_149) _ ?_
            show Steps p.tables e below (T14.setTop (mkF m 152 #[.val (.long q1), .second, .val (.long q2), .second, .val (.long q3), .second, .val (.int p4), .val (.int ((p4 &&& (2147483647 : Int32)) % (5 : Int32))), .val (.long (q1 &&& (9223372036854775807 : Int64))), .second, .val (.long (9223372036854775 : Int64)), .second, .val (.long ((1 : Int64) + ((q1 &&& (9223372036854775807 : Int64)) - ((q1 &&& (9223372036854775807 : Int64)) / (2592000 : Int64)) * (2592000 : Int64)))), .second] [(.long (1000 : Int64)), (.long ((1 : Int64) + ((q1 &&& (9223372036854775807 : Int64)) - ((q1 &&& (9223372036854775807 : Int64)) / (2592000 : Int64)) * (2592000 : Int64)))), (.long ((F1_0 ((1 : Int64) + ((q1 &&& (9223372036854775807 : Int64)) - ((q1 &&& (9223372036854775807 : Int64)) / (2592000 : Int64)) * (2592000 : Int64))) q3) - q3))])) t
            refine XS.lmul X14.here hx rfl (hb hby at_152) rfl ?_
            show Steps p.tables e below (T14.setTop (mkF m 153 #[.val (.long q1), .second, .val (.long q2), .second, .val (.long q3), .second, .val (.int p4), .val (.int ((p4 &&& (2147483647 : Int32)) % (5 : Int32))), .val (.long (q1 &&& (9223372036854775807 : Int64))), .second, .val (.long (9223372036854775 : Int64)), .second, .val (.long ((1 : Int64) + ((q1 &&& (9223372036854775807 : Int64)) - ((q1 &&& (9223372036854775807 : Int64)) / (2592000 : Int64)) * (2592000 : Int64)))), .second] [(.long (((1 : Int64) + ((q1 &&& (9223372036854775807 : Int64)) - ((q1 &&& (9223372036854775807 : Int64)) / (2592000 : Int64)) * (2592000 : Int64))) * (1000 : Int64))), (.long ((F1_0 ((1 : Int64) + ((q1 &&& (9223372036854775807 : Int64)) - ((q1 &&& (9223372036854775807 : Int64)) / (2592000 : Int64)) * (2592000 : Int64))) q3) - q3))])) t
            refine XS.lcmp X14.here hx rfl (hb hby at_153) rfl ?_
            exact k
          by_cases hc154_14 : ((F1_0 ((1 : Int64) + ((q1 &&& (9223372036854775807 : Int64)) - ((q1 &&& (9223372036854775807 : Int64)) / (2592000 : Int64)) * (2592000 : Int64))) q3) - q3) = (((1 : Int64) + ((q1 &&& (9223372036854775807 : Int64)) - ((q1 &&& (9223372036854775807 : Int64)) / (2592000 : Int64)) * (2592000 : Int64))) * (1000 : Int64))
          · rw [if_pos hc154_14]
            refine Done.of (T' := T14) (g' := (mkF m 162 #[.val (.long q1), .second, .val (.long q2), .second, .val (.long q3), .second, .val (.int p4), .val (.int ((p4 &&& (2147483647 : Int32)) % (5 : Int32))), .val (.long (q1 &&& (9223372036854775807 : Int64))), .second, .val (.long (9223372036854775 : Int64)), .second, .val (.long ((1 : Int64) + ((q1 &&& (9223372036854775807 : Int64)) - ((q1 &&& (9223372036854775807 : Int64)) / (2592000 : Int64)) * (2592000 : Int64)))), .second] [(.int (1 : Int32))])) (fun t k => ?_) ?_
            · show Steps p.tables e below (T14.setTop (mkF m 154 #[.val (.long q1), .second, .val (.long q2), .second, .val (.long q3), .second, .val (.int p4), .val (.int ((p4 &&& (2147483647 : Int32)) % (5 : Int32))), .val (.long (q1 &&& (9223372036854775807 : Int64))), .second, .val (.long (9223372036854775 : Int64)), .second, .val (.long ((1 : Int64) + ((q1 &&& (9223372036854775807 : Int64)) - ((q1 &&& (9223372036854775807 : Int64)) / (2592000 : Int64)) * (2592000 : Int64)))), .second] [(.int (lcmpW ((F1_0 ((1 : Int64) + ((q1 &&& (9223372036854775807 : Int64)) - ((q1 &&& (9223372036854775807 : Int64)) / (2592000 : Int64)) * (2592000 : Int64))) q3) - q3) (((1 : Int64) + ((q1 &&& (9223372036854775807 : Int64)) - ((q1 &&& (9223372036854775807 : Int64)) / (2592000 : Int64)) * (2592000 : Int64))) * (1000 : Int64))))])) t
              refine XS.ifNo X14.here hx rfl (hb hby at_154) rfl (lcEq_t hc154_14).2 ?_
              show Steps p.tables e below (T14.setTop (mkF m 157 #[.val (.long q1), .second, .val (.long q2), .second, .val (.long q3), .second, .val (.int p4), .val (.int ((p4 &&& (2147483647 : Int32)) % (5 : Int32))), .val (.long (q1 &&& (9223372036854775807 : Int64))), .second, .val (.long (9223372036854775 : Int64)), .second, .val (.long ((1 : Int64) + ((q1 &&& (9223372036854775807 : Int64)) - ((q1 &&& (9223372036854775807 : Int64)) / (2592000 : Int64)) * (2592000 : Int64)))), .second] [])) t
              refine XS.iconst X14.here hx rfl (hb hby at_157) ?_
              show Steps p.tables e below (T14.setTop (mkF m 158 #[.val (.long q1), .second, .val (.long q2), .second, .val (.long q3), .second, .val (.int p4), .val (.int ((p4 &&& (2147483647 : Int32)) % (5 : Int32))), .val (.long (q1 &&& (9223372036854775807 : Int64))), .second, .val (.long (9223372036854775 : Int64)), .second, .val (.long ((1 : Int64) + ((q1 &&& (9223372036854775807 : Int64)) - ((q1 &&& (9223372036854775807 : Int64)) / (2592000 : Int64)) * (2592000 : Int64)))), .second] [(.int (1 : Int32))])) t
              refine XS.goto X14.here hx rfl (pc0 := 158) (pc' := 162) rfl (hb hby at_158) (by decide) (by decide) ?_
              exact k
            exact doneN (t := .boolean) X14 (by simp) hx hret hlk (hb hby at_162) ⟨rfl, N14⟩ (by decide) (by decide)
          · rw [if_neg hc154_14]
            refine Done.of (T' := T14) (g' := (mkF m 162 #[.val (.long q1), .second, .val (.long q2), .second, .val (.long q3), .second, .val (.int p4), .val (.int ((p4 &&& (2147483647 : Int32)) % (5 : Int32))), .val (.long (q1 &&& (9223372036854775807 : Int64))), .second, .val (.long (9223372036854775 : Int64)), .second, .val (.long ((1 : Int64) + ((q1 &&& (9223372036854775807 : Int64)) - ((q1 &&& (9223372036854775807 : Int64)) / (2592000 : Int64)) * (2592000 : Int64)))), .second] [(.int (0 : Int32))])) (fun t k => ?_) ?_
            · show Steps p.tables e below (T14.setTop (mkF m 154 #[.val (.long q1), .second, .val (.long q2), .second, .val (.long q3), .second, .val (.int p4), .val (.int ((p4 &&& (2147483647 : Int32)) % (5 : Int32))), .val (.long (q1 &&& (9223372036854775807 : Int64))), .second, .val (.long (9223372036854775 : Int64)), .second, .val (.long ((1 : Int64) + ((q1 &&& (9223372036854775807 : Int64)) - ((q1 &&& (9223372036854775807 : Int64)) / (2592000 : Int64)) * (2592000 : Int64)))), .second] [(.int (lcmpW ((F1_0 ((1 : Int64) + ((q1 &&& (9223372036854775807 : Int64)) - ((q1 &&& (9223372036854775807 : Int64)) / (2592000 : Int64)) * (2592000 : Int64))) q3) - q3) (((1 : Int64) + ((q1 &&& (9223372036854775807 : Int64)) - ((q1 &&& (9223372036854775807 : Int64)) / (2592000 : Int64)) * (2592000 : Int64))) * (1000 : Int64))))])) t
              refine XS.ifYes X14.here hx rfl (pc0 := 154) (pc' := 161) rfl (hb hby at_154) rfl (lcEq_f hc154_14).2 (by decide) (by decide) ?_
              show Steps p.tables e below (T14.setTop (mkF m 161 #[.val (.long q1), .second, .val (.long q2), .second, .val (.long q3), .second, .val (.int p4), .val (.int ((p4 &&& (2147483647 : Int32)) % (5 : Int32))), .val (.long (q1 &&& (9223372036854775807 : Int64))), .second, .val (.long (9223372036854775 : Int64)), .second, .val (.long ((1 : Int64) + ((q1 &&& (9223372036854775807 : Int64)) - ((q1 &&& (9223372036854775807 : Int64)) / (2592000 : Int64)) * (2592000 : Int64)))), .second] [])) t
              refine XS.iconst X14.here hx rfl (hb hby at_161) ?_
              exact k
            exact doneN (t := .boolean) X14 (by simp) hx hret hlk (hb hby at_162) ⟨rfl, N14⟩ (by decide) (by decide)
        · rw [if_neg hc134_12]
          refine Done.of (T' := T12) (g' := (mkF m 162 #[.val (.long q1), .second, .val (.long q2), .second, .val (.long q3), .second, .val (.int p4), .val (.int ((p4 &&& (2147483647 : Int32)) % (5 : Int32))), .val (.long (q1 &&& (9223372036854775807 : Int64))), .second, .val (.long (9223372036854775 : Int64)), .second, .val (.long ((1 : Int64) + ((q1 &&& (9223372036854775807 : Int64)) - ((q1 &&& (9223372036854775807 : Int64)) / (2592000 : Int64)) * (2592000 : Int64)))), .second] [(.int (0 : Int32))])) (fun t k => ?_) ?_
          · show Steps p.tables e below (T12.setTop (mkF m 134 #[.val (.long q1), .second, .val (.long q2), .second, .val (.long q3), .second, .val (.int p4), .val (.int ((p4 &&& (2147483647 : Int32)) % (5 : Int32))), .val (.long (q1 &&& (9223372036854775807 : Int64))), .second, .val (.long (9223372036854775 : Int64)), .second, .val (.long ((1 : Int64) + ((q1 &&& (9223372036854775807 : Int64)) - ((q1 &&& (9223372036854775807 : Int64)) / (2592000 : Int64)) * (2592000 : Int64)))), .second] [(.int (lcmpW (F1_0 ((1 : Int64) + ((q1 &&& (9223372036854775807 : Int64)) - ((q1 &&& (9223372036854775807 : Int64)) / (2592000 : Int64)) * (2592000 : Int64))) q2) (q2 + (((1 : Int64) + ((q1 &&& (9223372036854775807 : Int64)) - ((q1 &&& (9223372036854775807 : Int64)) / (2592000 : Int64)) * (2592000 : Int64))) * (1000 : Int64)))))])) t
            refine XS.ifYes X12.here hx rfl (pc0 := 134) (pc' := 161) rfl (hb hby at_134) rfl (lcEq_f hc134_12).2 (by decide) (by decide) ?_
            show Steps p.tables e below (T12.setTop (mkF m 161 #[.val (.long q1), .second, .val (.long q2), .second, .val (.long q3), .second, .val (.int p4), .val (.int ((p4 &&& (2147483647 : Int32)) % (5 : Int32))), .val (.long (q1 &&& (9223372036854775807 : Int64))), .second, .val (.long (9223372036854775 : Int64)), .second, .val (.long ((1 : Int64) + ((q1 &&& (9223372036854775807 : Int64)) - ((q1 &&& (9223372036854775807 : Int64)) / (2592000 : Int64)) * (2592000 : Int64)))), .second] [])) t
            refine XS.iconst X12.here hx rfl (hb hby at_161) ?_
            exact k
          exact doneN (t := .boolean) X12 (by simp) hx hret hlk (hb hby at_162) ⟨rfl, N12⟩ (by decide) (by decide)
      · rw [if_neg hc106_10]
        refine Done.of (T' := T0) (g' := (mkF m 166 #[.val (.long q1), .second, .val (.long q2), .second, .val (.long q3), .second, .val (.int p4), .val (.int ((p4 &&& (2147483647 : Int32)) % (5 : Int32))), .val (.long (q1 &&& (9223372036854775807 : Int64))), .second, .val (.long (9223372036854775 : Int64)), .second, .unset, .unset] [(.int (3 : Int32)), (.int ((p4 &&& (2147483647 : Int32)) % (5 : Int32)))])) (fun t k => ?_) ?_
        · show Steps p.tables e below (T0.setTop (mkF m 106 #[.val (.long q1), .second, .val (.long q2), .second, .val (.long q3), .second, .val (.int p4), .val (.int ((p4 &&& (2147483647 : Int32)) % (5 : Int32))), .val (.long (q1 &&& (9223372036854775807 : Int64))), .second, .val (.long (9223372036854775 : Int64)), .second, .unset, .unset] [(.int (2 : Int32)), (.int ((p4 &&& (2147483647 : Int32)) % (5 : Int32)))])) t
          refine XS.icmpYes X0.here hx rfl (pc0 := 106) (pc' := 163) rfl (hb hby at_106) rfl (feq hc106_10).2 (by decide) (by decide) ?_
          show Steps p.tables e below (T0.setTop (mkF m 163 #[.val (.long q1), .second, .val (.long q2), .second, .val (.long q3), .second, .val (.int p4), .val (.int ((p4 &&& (2147483647 : Int32)) % (5 : Int32))), .val (.long (q1 &&& (9223372036854775807 : Int64))), .second, .val (.long (9223372036854775 : Int64)), .second, .unset, .unset] [])) t
          refine XS.iload X0.here hx rfl (hb hby at_163) rfl ?_
          show Steps p.tables e below (T0.setTop (mkF m 165 #[.val (.long q1), .second, .val (.long q2), .second, .val (.long q3), .second, .val (.int p4), .val (.int ((p4 &&& (2147483647 : Int32)) % (5 : Int32))), .val (.long (q1 &&& (9223372036854775807 : Int64))), .second, .val (.long (9223372036854775 : Int64)), .second, .unset, .unset] [(.int ((p4 &&& (2147483647 : Int32)) % (5 : Int32)))])) t
          refine XS.iconst X0.here hx rfl (hb hby at_165) ?_
          exact k
        by_cases hc166_15 : ((p4 &&& (2147483647 : Int32)) % (5 : Int32)) = (3 : Int32)
        · rw [if_pos hc166_15]
          refine Done.of (T' := T0) (g' := (mkF m 187 #[.val (.long q1), .second, .val (.long q2), .second, .val (.long q3), .second, .val (.int p4), .val (.int ((p4 &&& (2147483647 : Int32)) % (5 : Int32))), .val (.long (q1 &&& (9223372036854775807 : Int64))), .second, .val (.long (9223372036854775 : Int64)), .second, .val (.long ((2592001 : Int64) + ((q1 &&& (9223372036854775807 : Int64)) - ((q1 &&& (9223372036854775807 : Int64)) / ((9223372036854775 : Int64) - (2592000 : Int64))) * ((9223372036854775 : Int64) - (2592000 : Int64))))), .second] [(.long q2), (.long ((2592001 : Int64) + ((q1 &&& (9223372036854775807 : Int64)) - ((q1 &&& (9223372036854775807 : Int64)) / ((9223372036854775 : Int64) - (2592000 : Int64))) * ((9223372036854775 : Int64) - (2592000 : Int64)))))])) (fun t k => ?_) ?_
          · show Steps p.tables e below (T0.setTop (mkF m 166 #[.val (.long q1), .second, .val (.long q2), .second, .val (.long q3), .second, .val (.int p4), .val (.int ((p4 &&& (2147483647 : Int32)) % (5 : Int32))), .val (.long (q1 &&& (9223372036854775807 : Int64))), .second, .val (.long (9223372036854775 : Int64)), .second, .unset, .unset] [(.int (3 : Int32)), (.int ((p4 &&& (2147483647 : Int32)) % (5 : Int32)))])) t
            refine XS.icmpNo X0.here hx rfl (hb hby at_166) rfl (teq hc166_15).2 ?_
            show Steps p.tables e below (T0.setTop (mkF m 169 #[.val (.long q1), .second, .val (.long q2), .second, .val (.long q3), .second, .val (.int p4), .val (.int ((p4 &&& (2147483647 : Int32)) % (5 : Int32))), .val (.long (q1 &&& (9223372036854775807 : Int64))), .second, .val (.long (9223372036854775 : Int64)), .second, .unset, .unset] [])) t
            refine X0.ldc2Long hx hown (mvT hZ (hw _ (List.mem_of_getElem? (i := 15) rfl))) (g := (mkF m 169 #[.val (.long q1), .second, .val (.long q2), .second, .val (.long q3), .second, .val (.int p4), .val (.int ((p4 &&& (2147483647 : Int32)) % (5 : Int32))), .val (.long (q1 &&& (9223372036854775807 : Int64))), .second, .val (.long (9223372036854775 : Int64)), .second, .unset, .unset] [])) rfl (hb hby at_169) _ ?_
            show Steps p.tables e below (T0.setTop (mkF m 172 #[.val (.long q1), .second, .val (.long q2), .second, .val (.long q3), .second, .val (.int p4), .val (.int ((p4 &&& (2147483647 : Int32)) % (5 : Int32))), .val (.long (q1 &&& (9223372036854775807 : Int64))), .second, .val (.long (9223372036854775 : Int64)), .second, .unset, .unset] [(.long (2592001 : Int64))])) t
            refine XS.lload X0.here hx rfl (hb hby at_172) rfl ?_
            show Steps p.tables e below (T0.setTop (mkF m 174 #[.val (.long q1), .second, .val (.long q2), .second, .val (.long q3), .second, .val (.int p4), .val (.int ((p4 &&& (2147483647 : Int32)) % (5 : Int32))), .val (.long (q1 &&& (9223372036854775807 : Int64))), .second, .val (.long (9223372036854775 : Int64)), .second, .unset, .unset] [(.long (q1 &&& (9223372036854775807 : Int64))), (.long (2592001 : Int64))])) t
            refine XS.lload X0.here hx rfl (hb hby at_174) rfl ?_
            show Steps p.tables e below (T0.setTop (mkF m 176 #[.val (.long q1), .second, .val (.long q2), .second, .val (.long q3), .second, .val (.int p4), .val (.int ((p4 &&& (2147483647 : Int32)) % (5 : Int32))), .val (.long (q1 &&& (9223372036854775807 : Int64))), .second, .val (.long (9223372036854775 : Int64)), .second, .unset, .unset] [(.long (9223372036854775 : Int64)), (.long (q1 &&& (9223372036854775807 : Int64))), (.long (2592001 : Int64))])) t
            refine X0.ldc2Long hx hown (mvT hZ (hw _ (List.mem_of_getElem? (i := 3) rfl))) (g := (mkF m 176 #[.val (.long q1), .second, .val (.long q2), .second, .val (.long q3), .second, .val (.int p4), .val (.int ((p4 &&& (2147483647 : Int32)) % (5 : Int32))), .val (.long (q1 &&& (9223372036854775807 : Int64))), .second, .val (.long (9223372036854775 : Int64)), .second, .unset, .unset] [(.long (9223372036854775 : Int64)), (.long (q1 &&& (9223372036854775807 : Int64))), (.long (2592001 : Int64))])) rfl (hb hby at_176) _ ?_
            show Steps p.tables e below (T0.setTop (mkF m 179 #[.val (.long q1), .second, .val (.long q2), .second, .val (.long q3), .second, .val (.int p4), .val (.int ((p4 &&& (2147483647 : Int32)) % (5 : Int32))), .val (.long (q1 &&& (9223372036854775807 : Int64))), .second, .val (.long (9223372036854775 : Int64)), .second, .unset, .unset] [(.long (2592000 : Int64)), (.long (9223372036854775 : Int64)), (.long (q1 &&& (9223372036854775807 : Int64))), (.long (2592001 : Int64))])) t
            refine XS.lsub X0.here hx rfl (hb hby at_179) rfl ?_
            show Steps p.tables e below (T0.setTop (mkF m 180 #[.val (.long q1), .second, .val (.long q2), .second, .val (.long q3), .second, .val (.int p4), .val (.int ((p4 &&& (2147483647 : Int32)) % (5 : Int32))), .val (.long (q1 &&& (9223372036854775807 : Int64))), .second, .val (.long (9223372036854775 : Int64)), .second, .unset, .unset] [(.long ((9223372036854775 : Int64) - (2592000 : Int64))), (.long (q1 &&& (9223372036854775807 : Int64))), (.long (2592001 : Int64))])) t
            refine XS.lrem X0.here hx rfl (hb hby at_180) rfl (by decide) ?_
            show Steps p.tables e below (T0.setTop (mkF m 181 #[.val (.long q1), .second, .val (.long q2), .second, .val (.long q3), .second, .val (.int p4), .val (.int ((p4 &&& (2147483647 : Int32)) % (5 : Int32))), .val (.long (q1 &&& (9223372036854775807 : Int64))), .second, .val (.long (9223372036854775 : Int64)), .second, .unset, .unset] [(.long ((q1 &&& (9223372036854775807 : Int64)) - ((q1 &&& (9223372036854775807 : Int64)) / ((9223372036854775 : Int64) - (2592000 : Int64))) * ((9223372036854775 : Int64) - (2592000 : Int64)))), (.long (2592001 : Int64))])) t
            refine XS.ladd X0.here hx rfl (hb hby at_181) rfl ?_
            show Steps p.tables e below (T0.setTop (mkF m 182 #[.val (.long q1), .second, .val (.long q2), .second, .val (.long q3), .second, .val (.int p4), .val (.int ((p4 &&& (2147483647 : Int32)) % (5 : Int32))), .val (.long (q1 &&& (9223372036854775807 : Int64))), .second, .val (.long (9223372036854775 : Int64)), .second, .unset, .unset] [(.long ((2592001 : Int64) + ((q1 &&& (9223372036854775807 : Int64)) - ((q1 &&& (9223372036854775807 : Int64)) / ((9223372036854775 : Int64) - (2592000 : Int64))) * ((9223372036854775 : Int64) - (2592000 : Int64)))))])) t
            refine XS.lstore X0.here hx rfl (hb hby at_182) rfl (l' := #[.val (.long q1), .second, .val (.long q2), .second, .val (.long q3), .second, .val (.int p4), .val (.int ((p4 &&& (2147483647 : Int32)) % (5 : Int32))), .val (.long (q1 &&& (9223372036854775807 : Int64))), .second, .val (.long (9223372036854775 : Int64)), .second, .val (.long ((2592001 : Int64) + ((q1 &&& (9223372036854775807 : Int64)) - ((q1 &&& (9223372036854775807 : Int64)) / ((9223372036854775 : Int64) - (2592000 : Int64))) * ((9223372036854775 : Int64) - (2592000 : Int64))))), .second]) rfl ?_
            show Steps p.tables e below (T0.setTop (mkF m 184 #[.val (.long q1), .second, .val (.long q2), .second, .val (.long q3), .second, .val (.int p4), .val (.int ((p4 &&& (2147483647 : Int32)) % (5 : Int32))), .val (.long (q1 &&& (9223372036854775807 : Int64))), .second, .val (.long (9223372036854775 : Int64)), .second, .val (.long ((2592001 : Int64) + ((q1 &&& (9223372036854775807 : Int64)) - ((q1 &&& (9223372036854775807 : Int64)) / ((9223372036854775 : Int64) - (2592000 : Int64))) * ((9223372036854775 : Int64) - (2592000 : Int64))))), .second] [])) t
            refine XS.lload X0.here hx rfl (hb hby at_184) rfl ?_
            show Steps p.tables e below (T0.setTop (mkF m 186 #[.val (.long q1), .second, .val (.long q2), .second, .val (.long q3), .second, .val (.int p4), .val (.int ((p4 &&& (2147483647 : Int32)) % (5 : Int32))), .val (.long (q1 &&& (9223372036854775807 : Int64))), .second, .val (.long (9223372036854775 : Int64)), .second, .val (.long ((2592001 : Int64) + ((q1 &&& (9223372036854775807 : Int64)) - ((q1 &&& (9223372036854775807 : Int64)) / ((9223372036854775 : Int64) - (2592000 : Int64))) * ((9223372036854775 : Int64) - (2592000 : Int64))))), .second] [(.long ((2592001 : Int64) + ((q1 &&& (9223372036854775807 : Int64)) - ((q1 &&& (9223372036854775807 : Int64)) / ((9223372036854775 : Int64) - (2592000 : Int64))) * ((9223372036854775 : Int64) - (2592000 : Int64)))))])) t
            refine XS.lloadN X0.here hx rfl (hb hby at_186) rfl ?_
            exact k
          obtain ⟨_, _, ⟨T17, L17, k17, n17⟩, -, X17, ⟨Lc17, hQ17, l17, y17, z17⟩, st17⟩ := Jvm.LawKit.callS X0 hx (y := (⟨"com/example/noreply/noreply/engine/Expiration", "deadlineMillis", "(JJ)J"⟩ : MethodName)) hown (mvT hZ (hw _ (List.mem_of_getElem? (i := 4) rfl))) (mvT hZ (hw _ (List.mem_of_getElem? (i := 5) rfl))) (mvT hZ (hw _ (List.mem_of_getElem? (i := 6) rfl))) (mvT hZ (hw _ (List.mem_of_getElem? (i := 7) rfl))) (by decide) (backOf (W := 0) (rm1 l Z a0 hw [] ((2592001 : Int64) + ((q1 &&& (9223372036854775807 : Int64)) - ((q1 &&& (9223372036854775807 : Int64)) / ((9223372036854775 : Int64) - (2592000 : Int64))) * ((9223372036854775 : Int64) - (2592000 : Int64)))) q2 h0 n0) hZ (hw _ (List.mem_of_getElem? (i := 7) rfl)) (hw _ (List.mem_of_getElem? (i := 6) rfl)) (by decide) (by decide)) (g := (mkF m 187 #[.val (.long q1), .second, .val (.long q2), .second, .val (.long q3), .second, .val (.int p4), .val (.int ((p4 &&& (2147483647 : Int32)) % (5 : Int32))), .val (.long (q1 &&& (9223372036854775807 : Int64))), .second, .val (.long (9223372036854775 : Int64)), .second, .val (.long ((2592001 : Int64) + ((q1 &&& (9223372036854775807 : Int64)) - ((q1 &&& (9223372036854775807 : Int64)) / ((9223372036854775 : Int64) - (2592000 : Int64))) * ((9223372036854775 : Int64) - (2592000 : Int64))))), .second] [(.long q2), (.long ((2592001 : Int64) + ((q1 &&& (9223372036854775807 : Int64)) - ((q1 &&& (9223372036854775807 : Int64)) / ((9223372036854775 : Int64) - (2592000 : Int64))) * ((9223372036854775 : Int64) - (2592000 : Int64)))))])) rfl (by rw [hml]; rfl) (argsL := [(.long ((2592001 : Int64) + ((q1 &&& (9223372036854775807 : Int64)) - ((q1 &&& (9223372036854775807 : Int64)) / ((9223372036854775 : Int64) - (2592000 : Int64))) * ((9223372036854775 : Int64) - (2592000 : Int64))))), (.long q2)]) (rest := []) (lenOf pd_0 rfl) rfl (by show 2 * 0 + _ ≤ _; exact Nat.le_of_eq rfl) (hb hby at_187) (fun _ _ => ⟨rfl, e0, (by decide : 0 + 0 ≤ _), (by decide : 0 + 0 ≤ _)⟩)
          dsimp only [Pt.U, Pt.locs, Pt.cells, Pt.slots] at X17 l17 y17 z17 st17 hQ17
          subst l17 y17 z17
          obtain ⟨rfl, N17q, e17⟩ := hQ17
          have N17 := Fr.app N0 N17q
          replace X17 : Stand p l e room_1 s m args below meth c T17 _ 0 0 := X17
          refine Done.of (g' := (mkF m 190 #[.val (.long q1), .second, .val (.long q2), .second, .val (.long q3), .second, .val (.int p4), .val (.int ((p4 &&& (2147483647 : Int32)) % (5 : Int32))), .val (.long (q1 &&& (9223372036854775807 : Int64))), .second, .val (.long (9223372036854775 : Int64)), .second, .val (.long ((2592001 : Int64) + ((q1 &&& (9223372036854775807 : Int64)) - ((q1 &&& (9223372036854775807 : Int64)) / ((9223372036854775 : Int64) - (2592000 : Int64))) * ((9223372036854775 : Int64) - (2592000 : Int64))))), .second] [(.long (F1_0 ((2592001 : Int64) + ((q1 &&& (9223372036854775807 : Int64)) - ((q1 &&& (9223372036854775807 : Int64)) / ((9223372036854775 : Int64) - (2592000 : Int64))) * ((9223372036854775 : Int64) - (2592000 : Int64)))) q2))])) st17 ?_
          refine Done.of (T' := T17) (g' := (mkF m 197 #[.val (.long q1), .second, .val (.long q2), .second, .val (.long q3), .second, .val (.int p4), .val (.int ((p4 &&& (2147483647 : Int32)) % (5 : Int32))), .val (.long (q1 &&& (9223372036854775807 : Int64))), .second, .val (.long (9223372036854775 : Int64)), .second, .val (.long ((2592001 : Int64) + ((q1 &&& (9223372036854775807 : Int64)) - ((q1 &&& (9223372036854775807 : Int64)) / ((9223372036854775 : Int64) - (2592000 : Int64))) * ((9223372036854775 : Int64) - (2592000 : Int64))))), .second] [(.int (lcmpW (F1_0 ((2592001 : Int64) + ((q1 &&& (9223372036854775807 : Int64)) - ((q1 &&& (9223372036854775807 : Int64)) / ((9223372036854775 : Int64) - (2592000 : Int64))) * ((9223372036854775 : Int64) - (2592000 : Int64)))) q2) (((2592001 : Int64) + ((q1 &&& (9223372036854775807 : Int64)) - ((q1 &&& (9223372036854775807 : Int64)) / ((9223372036854775 : Int64) - (2592000 : Int64))) * ((9223372036854775 : Int64) - (2592000 : Int64)))) * (1000 : Int64))))])) (fun t k => ?_) ?_
          · show Steps p.tables e below (T17.setTop (mkF m 190 #[.val (.long q1), .second, .val (.long q2), .second, .val (.long q3), .second, .val (.int p4), .val (.int ((p4 &&& (2147483647 : Int32)) % (5 : Int32))), .val (.long (q1 &&& (9223372036854775807 : Int64))), .second, .val (.long (9223372036854775 : Int64)), .second, .val (.long ((2592001 : Int64) + ((q1 &&& (9223372036854775807 : Int64)) - ((q1 &&& (9223372036854775807 : Int64)) / ((9223372036854775 : Int64) - (2592000 : Int64))) * ((9223372036854775 : Int64) - (2592000 : Int64))))), .second] [(.long (F1_0 ((2592001 : Int64) + ((q1 &&& (9223372036854775807 : Int64)) - ((q1 &&& (9223372036854775807 : Int64)) / ((9223372036854775 : Int64) - (2592000 : Int64))) * ((9223372036854775 : Int64) - (2592000 : Int64)))) q2))])) t
            refine XS.lload X17.here hx rfl (hb hby at_190) rfl ?_
            show Steps p.tables e below (T17.setTop (mkF m 192 #[.val (.long q1), .second, .val (.long q2), .second, .val (.long q3), .second, .val (.int p4), .val (.int ((p4 &&& (2147483647 : Int32)) % (5 : Int32))), .val (.long (q1 &&& (9223372036854775807 : Int64))), .second, .val (.long (9223372036854775 : Int64)), .second, .val (.long ((2592001 : Int64) + ((q1 &&& (9223372036854775807 : Int64)) - ((q1 &&& (9223372036854775807 : Int64)) / ((9223372036854775 : Int64) - (2592000 : Int64))) * ((9223372036854775 : Int64) - (2592000 : Int64))))), .second] [(.long ((2592001 : Int64) + ((q1 &&& (9223372036854775807 : Int64)) - ((q1 &&& (9223372036854775807 : Int64)) / ((9223372036854775 : Int64) - (2592000 : Int64))) * ((9223372036854775 : Int64) - (2592000 : Int64))))), (.long (F1_0 ((2592001 : Int64) + ((q1 &&& (9223372036854775807 : Int64)) - ((q1 &&& (9223372036854775807 : Int64)) / ((9223372036854775 : Int64) - (2592000 : Int64))) * ((9223372036854775 : Int64) - (2592000 : Int64)))) q2))])) t
            refine X17.ldc2Long hx hown (mvT hZ (hw _ (List.mem_of_getElem? (i := 10) rfl))) (g := (mkF m 192 #[.val (.long q1), .second, .val (.long q2), .second, .val (.long q3), .second, .val (.int p4), .val (.int ((p4 &&& (2147483647 : Int32)) % (5 : Int32))), .val (.long (q1 &&& (9223372036854775807 : Int64))), .second, .val (.long (9223372036854775 : Int64)), .second, .val (.long ((2592001 : Int64) + ((q1 &&& (9223372036854775807 : Int64)) - ((q1 &&& (9223372036854775807 : Int64)) / ((9223372036854775 : Int64) - (2592000 : Int64))) * ((9223372036854775 : Int64) - (2592000 : Int64))))), .second] [(.long ((2592001 : Int64) + ((q1 &&& (9223372036854775807 : Int64)) - ((q1 &&& (9223372036854775807 : Int64)) / ((9223372036854775 : Int64) - (2592000 : Int64))) * ((9223372036854775 : Int64) - (2592000 : Int64))))), (.long (F1_0 ((2592001 : Int64) + ((q1 &&& (9223372036854775807 : Int64)) - ((q1 &&& (9223372036854775807 : Int64)) / ((9223372036854775 : Int64) - (2592000 : Int64))) * ((9223372036854775 : Int64) - (2592000 : Int64)))) q2))])) rfl (hb hby at_192) _ ?_
            show Steps p.tables e below (T17.setTop (mkF m 195 #[.val (.long q1), .second, .val (.long q2), .second, .val (.long q3), .second, .val (.int p4), .val (.int ((p4 &&& (2147483647 : Int32)) % (5 : Int32))), .val (.long (q1 &&& (9223372036854775807 : Int64))), .second, .val (.long (9223372036854775 : Int64)), .second, .val (.long ((2592001 : Int64) + ((q1 &&& (9223372036854775807 : Int64)) - ((q1 &&& (9223372036854775807 : Int64)) / ((9223372036854775 : Int64) - (2592000 : Int64))) * ((9223372036854775 : Int64) - (2592000 : Int64))))), .second] [(.long (1000 : Int64)), (.long ((2592001 : Int64) + ((q1 &&& (9223372036854775807 : Int64)) - ((q1 &&& (9223372036854775807 : Int64)) / ((9223372036854775 : Int64) - (2592000 : Int64))) * ((9223372036854775 : Int64) - (2592000 : Int64))))), (.long (F1_0 ((2592001 : Int64) + ((q1 &&& (9223372036854775807 : Int64)) - ((q1 &&& (9223372036854775807 : Int64)) / ((9223372036854775 : Int64) - (2592000 : Int64))) * ((9223372036854775 : Int64) - (2592000 : Int64)))) q2))])) t
            refine XS.lmul X17.here hx rfl (hb hby at_195) rfl ?_
            show Steps p.tables e below (T17.setTop (mkF m 196 #[.val (.long q1), .second, .val (.long q2), .second, .val (.long q3), .second, .val (.int p4), .val (.int ((p4 &&& (2147483647 : Int32)) % (5 : Int32))), .val (.long (q1 &&& (9223372036854775807 : Int64))), .second, .val (.long (9223372036854775 : Int64)), .second, .val (.long ((2592001 : Int64) + ((q1 &&& (9223372036854775807 : Int64)) - ((q1 &&& (9223372036854775807 : Int64)) / ((9223372036854775 : Int64) - (2592000 : Int64))) * ((9223372036854775 : Int64) - (2592000 : Int64))))), .second] [(.long (((2592001 : Int64) + ((q1 &&& (9223372036854775807 : Int64)) - ((q1 &&& (9223372036854775807 : Int64)) / ((9223372036854775 : Int64) - (2592000 : Int64))) * ((9223372036854775 : Int64) - (2592000 : Int64)))) * (1000 : Int64))), (.long (F1_0 ((2592001 : Int64) + ((q1 &&& (9223372036854775807 : Int64)) - ((q1 &&& (9223372036854775807 : Int64)) / ((9223372036854775 : Int64) - (2592000 : Int64))) * ((9223372036854775 : Int64) - (2592000 : Int64)))) q2))])) t
            refine XS.lcmp X17.here hx rfl (hb hby at_196) rfl ?_
            exact k
          by_cases hc197_17 : (F1_0 ((2592001 : Int64) + ((q1 &&& (9223372036854775807 : Int64)) - ((q1 &&& (9223372036854775807 : Int64)) / ((9223372036854775 : Int64) - (2592000 : Int64))) * ((9223372036854775 : Int64) - (2592000 : Int64)))) q2) = (((2592001 : Int64) + ((q1 &&& (9223372036854775807 : Int64)) - ((q1 &&& (9223372036854775807 : Int64)) / ((9223372036854775 : Int64) - (2592000 : Int64))) * ((9223372036854775 : Int64) - (2592000 : Int64)))) * (1000 : Int64))
          · rw [if_pos hc197_17]
            refine Done.of (T' := T17) (g' := (mkF m 204 #[.val (.long q1), .second, .val (.long q2), .second, .val (.long q3), .second, .val (.int p4), .val (.int ((p4 &&& (2147483647 : Int32)) % (5 : Int32))), .val (.long (q1 &&& (9223372036854775807 : Int64))), .second, .val (.long (9223372036854775 : Int64)), .second, .val (.long ((2592001 : Int64) + ((q1 &&& (9223372036854775807 : Int64)) - ((q1 &&& (9223372036854775807 : Int64)) / ((9223372036854775 : Int64) - (2592000 : Int64))) * ((9223372036854775 : Int64) - (2592000 : Int64))))), .second] [(.long q3), (.long ((2592001 : Int64) + ((q1 &&& (9223372036854775807 : Int64)) - ((q1 &&& (9223372036854775807 : Int64)) / ((9223372036854775 : Int64) - (2592000 : Int64))) * ((9223372036854775 : Int64) - (2592000 : Int64)))))])) (fun t k => ?_) ?_
            · show Steps p.tables e below (T17.setTop (mkF m 197 #[.val (.long q1), .second, .val (.long q2), .second, .val (.long q3), .second, .val (.int p4), .val (.int ((p4 &&& (2147483647 : Int32)) % (5 : Int32))), .val (.long (q1 &&& (9223372036854775807 : Int64))), .second, .val (.long (9223372036854775 : Int64)), .second, .val (.long ((2592001 : Int64) + ((q1 &&& (9223372036854775807 : Int64)) - ((q1 &&& (9223372036854775807 : Int64)) / ((9223372036854775 : Int64) - (2592000 : Int64))) * ((9223372036854775 : Int64) - (2592000 : Int64))))), .second] [(.int (lcmpW (F1_0 ((2592001 : Int64) + ((q1 &&& (9223372036854775807 : Int64)) - ((q1 &&& (9223372036854775807 : Int64)) / ((9223372036854775 : Int64) - (2592000 : Int64))) * ((9223372036854775 : Int64) - (2592000 : Int64)))) q2) (((2592001 : Int64) + ((q1 &&& (9223372036854775807 : Int64)) - ((q1 &&& (9223372036854775807 : Int64)) / ((9223372036854775 : Int64) - (2592000 : Int64))) * ((9223372036854775 : Int64) - (2592000 : Int64)))) * (1000 : Int64))))])) t
              refine XS.ifNo X17.here hx rfl (hb hby at_197) rfl (lcEq_t hc197_17).2 ?_
              show Steps p.tables e below (T17.setTop (mkF m 200 #[.val (.long q1), .second, .val (.long q2), .second, .val (.long q3), .second, .val (.int p4), .val (.int ((p4 &&& (2147483647 : Int32)) % (5 : Int32))), .val (.long (q1 &&& (9223372036854775807 : Int64))), .second, .val (.long (9223372036854775 : Int64)), .second, .val (.long ((2592001 : Int64) + ((q1 &&& (9223372036854775807 : Int64)) - ((q1 &&& (9223372036854775807 : Int64)) / ((9223372036854775 : Int64) - (2592000 : Int64))) * ((9223372036854775 : Int64) - (2592000 : Int64))))), .second] [])) t
              refine XS.lload X17.here hx rfl (hb hby at_200) rfl ?_
              show Steps p.tables e below (T17.setTop (mkF m 202 #[.val (.long q1), .second, .val (.long q2), .second, .val (.long q3), .second, .val (.int p4), .val (.int ((p4 &&& (2147483647 : Int32)) % (5 : Int32))), .val (.long (q1 &&& (9223372036854775807 : Int64))), .second, .val (.long (9223372036854775 : Int64)), .second, .val (.long ((2592001 : Int64) + ((q1 &&& (9223372036854775807 : Int64)) - ((q1 &&& (9223372036854775807 : Int64)) / ((9223372036854775 : Int64) - (2592000 : Int64))) * ((9223372036854775 : Int64) - (2592000 : Int64))))), .second] [(.long ((2592001 : Int64) + ((q1 &&& (9223372036854775807 : Int64)) - ((q1 &&& (9223372036854775807 : Int64)) / ((9223372036854775 : Int64) - (2592000 : Int64))) * ((9223372036854775 : Int64) - (2592000 : Int64)))))])) t
              refine XS.lload X17.here hx rfl (hb hby at_202) rfl ?_
              exact k
            obtain ⟨_, _, ⟨T19, L19, k19, n19⟩, -, X19, ⟨Lc19, hQ19, l19, y19, z19⟩, st19⟩ := Jvm.LawKit.callS X17 hx (y := (⟨"com/example/noreply/noreply/engine/Expiration", "deadlineMillis", "(JJ)J"⟩ : MethodName)) hown (mvT hZ (hw _ (List.mem_of_getElem? (i := 4) rfl))) (mvT hZ (hw _ (List.mem_of_getElem? (i := 5) rfl))) (mvT hZ (hw _ (List.mem_of_getElem? (i := 6) rfl))) (mvT hZ (hw _ (List.mem_of_getElem? (i := 7) rfl))) (by decide) (backOf (W := 0) (rm1 l Z a0 hw [] ((2592001 : Int64) + ((q1 &&& (9223372036854775807 : Int64)) - ((q1 &&& (9223372036854775807 : Int64)) / ((9223372036854775 : Int64) - (2592000 : Int64))) * ((9223372036854775 : Int64) - (2592000 : Int64)))) q3 h0 n0) hZ (hw _ (List.mem_of_getElem? (i := 7) rfl)) (hw _ (List.mem_of_getElem? (i := 6) rfl)) (by decide) (by decide)) (g := (mkF m 204 #[.val (.long q1), .second, .val (.long q2), .second, .val (.long q3), .second, .val (.int p4), .val (.int ((p4 &&& (2147483647 : Int32)) % (5 : Int32))), .val (.long (q1 &&& (9223372036854775807 : Int64))), .second, .val (.long (9223372036854775 : Int64)), .second, .val (.long ((2592001 : Int64) + ((q1 &&& (9223372036854775807 : Int64)) - ((q1 &&& (9223372036854775807 : Int64)) / ((9223372036854775 : Int64) - (2592000 : Int64))) * ((9223372036854775 : Int64) - (2592000 : Int64))))), .second] [(.long q3), (.long ((2592001 : Int64) + ((q1 &&& (9223372036854775807 : Int64)) - ((q1 &&& (9223372036854775807 : Int64)) / ((9223372036854775 : Int64) - (2592000 : Int64))) * ((9223372036854775 : Int64) - (2592000 : Int64)))))])) rfl (by rw [hml]; rfl) (argsL := [(.long ((2592001 : Int64) + ((q1 &&& (9223372036854775807 : Int64)) - ((q1 &&& (9223372036854775807 : Int64)) / ((9223372036854775 : Int64) - (2592000 : Int64))) * ((9223372036854775 : Int64) - (2592000 : Int64))))), (.long q3)]) (rest := []) (lenOf pd_0 rfl) rfl (by show 2 * 0 + _ ≤ _; exact Nat.le_of_eq rfl) (hb hby at_204) (fun _ _ => ⟨rfl, e17, (by decide : 0 + 0 ≤ _), (by decide : 0 + 0 ≤ _)⟩)
            dsimp only [Pt.U, Pt.locs, Pt.cells, Pt.slots] at X19 l19 y19 z19 st19 hQ19
            subst l19 y19 z19
            obtain ⟨rfl, N19q, e19⟩ := hQ19
            have N19 := Fr.app N17 N19q
            replace X19 : Stand p l e room_1 s m args below meth c T19 _ 0 0 := X19
            refine Done.of (g' := (mkF m 207 #[.val (.long q1), .second, .val (.long q2), .second, .val (.long q3), .second, .val (.int p4), .val (.int ((p4 &&& (2147483647 : Int32)) % (5 : Int32))), .val (.long (q1 &&& (9223372036854775807 : Int64))), .second, .val (.long (9223372036854775 : Int64)), .second, .val (.long ((2592001 : Int64) + ((q1 &&& (9223372036854775807 : Int64)) - ((q1 &&& (9223372036854775807 : Int64)) / ((9223372036854775 : Int64) - (2592000 : Int64))) * ((9223372036854775 : Int64) - (2592000 : Int64))))), .second] [(.long (F1_0 ((2592001 : Int64) + ((q1 &&& (9223372036854775807 : Int64)) - ((q1 &&& (9223372036854775807 : Int64)) / ((9223372036854775 : Int64) - (2592000 : Int64))) * ((9223372036854775 : Int64) - (2592000 : Int64)))) q3))])) st19 ?_
            refine Done.of (T' := T19) (g' := (mkF m 214 #[.val (.long q1), .second, .val (.long q2), .second, .val (.long q3), .second, .val (.int p4), .val (.int ((p4 &&& (2147483647 : Int32)) % (5 : Int32))), .val (.long (q1 &&& (9223372036854775807 : Int64))), .second, .val (.long (9223372036854775 : Int64)), .second, .val (.long ((2592001 : Int64) + ((q1 &&& (9223372036854775807 : Int64)) - ((q1 &&& (9223372036854775807 : Int64)) / ((9223372036854775 : Int64) - (2592000 : Int64))) * ((9223372036854775 : Int64) - (2592000 : Int64))))), .second] [(.int (lcmpW (F1_0 ((2592001 : Int64) + ((q1 &&& (9223372036854775807 : Int64)) - ((q1 &&& (9223372036854775807 : Int64)) / ((9223372036854775 : Int64) - (2592000 : Int64))) * ((9223372036854775 : Int64) - (2592000 : Int64)))) q3) (((2592001 : Int64) + ((q1 &&& (9223372036854775807 : Int64)) - ((q1 &&& (9223372036854775807 : Int64)) / ((9223372036854775 : Int64) - (2592000 : Int64))) * ((9223372036854775 : Int64) - (2592000 : Int64)))) * (1000 : Int64))))])) (fun t k => ?_) ?_
            · show Steps p.tables e below (T19.setTop (mkF m 207 #[.val (.long q1), .second, .val (.long q2), .second, .val (.long q3), .second, .val (.int p4), .val (.int ((p4 &&& (2147483647 : Int32)) % (5 : Int32))), .val (.long (q1 &&& (9223372036854775807 : Int64))), .second, .val (.long (9223372036854775 : Int64)), .second, .val (.long ((2592001 : Int64) + ((q1 &&& (9223372036854775807 : Int64)) - ((q1 &&& (9223372036854775807 : Int64)) / ((9223372036854775 : Int64) - (2592000 : Int64))) * ((9223372036854775 : Int64) - (2592000 : Int64))))), .second] [(.long (F1_0 ((2592001 : Int64) + ((q1 &&& (9223372036854775807 : Int64)) - ((q1 &&& (9223372036854775807 : Int64)) / ((9223372036854775 : Int64) - (2592000 : Int64))) * ((9223372036854775 : Int64) - (2592000 : Int64)))) q3))])) t
              refine XS.lload X19.here hx rfl (hb hby at_207) rfl ?_
              show Steps p.tables e below (T19.setTop (mkF m 209 #[.val (.long q1), .second, .val (.long q2), .second, .val (.long q3), .second, .val (.int p4), .val (.int ((p4 &&& (2147483647 : Int32)) % (5 : Int32))), .val (.long (q1 &&& (9223372036854775807 : Int64))), .second, .val (.long (9223372036854775 : Int64)), .second, .val (.long ((2592001 : Int64) + ((q1 &&& (9223372036854775807 : Int64)) - ((q1 &&& (9223372036854775807 : Int64)) / ((9223372036854775 : Int64) - (2592000 : Int64))) * ((9223372036854775 : Int64) - (2592000 : Int64))))), .second] [(.long ((2592001 : Int64) + ((q1 &&& (9223372036854775807 : Int64)) - ((q1 &&& (9223372036854775807 : Int64)) / ((9223372036854775 : Int64) - (2592000 : Int64))) * ((9223372036854775 : Int64) - (2592000 : Int64))))), (.long (F1_0 ((2592001 : Int64) + ((q1 &&& (9223372036854775807 : Int64)) - ((q1 &&& (9223372036854775807 : Int64)) / ((9223372036854775 : Int64) - (2592000 : Int64))) * ((9223372036854775 : Int64) - (2592000 : Int64)))) q3))])) t
              refine X19.ldc2Long hx hown (mvT hZ (hw _ (List.mem_of_getElem? (i := 10) rfl))) (g := (mkF m 209 #[.val (.long q1), .second, .val (.long q2), .second, .val (.long q3), .second, .val (.int p4), .val (.int ((p4 &&& (2147483647 : Int32)) % (5 : Int32))), .val (.long (q1 &&& (9223372036854775807 : Int64))), .second, .val (.long (9223372036854775 : Int64)), .second, .val (.long ((2592001 : Int64) + ((q1 &&& (9223372036854775807 : Int64)) - ((q1 &&& (9223372036854775807 : Int64)) / ((9223372036854775 : Int64) - (2592000 : Int64))) * ((9223372036854775 : Int64) - (2592000 : Int64))))), .second] [(.long ((2592001 : Int64) + ((q1 &&& (9223372036854775807 : Int64)) - ((q1 &&& (9223372036854775807 : Int64)) / ((9223372036854775 : Int64) - (2592000 : Int64))) * ((9223372036854775 : Int64) - (2592000 : Int64))))), (.long (F1_0 ((2592001 : Int64) + ((q1 &&& (9223372036854775807 : Int64)) - ((q1 &&& (9223372036854775807 : Int64)) / ((9223372036854775 : Int64) - (2592000 : Int64))) * ((9223372036854775 : Int64) - (2592000 : Int64)))) q3))])) rfl (hb hby at_209) _ ?_
              show Steps p.tables e below (T19.setTop (mkF m 212 #[.val (.long q1), .second, .val (.long q2), .second, .val (.long q3), .second, .val (.int p4), .val (.int ((p4 &&& (2147483647 : Int32)) % (5 : Int32))), .val (.long (q1 &&& (9223372036854775807 : Int64))), .second, .val (.long (9223372036854775 : Int64)), .second, .val (.long ((2592001 : Int64) + ((q1 &&& (9223372036854775807 : Int64)) - ((q1 &&& (9223372036854775807 : Int64)) / ((9223372036854775 : Int64) - (2592000 : Int64))) * ((9223372036854775 : Int64) - (2592000 : Int64))))), .second] [(.long (1000 : Int64)), (.long ((2592001 : Int64) + ((q1 &&& (9223372036854775807 : Int64)) - ((q1 &&& (9223372036854775807 : Int64)) / ((9223372036854775 : Int64) - (2592000 : Int64))) * ((9223372036854775 : Int64) - (2592000 : Int64))))), (.long (F1_0 ((2592001 : Int64) + ((q1 &&& (9223372036854775807 : Int64)) - ((q1 &&& (9223372036854775807 : Int64)) / ((9223372036854775 : Int64) - (2592000 : Int64))) * ((9223372036854775 : Int64) - (2592000 : Int64)))) q3))])) t
              refine XS.lmul X19.here hx rfl (hb hby at_212) rfl ?_
              show Steps p.tables e below (T19.setTop (mkF m 213 #[.val (.long q1), .second, .val (.long q2), .second, .val (.long q3), .second, .val (.int p4), .val (.int ((p4 &&& (2147483647 : Int32)) % (5 : Int32))), .val (.long (q1 &&& (9223372036854775807 : Int64))), .second, .val (.long (9223372036854775 : Int64)), .second, .val (.long ((2592001 : Int64) + ((q1 &&& (9223372036854775807 : Int64)) - ((q1 &&& (9223372036854775807 : Int64)) / ((9223372036854775 : Int64) - (2592000 : Int64))) * ((9223372036854775 : Int64) - (2592000 : Int64))))), .second] [(.long (((2592001 : Int64) + ((q1 &&& (9223372036854775807 : Int64)) - ((q1 &&& (9223372036854775807 : Int64)) / ((9223372036854775 : Int64) - (2592000 : Int64))) * ((9223372036854775 : Int64) - (2592000 : Int64)))) * (1000 : Int64))), (.long (F1_0 ((2592001 : Int64) + ((q1 &&& (9223372036854775807 : Int64)) - ((q1 &&& (9223372036854775807 : Int64)) / ((9223372036854775 : Int64) - (2592000 : Int64))) * ((9223372036854775 : Int64) - (2592000 : Int64)))) q3))])) t
              refine XS.lcmp X19.here hx rfl (hb hby at_213) rfl ?_
              exact k
            by_cases hc214_19 : (F1_0 ((2592001 : Int64) + ((q1 &&& (9223372036854775807 : Int64)) - ((q1 &&& (9223372036854775807 : Int64)) / ((9223372036854775 : Int64) - (2592000 : Int64))) * ((9223372036854775 : Int64) - (2592000 : Int64)))) q3) = (((2592001 : Int64) + ((q1 &&& (9223372036854775807 : Int64)) - ((q1 &&& (9223372036854775807 : Int64)) / ((9223372036854775 : Int64) - (2592000 : Int64))) * ((9223372036854775 : Int64) - (2592000 : Int64)))) * (1000 : Int64))
            · rw [if_pos hc214_19]
              refine Done.of (T' := T19) (g' := (mkF m 222 #[.val (.long q1), .second, .val (.long q2), .second, .val (.long q3), .second, .val (.int p4), .val (.int ((p4 &&& (2147483647 : Int32)) % (5 : Int32))), .val (.long (q1 &&& (9223372036854775807 : Int64))), .second, .val (.long (9223372036854775 : Int64)), .second, .val (.long ((2592001 : Int64) + ((q1 &&& (9223372036854775807 : Int64)) - ((q1 &&& (9223372036854775807 : Int64)) / ((9223372036854775 : Int64) - (2592000 : Int64))) * ((9223372036854775 : Int64) - (2592000 : Int64))))), .second] [(.int (1 : Int32))])) (fun t k => ?_) ?_
              · show Steps p.tables e below (T19.setTop (mkF m 214 #[.val (.long q1), .second, .val (.long q2), .second, .val (.long q3), .second, .val (.int p4), .val (.int ((p4 &&& (2147483647 : Int32)) % (5 : Int32))), .val (.long (q1 &&& (9223372036854775807 : Int64))), .second, .val (.long (9223372036854775 : Int64)), .second, .val (.long ((2592001 : Int64) + ((q1 &&& (9223372036854775807 : Int64)) - ((q1 &&& (9223372036854775807 : Int64)) / ((9223372036854775 : Int64) - (2592000 : Int64))) * ((9223372036854775 : Int64) - (2592000 : Int64))))), .second] [(.int (lcmpW (F1_0 ((2592001 : Int64) + ((q1 &&& (9223372036854775807 : Int64)) - ((q1 &&& (9223372036854775807 : Int64)) / ((9223372036854775 : Int64) - (2592000 : Int64))) * ((9223372036854775 : Int64) - (2592000 : Int64)))) q3) (((2592001 : Int64) + ((q1 &&& (9223372036854775807 : Int64)) - ((q1 &&& (9223372036854775807 : Int64)) / ((9223372036854775 : Int64) - (2592000 : Int64))) * ((9223372036854775 : Int64) - (2592000 : Int64)))) * (1000 : Int64))))])) t
                refine XS.ifNo X19.here hx rfl (hb hby at_214) rfl (lcEq_t hc214_19).2 ?_
                show Steps p.tables e below (T19.setTop (mkF m 217 #[.val (.long q1), .second, .val (.long q2), .second, .val (.long q3), .second, .val (.int p4), .val (.int ((p4 &&& (2147483647 : Int32)) % (5 : Int32))), .val (.long (q1 &&& (9223372036854775807 : Int64))), .second, .val (.long (9223372036854775 : Int64)), .second, .val (.long ((2592001 : Int64) + ((q1 &&& (9223372036854775807 : Int64)) - ((q1 &&& (9223372036854775807 : Int64)) / ((9223372036854775 : Int64) - (2592000 : Int64))) * ((9223372036854775 : Int64) - (2592000 : Int64))))), .second] [])) t
                refine XS.iconst X19.here hx rfl (hb hby at_217) ?_
                show Steps p.tables e below (T19.setTop (mkF m 218 #[.val (.long q1), .second, .val (.long q2), .second, .val (.long q3), .second, .val (.int p4), .val (.int ((p4 &&& (2147483647 : Int32)) % (5 : Int32))), .val (.long (q1 &&& (9223372036854775807 : Int64))), .second, .val (.long (9223372036854775 : Int64)), .second, .val (.long ((2592001 : Int64) + ((q1 &&& (9223372036854775807 : Int64)) - ((q1 &&& (9223372036854775807 : Int64)) / ((9223372036854775 : Int64) - (2592000 : Int64))) * ((9223372036854775 : Int64) - (2592000 : Int64))))), .second] [(.int (1 : Int32))])) t
                refine XS.goto X19.here hx rfl (pc0 := 218) (pc' := 222) rfl (hb hby at_218) (by decide) (by decide) ?_
                exact k
              exact doneN (t := .boolean) X19 (by simp) hx hret hlk (hb hby at_222) ⟨rfl, N19⟩ (by decide) (by decide)
            · rw [if_neg hc214_19]
              refine Done.of (T' := T19) (g' := (mkF m 222 #[.val (.long q1), .second, .val (.long q2), .second, .val (.long q3), .second, .val (.int p4), .val (.int ((p4 &&& (2147483647 : Int32)) % (5 : Int32))), .val (.long (q1 &&& (9223372036854775807 : Int64))), .second, .val (.long (9223372036854775 : Int64)), .second, .val (.long ((2592001 : Int64) + ((q1 &&& (9223372036854775807 : Int64)) - ((q1 &&& (9223372036854775807 : Int64)) / ((9223372036854775 : Int64) - (2592000 : Int64))) * ((9223372036854775 : Int64) - (2592000 : Int64))))), .second] [(.int (0 : Int32))])) (fun t k => ?_) ?_
              · show Steps p.tables e below (T19.setTop (mkF m 214 #[.val (.long q1), .second, .val (.long q2), .second, .val (.long q3), .second, .val (.int p4), .val (.int ((p4 &&& (2147483647 : Int32)) % (5 : Int32))), .val (.long (q1 &&& (9223372036854775807 : Int64))), .second, .val (.long (9223372036854775 : Int64)), .second, .val (.long ((2592001 : Int64) + ((q1 &&& (9223372036854775807 : Int64)) - ((q1 &&& (9223372036854775807 : Int64)) / ((9223372036854775 : Int64) - (2592000 : Int64))) * ((9223372036854775 : Int64) - (2592000 : Int64))))), .second] [(.int (lcmpW (F1_0 ((2592001 : Int64) + ((q1 &&& (9223372036854775807 : Int64)) - ((q1 &&& (9223372036854775807 : Int64)) / ((9223372036854775 : Int64) - (2592000 : Int64))) * ((9223372036854775 : Int64) - (2592000 : Int64)))) q3) (((2592001 : Int64) + ((q1 &&& (9223372036854775807 : Int64)) - ((q1 &&& (9223372036854775807 : Int64)) / ((9223372036854775 : Int64) - (2592000 : Int64))) * ((9223372036854775 : Int64) - (2592000 : Int64)))) * (1000 : Int64))))])) t
                refine XS.ifYes X19.here hx rfl (pc0 := 214) (pc' := 221) rfl (hb hby at_214) rfl (lcEq_f hc214_19).2 (by decide) (by decide) ?_
                show Steps p.tables e below (T19.setTop (mkF m 221 #[.val (.long q1), .second, .val (.long q2), .second, .val (.long q3), .second, .val (.int p4), .val (.int ((p4 &&& (2147483647 : Int32)) % (5 : Int32))), .val (.long (q1 &&& (9223372036854775807 : Int64))), .second, .val (.long (9223372036854775 : Int64)), .second, .val (.long ((2592001 : Int64) + ((q1 &&& (9223372036854775807 : Int64)) - ((q1 &&& (9223372036854775807 : Int64)) / ((9223372036854775 : Int64) - (2592000 : Int64))) * ((9223372036854775 : Int64) - (2592000 : Int64))))), .second] [])) t
                refine XS.iconst X19.here hx rfl (hb hby at_221) ?_
                exact k
              exact doneN (t := .boolean) X19 (by simp) hx hret hlk (hb hby at_222) ⟨rfl, N19⟩ (by decide) (by decide)
          · rw [if_neg hc197_17]
            refine Done.of (T' := T17) (g' := (mkF m 222 #[.val (.long q1), .second, .val (.long q2), .second, .val (.long q3), .second, .val (.int p4), .val (.int ((p4 &&& (2147483647 : Int32)) % (5 : Int32))), .val (.long (q1 &&& (9223372036854775807 : Int64))), .second, .val (.long (9223372036854775 : Int64)), .second, .val (.long ((2592001 : Int64) + ((q1 &&& (9223372036854775807 : Int64)) - ((q1 &&& (9223372036854775807 : Int64)) / ((9223372036854775 : Int64) - (2592000 : Int64))) * ((9223372036854775 : Int64) - (2592000 : Int64))))), .second] [(.int (0 : Int32))])) (fun t k => ?_) ?_
            · show Steps p.tables e below (T17.setTop (mkF m 197 #[.val (.long q1), .second, .val (.long q2), .second, .val (.long q3), .second, .val (.int p4), .val (.int ((p4 &&& (2147483647 : Int32)) % (5 : Int32))), .val (.long (q1 &&& (9223372036854775807 : Int64))), .second, .val (.long (9223372036854775 : Int64)), .second, .val (.long ((2592001 : Int64) + ((q1 &&& (9223372036854775807 : Int64)) - ((q1 &&& (9223372036854775807 : Int64)) / ((9223372036854775 : Int64) - (2592000 : Int64))) * ((9223372036854775 : Int64) - (2592000 : Int64))))), .second] [(.int (lcmpW (F1_0 ((2592001 : Int64) + ((q1 &&& (9223372036854775807 : Int64)) - ((q1 &&& (9223372036854775807 : Int64)) / ((9223372036854775 : Int64) - (2592000 : Int64))) * ((9223372036854775 : Int64) - (2592000 : Int64)))) q2) (((2592001 : Int64) + ((q1 &&& (9223372036854775807 : Int64)) - ((q1 &&& (9223372036854775807 : Int64)) / ((9223372036854775 : Int64) - (2592000 : Int64))) * ((9223372036854775 : Int64) - (2592000 : Int64)))) * (1000 : Int64))))])) t
              refine XS.ifYes X17.here hx rfl (pc0 := 197) (pc' := 221) rfl (hb hby at_197) rfl (lcEq_f hc197_17).2 (by decide) (by decide) ?_
              show Steps p.tables e below (T17.setTop (mkF m 221 #[.val (.long q1), .second, .val (.long q2), .second, .val (.long q3), .second, .val (.int p4), .val (.int ((p4 &&& (2147483647 : Int32)) % (5 : Int32))), .val (.long (q1 &&& (9223372036854775807 : Int64))), .second, .val (.long (9223372036854775 : Int64)), .second, .val (.long ((2592001 : Int64) + ((q1 &&& (9223372036854775807 : Int64)) - ((q1 &&& (9223372036854775807 : Int64)) / ((9223372036854775 : Int64) - (2592000 : Int64))) * ((9223372036854775 : Int64) - (2592000 : Int64))))), .second] [])) t
              refine XS.iconst X17.here hx rfl (hb hby at_221) ?_
              exact k
            exact doneN (t := .boolean) X17 (by simp) hx hret hlk (hb hby at_222) ⟨rfl, N17⟩ (by decide) (by decide)
        · rw [if_neg hc166_15]
          refine Done.of (T' := T0) (g' := (mkF m 242 #[.val (.long q1), .second, .val (.long q2), .second, .val (.long q3), .second, .val (.int p4), .val (.int ((p4 &&& (2147483647 : Int32)) % (5 : Int32))), .val (.long (q1 &&& (9223372036854775807 : Int64))), .second, .val (.long (9223372036854775 : Int64)), .second, .val (.long (((9223372036854775 : Int64) + (1 : Int64)) + ((q1 &&& (9223372036854775807 : Int64)) - ((q1 &&& (9223372036854775807 : Int64)) / ((9223372036854775807 : Int64) - (9223372036854775 : Int64))) * ((9223372036854775807 : Int64) - (9223372036854775 : Int64))))), .second] [(.long q2), (.long (((9223372036854775 : Int64) + (1 : Int64)) + ((q1 &&& (9223372036854775807 : Int64)) - ((q1 &&& (9223372036854775807 : Int64)) / ((9223372036854775807 : Int64) - (9223372036854775 : Int64))) * ((9223372036854775807 : Int64) - (9223372036854775 : Int64)))))])) (fun t k => ?_) ?_
          · show Steps p.tables e below (T0.setTop (mkF m 166 #[.val (.long q1), .second, .val (.long q2), .second, .val (.long q3), .second, .val (.int p4), .val (.int ((p4 &&& (2147483647 : Int32)) % (5 : Int32))), .val (.long (q1 &&& (9223372036854775807 : Int64))), .second, .val (.long (9223372036854775 : Int64)), .second, .unset, .unset] [(.int (3 : Int32)), (.int ((p4 &&& (2147483647 : Int32)) % (5 : Int32)))])) t
            refine XS.icmpYes X0.here hx rfl (pc0 := 166) (pc' := 223) rfl (hb hby at_166) rfl (feq hc166_15).2 (by decide) (by decide) ?_
            show Steps p.tables e below (T0.setTop (mkF m 223 #[.val (.long q1), .second, .val (.long q2), .second, .val (.long q3), .second, .val (.int p4), .val (.int ((p4 &&& (2147483647 : Int32)) % (5 : Int32))), .val (.long (q1 &&& (9223372036854775807 : Int64))), .second, .val (.long (9223372036854775 : Int64)), .second, .unset, .unset] [])) t
            refine XS.lload X0.here hx rfl (hb hby at_223) rfl ?_
            show Steps p.tables e below (T0.setTop (mkF m 225 #[.val (.long q1), .second, .val (.long q2), .second, .val (.long q3), .second, .val (.int p4), .val (.int ((p4 &&& (2147483647 : Int32)) % (5 : Int32))), .val (.long (q1 &&& (9223372036854775807 : Int64))), .second, .val (.long (9223372036854775 : Int64)), .second, .unset, .unset] [(.long (9223372036854775 : Int64))])) t
            refine XS.lconst X0.here hx rfl (hb hby at_225) ?_
            show Steps p.tables e below (T0.setTop (mkF m 226 #[.val (.long q1), .second, .val (.long q2), .second, .val (.long q3), .second, .val (.int p4), .val (.int ((p4 &&& (2147483647 : Int32)) % (5 : Int32))), .val (.long (q1 &&& (9223372036854775807 : Int64))), .second, .val (.long (9223372036854775 : Int64)), .second, .unset, .unset] [(.long (1 : Int64)), (.long (9223372036854775 : Int64))])) t
            refine XS.ladd X0.here hx rfl (hb hby at_226) rfl ?_
            show Steps p.tables e below (T0.setTop (mkF m 227 #[.val (.long q1), .second, .val (.long q2), .second, .val (.long q3), .second, .val (.int p4), .val (.int ((p4 &&& (2147483647 : Int32)) % (5 : Int32))), .val (.long (q1 &&& (9223372036854775807 : Int64))), .second, .val (.long (9223372036854775 : Int64)), .second, .unset, .unset] [(.long ((9223372036854775 : Int64) + (1 : Int64)))])) t
            refine XS.lload X0.here hx rfl (hb hby at_227) rfl ?_
            show Steps p.tables e below (T0.setTop (mkF m 229 #[.val (.long q1), .second, .val (.long q2), .second, .val (.long q3), .second, .val (.int p4), .val (.int ((p4 &&& (2147483647 : Int32)) % (5 : Int32))), .val (.long (q1 &&& (9223372036854775807 : Int64))), .second, .val (.long (9223372036854775 : Int64)), .second, .unset, .unset] [(.long (q1 &&& (9223372036854775807 : Int64))), (.long ((9223372036854775 : Int64) + (1 : Int64)))])) t
            refine X0.ldc2Long hx hown (mvT hZ (hw _ (List.mem_of_getElem? (i := 1) rfl))) (g := (mkF m 229 #[.val (.long q1), .second, .val (.long q2), .second, .val (.long q3), .second, .val (.int p4), .val (.int ((p4 &&& (2147483647 : Int32)) % (5 : Int32))), .val (.long (q1 &&& (9223372036854775807 : Int64))), .second, .val (.long (9223372036854775 : Int64)), .second, .unset, .unset] [(.long (q1 &&& (9223372036854775807 : Int64))), (.long ((9223372036854775 : Int64) + (1 : Int64)))])) rfl (hb hby at_229) _ ?_
            show Steps p.tables e below (T0.setTop (mkF m 232 #[.val (.long q1), .second, .val (.long q2), .second, .val (.long q3), .second, .val (.int p4), .val (.int ((p4 &&& (2147483647 : Int32)) % (5 : Int32))), .val (.long (q1 &&& (9223372036854775807 : Int64))), .second, .val (.long (9223372036854775 : Int64)), .second, .unset, .unset] [(.long (9223372036854775807 : Int64)), (.long (q1 &&& (9223372036854775807 : Int64))), (.long ((9223372036854775 : Int64) + (1 : Int64)))])) t
            refine XS.lload X0.here hx rfl (hb hby at_232) rfl ?_
            show Steps p.tables e below (T0.setTop (mkF m 234 #[.val (.long q1), .second, .val (.long q2), .second, .val (.long q3), .second, .val (.int p4), .val (.int ((p4 &&& (2147483647 : Int32)) % (5 : Int32))), .val (.long (q1 &&& (9223372036854775807 : Int64))), .second, .val (.long (9223372036854775 : Int64)), .second, .unset, .unset] [(.long (9223372036854775 : Int64)), (.long (9223372036854775807 : Int64)), (.long (q1 &&& (9223372036854775807 : Int64))), (.long ((9223372036854775 : Int64) + (1 : Int64)))])) t
            refine XS.lsub X0.here hx rfl (hb hby at_234) rfl ?_
            show Steps p.tables e below (T0.setTop (mkF m 235 #[.val (.long q1), .second, .val (.long q2), .second, .val (.long q3), .second, .val (.int p4), .val (.int ((p4 &&& (2147483647 : Int32)) % (5 : Int32))), .val (.long (q1 &&& (9223372036854775807 : Int64))), .second, .val (.long (9223372036854775 : Int64)), .second, .unset, .unset] [(.long ((9223372036854775807 : Int64) - (9223372036854775 : Int64))), (.long (q1 &&& (9223372036854775807 : Int64))), (.long ((9223372036854775 : Int64) + (1 : Int64)))])) t
            refine XS.lrem X0.here hx rfl (hb hby at_235) rfl (by decide) ?_
            show Steps p.tables e below (T0.setTop (mkF m 236 #[.val (.long q1), .second, .val (.long q2), .second, .val (.long q3), .second, .val (.int p4), .val (.int ((p4 &&& (2147483647 : Int32)) % (5 : Int32))), .val (.long (q1 &&& (9223372036854775807 : Int64))), .second, .val (.long (9223372036854775 : Int64)), .second, .unset, .unset] [(.long ((q1 &&& (9223372036854775807 : Int64)) - ((q1 &&& (9223372036854775807 : Int64)) / ((9223372036854775807 : Int64) - (9223372036854775 : Int64))) * ((9223372036854775807 : Int64) - (9223372036854775 : Int64)))), (.long ((9223372036854775 : Int64) + (1 : Int64)))])) t
            refine XS.ladd X0.here hx rfl (hb hby at_236) rfl ?_
            show Steps p.tables e below (T0.setTop (mkF m 237 #[.val (.long q1), .second, .val (.long q2), .second, .val (.long q3), .second, .val (.int p4), .val (.int ((p4 &&& (2147483647 : Int32)) % (5 : Int32))), .val (.long (q1 &&& (9223372036854775807 : Int64))), .second, .val (.long (9223372036854775 : Int64)), .second, .unset, .unset] [(.long (((9223372036854775 : Int64) + (1 : Int64)) + ((q1 &&& (9223372036854775807 : Int64)) - ((q1 &&& (9223372036854775807 : Int64)) / ((9223372036854775807 : Int64) - (9223372036854775 : Int64))) * ((9223372036854775807 : Int64) - (9223372036854775 : Int64)))))])) t
            refine XS.lstore X0.here hx rfl (hb hby at_237) rfl (l' := #[.val (.long q1), .second, .val (.long q2), .second, .val (.long q3), .second, .val (.int p4), .val (.int ((p4 &&& (2147483647 : Int32)) % (5 : Int32))), .val (.long (q1 &&& (9223372036854775807 : Int64))), .second, .val (.long (9223372036854775 : Int64)), .second, .val (.long (((9223372036854775 : Int64) + (1 : Int64)) + ((q1 &&& (9223372036854775807 : Int64)) - ((q1 &&& (9223372036854775807 : Int64)) / ((9223372036854775807 : Int64) - (9223372036854775 : Int64))) * ((9223372036854775807 : Int64) - (9223372036854775 : Int64))))), .second]) rfl ?_
            show Steps p.tables e below (T0.setTop (mkF m 239 #[.val (.long q1), .second, .val (.long q2), .second, .val (.long q3), .second, .val (.int p4), .val (.int ((p4 &&& (2147483647 : Int32)) % (5 : Int32))), .val (.long (q1 &&& (9223372036854775807 : Int64))), .second, .val (.long (9223372036854775 : Int64)), .second, .val (.long (((9223372036854775 : Int64) + (1 : Int64)) + ((q1 &&& (9223372036854775807 : Int64)) - ((q1 &&& (9223372036854775807 : Int64)) / ((9223372036854775807 : Int64) - (9223372036854775 : Int64))) * ((9223372036854775807 : Int64) - (9223372036854775 : Int64))))), .second] [])) t
            refine XS.lload X0.here hx rfl (hb hby at_239) rfl ?_
            show Steps p.tables e below (T0.setTop (mkF m 241 #[.val (.long q1), .second, .val (.long q2), .second, .val (.long q3), .second, .val (.int p4), .val (.int ((p4 &&& (2147483647 : Int32)) % (5 : Int32))), .val (.long (q1 &&& (9223372036854775807 : Int64))), .second, .val (.long (9223372036854775 : Int64)), .second, .val (.long (((9223372036854775 : Int64) + (1 : Int64)) + ((q1 &&& (9223372036854775807 : Int64)) - ((q1 &&& (9223372036854775807 : Int64)) / ((9223372036854775807 : Int64) - (9223372036854775 : Int64))) * ((9223372036854775807 : Int64) - (9223372036854775 : Int64))))), .second] [(.long (((9223372036854775 : Int64) + (1 : Int64)) + ((q1 &&& (9223372036854775807 : Int64)) - ((q1 &&& (9223372036854775807 : Int64)) / ((9223372036854775807 : Int64) - (9223372036854775 : Int64))) * ((9223372036854775807 : Int64) - (9223372036854775 : Int64)))))])) t
            refine XS.lloadN X0.here hx rfl (hb hby at_241) rfl ?_
            exact k
          obtain ⟨_, _, ⟨T21, L21, k21, n21⟩, -, X21, ⟨Lc21, hQ21, l21, y21, z21⟩, st21⟩ := Jvm.LawKit.callS X0 hx (y := (⟨"com/example/noreply/noreply/engine/Expiration", "deadlineMillis", "(JJ)J"⟩ : MethodName)) hown (mvT hZ (hw _ (List.mem_of_getElem? (i := 4) rfl))) (mvT hZ (hw _ (List.mem_of_getElem? (i := 5) rfl))) (mvT hZ (hw _ (List.mem_of_getElem? (i := 6) rfl))) (mvT hZ (hw _ (List.mem_of_getElem? (i := 7) rfl))) (by decide) (backOf (W := 0) (rm1 l Z a0 hw [] (((9223372036854775 : Int64) + (1 : Int64)) + ((q1 &&& (9223372036854775807 : Int64)) - ((q1 &&& (9223372036854775807 : Int64)) / ((9223372036854775807 : Int64) - (9223372036854775 : Int64))) * ((9223372036854775807 : Int64) - (9223372036854775 : Int64)))) q2 h0 n0) hZ (hw _ (List.mem_of_getElem? (i := 7) rfl)) (hw _ (List.mem_of_getElem? (i := 6) rfl)) (by decide) (by decide)) (g := (mkF m 242 #[.val (.long q1), .second, .val (.long q2), .second, .val (.long q3), .second, .val (.int p4), .val (.int ((p4 &&& (2147483647 : Int32)) % (5 : Int32))), .val (.long (q1 &&& (9223372036854775807 : Int64))), .second, .val (.long (9223372036854775 : Int64)), .second, .val (.long (((9223372036854775 : Int64) + (1 : Int64)) + ((q1 &&& (9223372036854775807 : Int64)) - ((q1 &&& (9223372036854775807 : Int64)) / ((9223372036854775807 : Int64) - (9223372036854775 : Int64))) * ((9223372036854775807 : Int64) - (9223372036854775 : Int64))))), .second] [(.long q2), (.long (((9223372036854775 : Int64) + (1 : Int64)) + ((q1 &&& (9223372036854775807 : Int64)) - ((q1 &&& (9223372036854775807 : Int64)) / ((9223372036854775807 : Int64) - (9223372036854775 : Int64))) * ((9223372036854775807 : Int64) - (9223372036854775 : Int64)))))])) rfl (by rw [hml]; rfl) (argsL := [(.long (((9223372036854775 : Int64) + (1 : Int64)) + ((q1 &&& (9223372036854775807 : Int64)) - ((q1 &&& (9223372036854775807 : Int64)) / ((9223372036854775807 : Int64) - (9223372036854775 : Int64))) * ((9223372036854775807 : Int64) - (9223372036854775 : Int64))))), (.long q2)]) (rest := []) (lenOf pd_0 rfl) rfl (by show 2 * 0 + _ ≤ _; exact Nat.le_of_eq rfl) (hb hby at_242) (fun _ _ => ⟨rfl, e0, (by decide : 0 + 0 ≤ _), (by decide : 0 + 0 ≤ _)⟩)
          dsimp only [Pt.U, Pt.locs, Pt.cells, Pt.slots] at X21 l21 y21 z21 st21 hQ21
          subst l21 y21 z21
          obtain ⟨rfl, N21q, e21⟩ := hQ21
          have N21 := Fr.app N0 N21q
          replace X21 : Stand p l e room_1 s m args below meth c T21 _ 0 0 := X21
          refine Done.of (g' := (mkF m 245 #[.val (.long q1), .second, .val (.long q2), .second, .val (.long q3), .second, .val (.int p4), .val (.int ((p4 &&& (2147483647 : Int32)) % (5 : Int32))), .val (.long (q1 &&& (9223372036854775807 : Int64))), .second, .val (.long (9223372036854775 : Int64)), .second, .val (.long (((9223372036854775 : Int64) + (1 : Int64)) + ((q1 &&& (9223372036854775807 : Int64)) - ((q1 &&& (9223372036854775807 : Int64)) / ((9223372036854775807 : Int64) - (9223372036854775 : Int64))) * ((9223372036854775807 : Int64) - (9223372036854775 : Int64))))), .second] [(.long (F1_0 (((9223372036854775 : Int64) + (1 : Int64)) + ((q1 &&& (9223372036854775807 : Int64)) - ((q1 &&& (9223372036854775807 : Int64)) / ((9223372036854775807 : Int64) - (9223372036854775 : Int64))) * ((9223372036854775807 : Int64) - (9223372036854775 : Int64)))) q2))])) st21 ?_
          refine Done.of (T' := T21) (g' := (mkF m 249 #[.val (.long q1), .second, .val (.long q2), .second, .val (.long q3), .second, .val (.int p4), .val (.int ((p4 &&& (2147483647 : Int32)) % (5 : Int32))), .val (.long (q1 &&& (9223372036854775807 : Int64))), .second, .val (.long (9223372036854775 : Int64)), .second, .val (.long (((9223372036854775 : Int64) + (1 : Int64)) + ((q1 &&& (9223372036854775807 : Int64)) - ((q1 &&& (9223372036854775807 : Int64)) / ((9223372036854775807 : Int64) - (9223372036854775 : Int64))) * ((9223372036854775807 : Int64) - (9223372036854775 : Int64))))), .second] [(.int (lcmpW (F1_0 (((9223372036854775 : Int64) + (1 : Int64)) + ((q1 &&& (9223372036854775807 : Int64)) - ((q1 &&& (9223372036854775807 : Int64)) / ((9223372036854775807 : Int64) - (9223372036854775 : Int64))) * ((9223372036854775807 : Int64) - (9223372036854775 : Int64)))) q2) (9223372036854775807 : Int64)))])) (fun t k => ?_) ?_
          · show Steps p.tables e below (T21.setTop (mkF m 245 #[.val (.long q1), .second, .val (.long q2), .second, .val (.long q3), .second, .val (.int p4), .val (.int ((p4 &&& (2147483647 : Int32)) % (5 : Int32))), .val (.long (q1 &&& (9223372036854775807 : Int64))), .second, .val (.long (9223372036854775 : Int64)), .second, .val (.long (((9223372036854775 : Int64) + (1 : Int64)) + ((q1 &&& (9223372036854775807 : Int64)) - ((q1 &&& (9223372036854775807 : Int64)) / ((9223372036854775807 : Int64) - (9223372036854775 : Int64))) * ((9223372036854775807 : Int64) - (9223372036854775 : Int64))))), .second] [(.long (F1_0 (((9223372036854775 : Int64) + (1 : Int64)) + ((q1 &&& (9223372036854775807 : Int64)) - ((q1 &&& (9223372036854775807 : Int64)) / ((9223372036854775807 : Int64) - (9223372036854775 : Int64))) * ((9223372036854775807 : Int64) - (9223372036854775 : Int64)))) q2))])) t
            refine X21.ldc2Long hx hown (mvT hZ (hw _ (List.mem_of_getElem? (i := 1) rfl))) (g := (mkF m 245 #[.val (.long q1), .second, .val (.long q2), .second, .val (.long q3), .second, .val (.int p4), .val (.int ((p4 &&& (2147483647 : Int32)) % (5 : Int32))), .val (.long (q1 &&& (9223372036854775807 : Int64))), .second, .val (.long (9223372036854775 : Int64)), .second, .val (.long (((9223372036854775 : Int64) + (1 : Int64)) + ((q1 &&& (9223372036854775807 : Int64)) - ((q1 &&& (9223372036854775807 : Int64)) / ((9223372036854775807 : Int64) - (9223372036854775 : Int64))) * ((9223372036854775807 : Int64) - (9223372036854775 : Int64))))), .second] [(.long (F1_0 (((9223372036854775 : Int64) + (1 : Int64)) + ((q1 &&& (9223372036854775807 : Int64)) - ((q1 &&& (9223372036854775807 : Int64)) / ((9223372036854775807 : Int64) - (9223372036854775 : Int64))) * ((9223372036854775807 : Int64) - (9223372036854775 : Int64)))) q2))])) rfl (hb hby at_245) _ ?_
            show Steps p.tables e below (T21.setTop (mkF m 248 #[.val (.long q1), .second, .val (.long q2), .second, .val (.long q3), .second, .val (.int p4), .val (.int ((p4 &&& (2147483647 : Int32)) % (5 : Int32))), .val (.long (q1 &&& (9223372036854775807 : Int64))), .second, .val (.long (9223372036854775 : Int64)), .second, .val (.long (((9223372036854775 : Int64) + (1 : Int64)) + ((q1 &&& (9223372036854775807 : Int64)) - ((q1 &&& (9223372036854775807 : Int64)) / ((9223372036854775807 : Int64) - (9223372036854775 : Int64))) * ((9223372036854775807 : Int64) - (9223372036854775 : Int64))))), .second] [(.long (9223372036854775807 : Int64)), (.long (F1_0 (((9223372036854775 : Int64) + (1 : Int64)) + ((q1 &&& (9223372036854775807 : Int64)) - ((q1 &&& (9223372036854775807 : Int64)) / ((9223372036854775807 : Int64) - (9223372036854775 : Int64))) * ((9223372036854775807 : Int64) - (9223372036854775 : Int64)))) q2))])) t
            refine XS.lcmp X21.here hx rfl (hb hby at_248) rfl ?_
            exact k
          by_cases hc249_21 : (F1_0 (((9223372036854775 : Int64) + (1 : Int64)) + ((q1 &&& (9223372036854775807 : Int64)) - ((q1 &&& (9223372036854775807 : Int64)) / ((9223372036854775807 : Int64) - (9223372036854775 : Int64))) * ((9223372036854775807 : Int64) - (9223372036854775 : Int64)))) q2) = (9223372036854775807 : Int64)
          · rw [if_pos hc249_21]
            refine Done.of (T' := T21) (g' := (mkF m 256 #[.val (.long q1), .second, .val (.long q2), .second, .val (.long q3), .second, .val (.int p4), .val (.int ((p4 &&& (2147483647 : Int32)) % (5 : Int32))), .val (.long (q1 &&& (9223372036854775807 : Int64))), .second, .val (.long (9223372036854775 : Int64)), .second, .val (.long (((9223372036854775 : Int64) + (1 : Int64)) + ((q1 &&& (9223372036854775807 : Int64)) - ((q1 &&& (9223372036854775807 : Int64)) / ((9223372036854775807 : Int64) - (9223372036854775 : Int64))) * ((9223372036854775807 : Int64) - (9223372036854775 : Int64))))), .second] [(.long q3), (.long (((9223372036854775 : Int64) + (1 : Int64)) + ((q1 &&& (9223372036854775807 : Int64)) - ((q1 &&& (9223372036854775807 : Int64)) / ((9223372036854775807 : Int64) - (9223372036854775 : Int64))) * ((9223372036854775807 : Int64) - (9223372036854775 : Int64)))))])) (fun t k => ?_) ?_
            · show Steps p.tables e below (T21.setTop (mkF m 249 #[.val (.long q1), .second, .val (.long q2), .second, .val (.long q3), .second, .val (.int p4), .val (.int ((p4 &&& (2147483647 : Int32)) % (5 : Int32))), .val (.long (q1 &&& (9223372036854775807 : Int64))), .second, .val (.long (9223372036854775 : Int64)), .second, .val (.long (((9223372036854775 : Int64) + (1 : Int64)) + ((q1 &&& (9223372036854775807 : Int64)) - ((q1 &&& (9223372036854775807 : Int64)) / ((9223372036854775807 : Int64) - (9223372036854775 : Int64))) * ((9223372036854775807 : Int64) - (9223372036854775 : Int64))))), .second] [(.int (lcmpW (F1_0 (((9223372036854775 : Int64) + (1 : Int64)) + ((q1 &&& (9223372036854775807 : Int64)) - ((q1 &&& (9223372036854775807 : Int64)) / ((9223372036854775807 : Int64) - (9223372036854775 : Int64))) * ((9223372036854775807 : Int64) - (9223372036854775 : Int64)))) q2) (9223372036854775807 : Int64)))])) t
              refine XS.ifNo X21.here hx rfl (hb hby at_249) rfl (lcEq_t hc249_21).2 ?_
              show Steps p.tables e below (T21.setTop (mkF m 252 #[.val (.long q1), .second, .val (.long q2), .second, .val (.long q3), .second, .val (.int p4), .val (.int ((p4 &&& (2147483647 : Int32)) % (5 : Int32))), .val (.long (q1 &&& (9223372036854775807 : Int64))), .second, .val (.long (9223372036854775 : Int64)), .second, .val (.long (((9223372036854775 : Int64) + (1 : Int64)) + ((q1 &&& (9223372036854775807 : Int64)) - ((q1 &&& (9223372036854775807 : Int64)) / ((9223372036854775807 : Int64) - (9223372036854775 : Int64))) * ((9223372036854775807 : Int64) - (9223372036854775 : Int64))))), .second] [])) t
              refine XS.lload X21.here hx rfl (hb hby at_252) rfl ?_
              show Steps p.tables e below (T21.setTop (mkF m 254 #[.val (.long q1), .second, .val (.long q2), .second, .val (.long q3), .second, .val (.int p4), .val (.int ((p4 &&& (2147483647 : Int32)) % (5 : Int32))), .val (.long (q1 &&& (9223372036854775807 : Int64))), .second, .val (.long (9223372036854775 : Int64)), .second, .val (.long (((9223372036854775 : Int64) + (1 : Int64)) + ((q1 &&& (9223372036854775807 : Int64)) - ((q1 &&& (9223372036854775807 : Int64)) / ((9223372036854775807 : Int64) - (9223372036854775 : Int64))) * ((9223372036854775807 : Int64) - (9223372036854775 : Int64))))), .second] [(.long (((9223372036854775 : Int64) + (1 : Int64)) + ((q1 &&& (9223372036854775807 : Int64)) - ((q1 &&& (9223372036854775807 : Int64)) / ((9223372036854775807 : Int64) - (9223372036854775 : Int64))) * ((9223372036854775807 : Int64) - (9223372036854775 : Int64)))))])) t
              refine XS.lload X21.here hx rfl (hb hby at_254) rfl ?_
              exact k
            obtain ⟨_, _, ⟨T23, L23, k23, n23⟩, -, X23, ⟨Lc23, hQ23, l23, y23, z23⟩, st23⟩ := Jvm.LawKit.callS X21 hx (y := (⟨"com/example/noreply/noreply/engine/Expiration", "deadlineMillis", "(JJ)J"⟩ : MethodName)) hown (mvT hZ (hw _ (List.mem_of_getElem? (i := 4) rfl))) (mvT hZ (hw _ (List.mem_of_getElem? (i := 5) rfl))) (mvT hZ (hw _ (List.mem_of_getElem? (i := 6) rfl))) (mvT hZ (hw _ (List.mem_of_getElem? (i := 7) rfl))) (by decide) (backOf (W := 0) (rm1 l Z a0 hw [] (((9223372036854775 : Int64) + (1 : Int64)) + ((q1 &&& (9223372036854775807 : Int64)) - ((q1 &&& (9223372036854775807 : Int64)) / ((9223372036854775807 : Int64) - (9223372036854775 : Int64))) * ((9223372036854775807 : Int64) - (9223372036854775 : Int64)))) q3 h0 n0) hZ (hw _ (List.mem_of_getElem? (i := 7) rfl)) (hw _ (List.mem_of_getElem? (i := 6) rfl)) (by decide) (by decide)) (g := (mkF m 256 #[.val (.long q1), .second, .val (.long q2), .second, .val (.long q3), .second, .val (.int p4), .val (.int ((p4 &&& (2147483647 : Int32)) % (5 : Int32))), .val (.long (q1 &&& (9223372036854775807 : Int64))), .second, .val (.long (9223372036854775 : Int64)), .second, .val (.long (((9223372036854775 : Int64) + (1 : Int64)) + ((q1 &&& (9223372036854775807 : Int64)) - ((q1 &&& (9223372036854775807 : Int64)) / ((9223372036854775807 : Int64) - (9223372036854775 : Int64))) * ((9223372036854775807 : Int64) - (9223372036854775 : Int64))))), .second] [(.long q3), (.long (((9223372036854775 : Int64) + (1 : Int64)) + ((q1 &&& (9223372036854775807 : Int64)) - ((q1 &&& (9223372036854775807 : Int64)) / ((9223372036854775807 : Int64) - (9223372036854775 : Int64))) * ((9223372036854775807 : Int64) - (9223372036854775 : Int64)))))])) rfl (by rw [hml]; rfl) (argsL := [(.long (((9223372036854775 : Int64) + (1 : Int64)) + ((q1 &&& (9223372036854775807 : Int64)) - ((q1 &&& (9223372036854775807 : Int64)) / ((9223372036854775807 : Int64) - (9223372036854775 : Int64))) * ((9223372036854775807 : Int64) - (9223372036854775 : Int64))))), (.long q3)]) (rest := []) (lenOf pd_0 rfl) rfl (by show 2 * 0 + _ ≤ _; exact Nat.le_of_eq rfl) (hb hby at_256) (fun _ _ => ⟨rfl, e21, (by decide : 0 + 0 ≤ _), (by decide : 0 + 0 ≤ _)⟩)
            dsimp only [Pt.U, Pt.locs, Pt.cells, Pt.slots] at X23 l23 y23 z23 st23 hQ23
            subst l23 y23 z23
            obtain ⟨rfl, N23q, e23⟩ := hQ23
            have N23 := Fr.app N21 N23q
            replace X23 : Stand p l e room_1 s m args below meth c T23 _ 0 0 := X23
            refine Done.of (g' := (mkF m 259 #[.val (.long q1), .second, .val (.long q2), .second, .val (.long q3), .second, .val (.int p4), .val (.int ((p4 &&& (2147483647 : Int32)) % (5 : Int32))), .val (.long (q1 &&& (9223372036854775807 : Int64))), .second, .val (.long (9223372036854775 : Int64)), .second, .val (.long (((9223372036854775 : Int64) + (1 : Int64)) + ((q1 &&& (9223372036854775807 : Int64)) - ((q1 &&& (9223372036854775807 : Int64)) / ((9223372036854775807 : Int64) - (9223372036854775 : Int64))) * ((9223372036854775807 : Int64) - (9223372036854775 : Int64))))), .second] [(.long (F1_0 (((9223372036854775 : Int64) + (1 : Int64)) + ((q1 &&& (9223372036854775807 : Int64)) - ((q1 &&& (9223372036854775807 : Int64)) / ((9223372036854775807 : Int64) - (9223372036854775 : Int64))) * ((9223372036854775807 : Int64) - (9223372036854775 : Int64)))) q3))])) st23 ?_
            refine Done.of (T' := T23) (g' := (mkF m 263 #[.val (.long q1), .second, .val (.long q2), .second, .val (.long q3), .second, .val (.int p4), .val (.int ((p4 &&& (2147483647 : Int32)) % (5 : Int32))), .val (.long (q1 &&& (9223372036854775807 : Int64))), .second, .val (.long (9223372036854775 : Int64)), .second, .val (.long (((9223372036854775 : Int64) + (1 : Int64)) + ((q1 &&& (9223372036854775807 : Int64)) - ((q1 &&& (9223372036854775807 : Int64)) / ((9223372036854775807 : Int64) - (9223372036854775 : Int64))) * ((9223372036854775807 : Int64) - (9223372036854775 : Int64))))), .second] [(.int (lcmpW (F1_0 (((9223372036854775 : Int64) + (1 : Int64)) + ((q1 &&& (9223372036854775807 : Int64)) - ((q1 &&& (9223372036854775807 : Int64)) / ((9223372036854775807 : Int64) - (9223372036854775 : Int64))) * ((9223372036854775807 : Int64) - (9223372036854775 : Int64)))) q3) (9223372036854775807 : Int64)))])) (fun t k => ?_) ?_
            · show Steps p.tables e below (T23.setTop (mkF m 259 #[.val (.long q1), .second, .val (.long q2), .second, .val (.long q3), .second, .val (.int p4), .val (.int ((p4 &&& (2147483647 : Int32)) % (5 : Int32))), .val (.long (q1 &&& (9223372036854775807 : Int64))), .second, .val (.long (9223372036854775 : Int64)), .second, .val (.long (((9223372036854775 : Int64) + (1 : Int64)) + ((q1 &&& (9223372036854775807 : Int64)) - ((q1 &&& (9223372036854775807 : Int64)) / ((9223372036854775807 : Int64) - (9223372036854775 : Int64))) * ((9223372036854775807 : Int64) - (9223372036854775 : Int64))))), .second] [(.long (F1_0 (((9223372036854775 : Int64) + (1 : Int64)) + ((q1 &&& (9223372036854775807 : Int64)) - ((q1 &&& (9223372036854775807 : Int64)) / ((9223372036854775807 : Int64) - (9223372036854775 : Int64))) * ((9223372036854775807 : Int64) - (9223372036854775 : Int64)))) q3))])) t
              refine X23.ldc2Long hx hown (mvT hZ (hw _ (List.mem_of_getElem? (i := 1) rfl))) (g := (mkF m 259 #[.val (.long q1), .second, .val (.long q2), .second, .val (.long q3), .second, .val (.int p4), .val (.int ((p4 &&& (2147483647 : Int32)) % (5 : Int32))), .val (.long (q1 &&& (9223372036854775807 : Int64))), .second, .val (.long (9223372036854775 : Int64)), .second, .val (.long (((9223372036854775 : Int64) + (1 : Int64)) + ((q1 &&& (9223372036854775807 : Int64)) - ((q1 &&& (9223372036854775807 : Int64)) / ((9223372036854775807 : Int64) - (9223372036854775 : Int64))) * ((9223372036854775807 : Int64) - (9223372036854775 : Int64))))), .second] [(.long (F1_0 (((9223372036854775 : Int64) + (1 : Int64)) + ((q1 &&& (9223372036854775807 : Int64)) - ((q1 &&& (9223372036854775807 : Int64)) / ((9223372036854775807 : Int64) - (9223372036854775 : Int64))) * ((9223372036854775807 : Int64) - (9223372036854775 : Int64)))) q3))])) rfl (hb hby at_259) _ ?_
              show Steps p.tables e below (T23.setTop (mkF m 262 #[.val (.long q1), .second, .val (.long q2), .second, .val (.long q3), .second, .val (.int p4), .val (.int ((p4 &&& (2147483647 : Int32)) % (5 : Int32))), .val (.long (q1 &&& (9223372036854775807 : Int64))), .second, .val (.long (9223372036854775 : Int64)), .second, .val (.long (((9223372036854775 : Int64) + (1 : Int64)) + ((q1 &&& (9223372036854775807 : Int64)) - ((q1 &&& (9223372036854775807 : Int64)) / ((9223372036854775807 : Int64) - (9223372036854775 : Int64))) * ((9223372036854775807 : Int64) - (9223372036854775 : Int64))))), .second] [(.long (9223372036854775807 : Int64)), (.long (F1_0 (((9223372036854775 : Int64) + (1 : Int64)) + ((q1 &&& (9223372036854775807 : Int64)) - ((q1 &&& (9223372036854775807 : Int64)) / ((9223372036854775807 : Int64) - (9223372036854775 : Int64))) * ((9223372036854775807 : Int64) - (9223372036854775 : Int64)))) q3))])) t
              refine XS.lcmp X23.here hx rfl (hb hby at_262) rfl ?_
              exact k
            by_cases hc263_23 : (F1_0 (((9223372036854775 : Int64) + (1 : Int64)) + ((q1 &&& (9223372036854775807 : Int64)) - ((q1 &&& (9223372036854775807 : Int64)) / ((9223372036854775807 : Int64) - (9223372036854775 : Int64))) * ((9223372036854775807 : Int64) - (9223372036854775 : Int64)))) q3) = (9223372036854775807 : Int64)
            · rw [if_pos hc263_23]
              refine Done.of (T' := T23) (g' := (mkF m 271 #[.val (.long q1), .second, .val (.long q2), .second, .val (.long q3), .second, .val (.int p4), .val (.int ((p4 &&& (2147483647 : Int32)) % (5 : Int32))), .val (.long (q1 &&& (9223372036854775807 : Int64))), .second, .val (.long (9223372036854775 : Int64)), .second, .val (.long (((9223372036854775 : Int64) + (1 : Int64)) + ((q1 &&& (9223372036854775807 : Int64)) - ((q1 &&& (9223372036854775807 : Int64)) / ((9223372036854775807 : Int64) - (9223372036854775 : Int64))) * ((9223372036854775807 : Int64) - (9223372036854775 : Int64))))), .second] [(.int (1 : Int32))])) (fun t k => ?_) ?_
              · show Steps p.tables e below (T23.setTop (mkF m 263 #[.val (.long q1), .second, .val (.long q2), .second, .val (.long q3), .second, .val (.int p4), .val (.int ((p4 &&& (2147483647 : Int32)) % (5 : Int32))), .val (.long (q1 &&& (9223372036854775807 : Int64))), .second, .val (.long (9223372036854775 : Int64)), .second, .val (.long (((9223372036854775 : Int64) + (1 : Int64)) + ((q1 &&& (9223372036854775807 : Int64)) - ((q1 &&& (9223372036854775807 : Int64)) / ((9223372036854775807 : Int64) - (9223372036854775 : Int64))) * ((9223372036854775807 : Int64) - (9223372036854775 : Int64))))), .second] [(.int (lcmpW (F1_0 (((9223372036854775 : Int64) + (1 : Int64)) + ((q1 &&& (9223372036854775807 : Int64)) - ((q1 &&& (9223372036854775807 : Int64)) / ((9223372036854775807 : Int64) - (9223372036854775 : Int64))) * ((9223372036854775807 : Int64) - (9223372036854775 : Int64)))) q3) (9223372036854775807 : Int64)))])) t
                refine XS.ifNo X23.here hx rfl (hb hby at_263) rfl (lcEq_t hc263_23).2 ?_
                show Steps p.tables e below (T23.setTop (mkF m 266 #[.val (.long q1), .second, .val (.long q2), .second, .val (.long q3), .second, .val (.int p4), .val (.int ((p4 &&& (2147483647 : Int32)) % (5 : Int32))), .val (.long (q1 &&& (9223372036854775807 : Int64))), .second, .val (.long (9223372036854775 : Int64)), .second, .val (.long (((9223372036854775 : Int64) + (1 : Int64)) + ((q1 &&& (9223372036854775807 : Int64)) - ((q1 &&& (9223372036854775807 : Int64)) / ((9223372036854775807 : Int64) - (9223372036854775 : Int64))) * ((9223372036854775807 : Int64) - (9223372036854775 : Int64))))), .second] [])) t
                refine XS.iconst X23.here hx rfl (hb hby at_266) ?_
                show Steps p.tables e below (T23.setTop (mkF m 267 #[.val (.long q1), .second, .val (.long q2), .second, .val (.long q3), .second, .val (.int p4), .val (.int ((p4 &&& (2147483647 : Int32)) % (5 : Int32))), .val (.long (q1 &&& (9223372036854775807 : Int64))), .second, .val (.long (9223372036854775 : Int64)), .second, .val (.long (((9223372036854775 : Int64) + (1 : Int64)) + ((q1 &&& (9223372036854775807 : Int64)) - ((q1 &&& (9223372036854775807 : Int64)) / ((9223372036854775807 : Int64) - (9223372036854775 : Int64))) * ((9223372036854775807 : Int64) - (9223372036854775 : Int64))))), .second] [(.int (1 : Int32))])) t
                refine XS.goto X23.here hx rfl (pc0 := 267) (pc' := 271) rfl (hb hby at_267) (by decide) (by decide) ?_
                exact k
              exact doneN (t := .boolean) X23 (by simp) hx hret hlk (hb hby at_271) ⟨rfl, N23⟩ (by decide) (by decide)
            · rw [if_neg hc263_23]
              refine Done.of (T' := T23) (g' := (mkF m 271 #[.val (.long q1), .second, .val (.long q2), .second, .val (.long q3), .second, .val (.int p4), .val (.int ((p4 &&& (2147483647 : Int32)) % (5 : Int32))), .val (.long (q1 &&& (9223372036854775807 : Int64))), .second, .val (.long (9223372036854775 : Int64)), .second, .val (.long (((9223372036854775 : Int64) + (1 : Int64)) + ((q1 &&& (9223372036854775807 : Int64)) - ((q1 &&& (9223372036854775807 : Int64)) / ((9223372036854775807 : Int64) - (9223372036854775 : Int64))) * ((9223372036854775807 : Int64) - (9223372036854775 : Int64))))), .second] [(.int (0 : Int32))])) (fun t k => ?_) ?_
              · show Steps p.tables e below (T23.setTop (mkF m 263 #[.val (.long q1), .second, .val (.long q2), .second, .val (.long q3), .second, .val (.int p4), .val (.int ((p4 &&& (2147483647 : Int32)) % (5 : Int32))), .val (.long (q1 &&& (9223372036854775807 : Int64))), .second, .val (.long (9223372036854775 : Int64)), .second, .val (.long (((9223372036854775 : Int64) + (1 : Int64)) + ((q1 &&& (9223372036854775807 : Int64)) - ((q1 &&& (9223372036854775807 : Int64)) / ((9223372036854775807 : Int64) - (9223372036854775 : Int64))) * ((9223372036854775807 : Int64) - (9223372036854775 : Int64))))), .second] [(.int (lcmpW (F1_0 (((9223372036854775 : Int64) + (1 : Int64)) + ((q1 &&& (9223372036854775807 : Int64)) - ((q1 &&& (9223372036854775807 : Int64)) / ((9223372036854775807 : Int64) - (9223372036854775 : Int64))) * ((9223372036854775807 : Int64) - (9223372036854775 : Int64)))) q3) (9223372036854775807 : Int64)))])) t
                refine XS.ifYes X23.here hx rfl (pc0 := 263) (pc' := 270) rfl (hb hby at_263) rfl (lcEq_f hc263_23).2 (by decide) (by decide) ?_
                show Steps p.tables e below (T23.setTop (mkF m 270 #[.val (.long q1), .second, .val (.long q2), .second, .val (.long q3), .second, .val (.int p4), .val (.int ((p4 &&& (2147483647 : Int32)) % (5 : Int32))), .val (.long (q1 &&& (9223372036854775807 : Int64))), .second, .val (.long (9223372036854775 : Int64)), .second, .val (.long (((9223372036854775 : Int64) + (1 : Int64)) + ((q1 &&& (9223372036854775807 : Int64)) - ((q1 &&& (9223372036854775807 : Int64)) / ((9223372036854775807 : Int64) - (9223372036854775 : Int64))) * ((9223372036854775807 : Int64) - (9223372036854775 : Int64))))), .second] [])) t
                refine XS.iconst X23.here hx rfl (hb hby at_270) ?_
                exact k
              exact doneN (t := .boolean) X23 (by simp) hx hret hlk (hb hby at_271) ⟨rfl, N23⟩ (by decide) (by decide)
          · rw [if_neg hc249_21]
            refine Done.of (T' := T21) (g' := (mkF m 271 #[.val (.long q1), .second, .val (.long q2), .second, .val (.long q3), .second, .val (.int p4), .val (.int ((p4 &&& (2147483647 : Int32)) % (5 : Int32))), .val (.long (q1 &&& (9223372036854775807 : Int64))), .second, .val (.long (9223372036854775 : Int64)), .second, .val (.long (((9223372036854775 : Int64) + (1 : Int64)) + ((q1 &&& (9223372036854775807 : Int64)) - ((q1 &&& (9223372036854775807 : Int64)) / ((9223372036854775807 : Int64) - (9223372036854775 : Int64))) * ((9223372036854775807 : Int64) - (9223372036854775 : Int64))))), .second] [(.int (0 : Int32))])) (fun t k => ?_) ?_
            · show Steps p.tables e below (T21.setTop (mkF m 249 #[.val (.long q1), .second, .val (.long q2), .second, .val (.long q3), .second, .val (.int p4), .val (.int ((p4 &&& (2147483647 : Int32)) % (5 : Int32))), .val (.long (q1 &&& (9223372036854775807 : Int64))), .second, .val (.long (9223372036854775 : Int64)), .second, .val (.long (((9223372036854775 : Int64) + (1 : Int64)) + ((q1 &&& (9223372036854775807 : Int64)) - ((q1 &&& (9223372036854775807 : Int64)) / ((9223372036854775807 : Int64) - (9223372036854775 : Int64))) * ((9223372036854775807 : Int64) - (9223372036854775 : Int64))))), .second] [(.int (lcmpW (F1_0 (((9223372036854775 : Int64) + (1 : Int64)) + ((q1 &&& (9223372036854775807 : Int64)) - ((q1 &&& (9223372036854775807 : Int64)) / ((9223372036854775807 : Int64) - (9223372036854775 : Int64))) * ((9223372036854775807 : Int64) - (9223372036854775 : Int64)))) q2) (9223372036854775807 : Int64)))])) t
              refine XS.ifYes X21.here hx rfl (pc0 := 249) (pc' := 270) rfl (hb hby at_249) rfl (lcEq_f hc249_21).2 (by decide) (by decide) ?_
              show Steps p.tables e below (T21.setTop (mkF m 270 #[.val (.long q1), .second, .val (.long q2), .second, .val (.long q3), .second, .val (.int p4), .val (.int ((p4 &&& (2147483647 : Int32)) % (5 : Int32))), .val (.long (q1 &&& (9223372036854775807 : Int64))), .second, .val (.long (9223372036854775 : Int64)), .second, .val (.long (((9223372036854775 : Int64) + (1 : Int64)) + ((q1 &&& (9223372036854775807 : Int64)) - ((q1 &&& (9223372036854775807 : Int64)) / ((9223372036854775807 : Int64) - (9223372036854775 : Int64))) * ((9223372036854775807 : Int64) - (9223372036854775 : Int64))))), .second] [])) t
              refine XS.iconst X21.here hx rfl (hb hby at_270) ?_
              exact k
            exact doneN (t := .boolean) X21 (by simp) hx hret hlk (hb hby at_271) ⟨rfl, N21⟩ (by decide) (by decide)
theorem own_l0 : (0 : Int64).toInt = 0 := rfl
theorem own_l1 : (2592000 : Int64).toInt = 2592000 := rfl
theorem own_l2 : (9223372036854775 : Int64).toInt = 9223372036854775 := rfl
theorem own_a (e x : Int64) (h1 : 0 < e.toInt) (h2 : e.toInt ≤ 2592000) : F1_0 e x = x + e * 1000 := by
  unfold F1_0
  rw [if_neg (by rw [← Int64.toInt_inj, own_l0]; omega), if_neg (by rw [Int64.lt_iff_toInt_lt, own_l0]; omega), if_neg (by rw [Int64.lt_iff_toInt_lt, own_l1]; omega)]
theorem own_b (e x : Int64) (h1 : 2592000 < e.toInt) (h2 : e.toInt ≤ 9223372036854775) : F1_0 e x = e * 1000 := by
  unfold F1_0
  rw [if_neg (by rw [← Int64.toInt_inj, own_l0]; omega), if_neg (by rw [Int64.lt_iff_toInt_lt, own_l0]; omega), if_pos (by rw [Int64.lt_iff_toInt_lt, own_l1]; omega), if_neg (by rw [Int64.lt_iff_toInt_lt, own_l2]; omega)]
theorem own_c (e x : Int64) (h : 9223372036854775 < e.toInt) : F1_0 e x = 9223372036854775807 := by
  unfold F1_0
  rw [if_neg (by rw [← Int64.toInt_inj, own_l0]; omega), if_neg (by rw [Int64.lt_iff_toInt_lt, own_l0]; omega), if_pos (by rw [Int64.lt_iff_toInt_lt, own_l1]; omega), if_pos (by rw [Int64.lt_iff_toInt_lt, own_l2]; omega)]
theorem own_d (e x : Int64) (h : e.toInt < 0) : F1_0 e x = -9223372036854775808 := by
  unfold F1_0
  rw [if_neg (by rw [← Int64.toInt_inj, own_l0]; omega), if_pos (by rw [Int64.lt_iff_toInt_lt, own_l0]; omega)]
theorem own_law (q1 q2 q3 : Int64) (p4 : Int32) : F0_0 q1 q2 q3 p4 = 1 := by
  have hm := c_maskL q1 9223372036854775807 63 (by decide) (by decide)
  have ho := (c_orSL q1 (-9223372036854775808)).2.2 (by decide)
  unfold F0_0
  generalize (q1 ||| (-9223372036854775808 : Int64)) = neg at *
  generalize (q1 &&& (9223372036854775807 : Int64)) = m at *
  have h0 : 0 ≤ m.toInt := by omega
  have r2 := (c_lrem m 2592000 2592000 rfl).1 h0
  have r3 := (c_lrem m ((9223372036854775 : Int64) - (2592000 : Int64)) 9223372034262775 (by decide)).1 h0
  have r4 := (c_lrem m ((9223372036854775807 : Int64) - (9223372036854775 : Int64)) 9214148664817921032 (by decide)).1 h0
  generalize hx2 : (m - (m / (2592000 : Int64)) * (2592000 : Int64)) = x2 at *
  generalize hx3 : (m - (m / ((9223372036854775 : Int64) - (2592000 : Int64))) * ((9223372036854775 : Int64) - (2592000 : Int64))) = x3 at *
  generalize hx4 : (m - (m / ((9223372036854775807 : Int64) - (9223372036854775 : Int64))) * ((9223372036854775807 : Int64) - (9223372036854775 : Int64))) = x4 at *
  have a2 := c_ladd 1 x2
  have a3 := c_ladd 2592001 x3
  have a4 := c_ladd ((9223372036854775 : Int64) + (1 : Int64)) x4
  have b2 := rng64 (1 + x2)
  have b3 := rng64 (2592001 + x3)
  have b4 := rng64 (((9223372036854775 : Int64) + (1 : Int64)) + x4)
  have l1 : (1 : Int64).toInt = 1 := rfl
  have l3 : (2592001 : Int64).toInt = 2592001 := rfl
  have l4 : ((9223372036854775 : Int64) + (1 : Int64)).toInt = 9223372036854776 := by decide
  generalize (1 + x2) = e2 at *
  generalize (2592001 + x3) = e3 at *
  generalize (((9223372036854775 : Int64) + (1 : Int64)) + x4) = e4 at *
  have k2 : ∀ x, F1_0 e2 x = x + e2 * 1000 := fun x => own_a e2 x (by omega) (by omega)
  have k3 : ∀ x, F1_0 e3 x = e3 * 1000 := fun x => own_b e3 x (by omega) (by omega)
  have k4 : ∀ x, F1_0 e4 x = 9223372036854775807 := fun x => own_c e4 x (by omega)
  have k1 : ∀ x, F1_0 neg x = -9223372036854775808 := fun x => own_d neg x ho
  have k0 : ∀ x, F1_0 0 x = 9223372036854775807 := fun x => by unfold F1_0; rw [if_pos rfl]
  have kc : ∀ a b : Int64, a + b - a = b := fun a b => by rw [Int64.add_comm, Int64.add_sub_cancel]
  simp only [k0, k1, k2, k3, k4, kc, if_true]
  repeat' split
  all_goals rfl
theorem ef_0 (m : MethodId) (q1 : Int64) (q2 : Int64) (q3 : Int64) (p4 : Int32) : entryFrame m #[(.long q1), (.long q2), (.long q3), (.int p4)] maxLocals = mkF m 0 #[.val (.long q1), .second, .val (.long q2), .second, .val (.long q3), .second, .val (.int p4), .unset, .unset, .unset, .unset, .unset, .unset, .unset] [] := by first | (simp [entryFrame, mkF, argsToLocals, Value.category, maxLocals]; done) | rfl
theorem pn_0 : plainName "com/example/noreply/noreply/engine/ExpirationDeadlineMillisPinLaw" = true := by first | (simp [plainName, overriddenIn]; done) | decide +kernel
set_option maxRecDepth 65536 in
set_option maxHeartbeats 40000000 in
theorem rm0 (l : Launch) (Z : State) (a0 : Array Value) (hw : ∀ d ∈ tables_1, d.before a0 Z = true) (ws : List Jvm.Cond) (q1 : Int64) (q2 : Int64) (q3 : Int64) (p4 : Int32) (h0 : Heap) (n0 : Nat) :
    MetFree l x (head1 (Jvm.Cond.code x code maxLocals ret :: ws) room_1) (fun a U => a = #[(.long q1), (.long q2), (.long q3), (.int p4)] ∧ Z.Warmed39 U.vm ∧ U.heap = h0) (fun _ _ _ _ _ => True) (fun _ U o U' => ∃ v L, o = .returned v ∧ (Ql n0 (.int 1)) v U'.heap L ∧ FrameEnd U o U' L room_1.cells room_1.slots) := by
  refine MetFree.of_bodySF (plainFor_of_name pn_0) hisR ?_
  intro p e s m args below meth c s₁ Bd hml0 hP hK
  obtain ⟨rfl, hZ, hh⟩ := hP
  have hown : s.vm.findClass "com/example/noreply/noreply/engine/ExpirationDeadlineMillisPinLaw" = some m.cls := findClass_of_methodNamed Bd.named
  have hnm := (name_of_methodNamed Bd.named Bd.method).1
  have X0 : Stand p l e room_1 s m #[(.long q1), (.long q2), (.long q3), (.int p4)] below meth c s₁ [] 0 0 := Stand.of_body Bd
  have e0 : s₁.heap = h0 := by rw [← hh, Bd.state]; rfl
  have d := bk0_0 (n0 := n0) Bd.exec hZ hw Bd.bytes hml0 hown hnm Bd.returns (BodyLoose.notSynchronized Bd) X0 (Fr.nil n0) e0 q1 q2 q3 p4
  rw [own_law q1 q2 q3 p4] at d
  have d2 : Done p e below s room_1 (Ql n0 (.int 1)) s₁ (entryFrame m #[(.long q1), (.long q2), (.long q3), (.int p4)] maxLocals) := by rw [ef_0]; exact d
  exact d2
set_option maxRecDepth 65536 in
set_option maxHeartbeats 40000000 in
theorem comes_1 {Post : Tables → Env → Array Value → State → Outcome → State → Prop} (hpost : ∀ tb e args s v u, (limb_1_1.after args s (.returned v) u = true ∧ limb_1_2.after args s (.returned v) u = true ∧ True) → FrameEnd s (.returned v) u (Jvm.fieldLocs frame_1_writes args s ++ Jvm.arrayLocs frame_1_arrays args s ++ Jvm.staticLocs frame_1_statics s) 0 0 → Post tb e args s (.returned v) u) :
    ArmFor flags0 classFile x code maxLocals ret World_1 tables_1 room_1 Calls_1 rest_1 Pre_1 Post := by
  intro l hfl _ _ p e ha hc hk s m args below hf hA hF happ hP
  obtain ⟨hcalls, hrest, hpre⟩ := hP
  obtain ⟨-, -, -, hnamed, -, -, -, hat⟩ := (Spec.applies_iff hf).mp happ
  obtain ⟨hg, hn⟩ := and_e (Cond.before_iff.mp (show (Jvm.Cond.and given_1 narrow_1).before args s = true from hpre))
  obtain ⟨g0, r0⟩ := and_e hg
  obtain ⟨v0, r1⟩ := and_e r0
  obtain ⟨v1, r2⟩ := and_e r1
  obtain ⟨v2, r3⟩ := and_e r2
  obtain ⟨w0, w1, w2, w3, rfl⟩ : ∃ w0 w1 w2 w3 : Value, args = #[w0, w1, w2, w3] := by
    have hs : args.size = 4 := by simpa [Cond.value, given_1] using g0
    obtain ⟨L⟩ := args
    match L, hs with
    | [w0, w1, w2, w3], _ => exact ⟨w0, w1, w2, w3, rfl⟩
  have hw := fun d (hd : d ∈ tables_1) => atoms_spec (ws := Jvm.Cond.code x code maxLocals ret :: tables_1) hat d (List.mem_cons_of_mem _ hd)
  obtain ⟨i0, ei0⟩ := isL_v v0
  obtain rfl : w0 = (.long i0) := Option.some.inj ei0
  obtain ⟨i1, ei1⟩ := isL_v v1
  obtain rfl : w1 = (.long i1) := Option.some.inj ei1
  obtain ⟨i2, ei2⟩ := isL_v v2
  obtain rfl : w2 = (.long i2) := Option.some.inj ei2
  obtain ⟨i3, ei3⟩ := is_v r3
  obtain rfl : w3 = (.int i3) := Option.some.inj ei3
  obtain ⟨n, o, h1, h2, h3, _, L, rfl, ⟨rfl, N⟩, hq⟩ := rm0 l s _ hw tables_1 i0 i1 i2 i3 s.heap s.heap.size p e ha hc hk s m _ below hf ((Spec.applies_iff_loose hf).mp happ).1 ⟨rfl, State.Warmed39.refl s, rfl⟩ trivial
  refine ⟨n, _, h1, h2, h3, hpost _ _ _ _ _ _ ⟨Cond.after_iff.mpr rfl, Cond.after_iff.mpr (eq_i res_at (Term.int_eval (1)) rfl), trivial⟩ ⟨hq.1, hq.2.1, (hq.2.2.sift fun y hy => Or.inr (N y hy)).mono (by decide) (by decide)⟩⟩
theorem main_1_1 : Claimed_1_1 := comes_1 fun _ _ _ _ _ _ h hF => ⟨h.1, hF⟩
theorem main_1_2 : Claimed_1_2 := comes_1 fun _ _ _ _ _ _ h hF => ⟨h.2.1, hF⟩
end Jvm.Pilot.@@N@@
namespace Jvm.Pilot.@@N@@
open Jvm Jvm.ClassFile Sem Op Lib Jvm.Free Jvm.Stand Jvm.Pilot.@@N@@.Jvm.D
/-! MADE BY PROGRAM (witnessworld.py) out of the Statement's table words and the real class files: 9 classes; the members and pool entries that the words name. The judged class is class 1, her method 1. -/
namespace start1
open Jvm.ClassFile
def u (s : String) : CpInfo := .utf8 (stringToUtf16 s)
/-- a pool by its gaps: so many unusable entries, then the entry; so many at the end -/
def gap : Nat → List CpInfo → List CpInfo
  | 0, r => r
  | n + 1, r => .unusable :: gap n r
def poolList (es : List (Nat × CpInfo)) (last : Nat) : List CpInfo := es.foldr (fun e r => gap e.1 (e.2 :: r)) (gap last [])
def pool (es : List (Nat × CpInfo)) (last : Nat) : Array CpInfo := ⟨poolList es last⟩
def fileOf (pool : Array CpInfo) (this : Nat) (attrs : Array Attribute := #[]) (ms : Array MethodInfo := #[]) (fl : Nat := 33) (sup : Nat := 0) (ifs : Array Nat := #[]) (fds : Array FieldInfo := #[]) : ClassFile where
  minorVersion := 0
  majorVersion := 65
  constantPool := pool
  accessFlags := fl
  thisClass := this
  superClass := sup
  interfaces := ifs
  fields := fds
  methods := ms
  attributes := attrs
def plain (name : String) (sup : Option ClassId) : Class where
  name := name
  kind := .ordinary
  loader := none
  accessFlags := 33
  super := sup
  interfaces := #[]
  cf := none
  fields := #[]
  methods := #[]
  instanceTypes := #[]
  staticTypes := #[]
  resolved := #[]
  callSites := []
  init := .initialized
  statics := none
  mirror := none

def pool0 : Array CpInfo := pool [(5, u "<init>"), (0, u "()V"), (1, .class_ 10), (1, u "java/lang/Object")] 113

def k0m0 : Method := { name := "<init>", desc := "()V", sig := { parameters := [], returnType := none }, accessFlags := 1, code := none }
/-- java/lang/Object -/
def k0 : Class := { plain "java/lang/Object" none with
  accessFlags := 33
  interfaces := #[]
  cf := some (fileOf pool0 8 #[] #[{ accessFlags := 1, nameIndex := 5, descriptorIndex := 6, attributes := #[] }] 33 0 #[] #[])
  fields := #[]
  methods := #[k0m0]
  instanceTypes := #[]
  staticTypes := #[]
  resolved := Array.replicate 124 none
  statics := none }

def pool1 : Array CpInfo := pool [(2, .class_ 4), (1, u "java/lang/Object"), (0, u "<init>"), (0, u "()V"), (0, .integer 2147483647), (2, .long 9223372036854775807), (1, .long 9223372036854775), (1, .methodref 15 16), (0, .class_ 17), (0, .nameAndType 18 19), (0, u "com/example/noreply/noreply/engine/Expiration"), (0, u "deadlineMillis"), (0, u "(JJ)J"), (0, .long 9223372036854775808), (1, .long 2592000), (1, .long 1000), (1, .long 2592001), (1, .class_ 29), (0, u "com/example/noreply/noreply/engine/ExpirationDeadlineMillisPinLaw"), (2, u "law"), (0, u "(JJJI)Z")] 3

def k1m0 : Method := { name := "<init>", desc := "()V", sig := { parameters := [], returnType := none }, accessFlags := 1, code := none }
def k1c1 : Code := { maxStack := 8, maxLocals := 14, code := code, exceptionTable := #[], attributes := #[] }
def k1m1 : Method := { name := "law", desc := "(JJJI)Z", sig := { parameters := [.long, .long, .long, .int], returnType := some .boolean }, accessFlags := 9, code := some k1c1 }
/-- com/example/noreply/noreply/engine/ExpirationDeadlineMillisPinLaw -/
def k1 : Class := { plain "com/example/noreply/noreply/engine/ExpirationDeadlineMillisPinLaw" (some 0) with
  accessFlags := 49
  interfaces := #[]
  cf := some (fileOf pool1 28 #[] #[{ accessFlags := 1, nameIndex := 5, descriptorIndex := 6, attributes := #[] }, { accessFlags := 9, nameIndex := 32, descriptorIndex := 33, attributes := #[] }] 49 2 #[] #[])
  fields := #[]
  methods := #[k1m0, k1m1]
  instanceTypes := #[]
  staticTypes := #[]
  resolved := Array.replicate 37 none
  statics := none }

def pool2 : Array CpInfo := pool [(4, .class_ 6), (1, u "java/lang/Object"), (0, u "<init>"), (0, u "()V"), (0, .class_ 10), (0, u "com/example/noreply/noreply/engine/Expiration"), (0, .long 9223372036854775807), (1, .long 9223372036854775808), (1, .long 2592000), (1, .long 1000), (1, .long 9223372036854775), (1, u "NEVER"), (0, u "J"), (1, u "MAX_RELATIVE_SECONDS"), (0, u "ALREADY_EXPIRED"), (0, u "MILLIS_PER_SECOND"), (2, u "deadlineMillis"), (0, u "(JJ)J")] 5

def k2m0 : Method := { name := "<init>", desc := "()V", sig := { parameters := [], returnType := none }, accessFlags := 2, code := none }
def k2c1 : Code := { maxStack := 6, maxLocals := 4, code := prog_5_method_2_code, exceptionTable := #[], attributes := #[] }
def k2m1 : Method := { name := "deadlineMillis", desc := "(JJ)J", sig := { parameters := [.long, .long], returnType := some .long }, accessFlags := 9, code := some k2c1 }
/-- com/example/noreply/noreply/engine/Expiration -/
def k2 : Class := { plain "com/example/noreply/noreply/engine/Expiration" (some 0) with
  accessFlags := 49
  interfaces := #[]
  cf := some (fileOf pool2 9 #[] #[{ accessFlags := 2, nameIndex := 7, descriptorIndex := 8, attributes := #[] }, { accessFlags := 9, nameIndex := 29, descriptorIndex := 30, attributes := #[] }] 49 4 #[] #[{ accessFlags := 25, nameIndex := 21, descriptorIndex := 22, attributes := #[] }, { accessFlags := 25, nameIndex := 24, descriptorIndex := 22, attributes := #[] }, { accessFlags := 26, nameIndex := 25, descriptorIndex := 22, attributes := #[] }, { accessFlags := 26, nameIndex := 26, descriptorIndex := 22, attributes := #[] }])
  fields := #[{ name := "NEVER", type := .long, accessFlags := 25, slot := 0, constantValue := 0 }, { name := "MAX_RELATIVE_SECONDS", type := .long, accessFlags := 25, slot := 1, constantValue := 0 }, { name := "ALREADY_EXPIRED", type := .long, accessFlags := 26, slot := 2, constantValue := 0 }, { name := "MILLIS_PER_SECOND", type := .long, accessFlags := 26, slot := 3, constantValue := 0 }]
  methods := #[k2m0, k2m1]
  instanceTypes := #[]
  staticTypes := #[.long, .long, .long, .long]
  resolved := Array.replicate 36 none
  statics := none }

def pool3 : Array CpInfo := pool [(1, u "java/lang/Cloneable"), (0, .class_ 1), (0, u "java/lang/Object"), (0, .class_ 3)] 3

/-- java/lang/Cloneable -/
def k3 : Class := { plain "java/lang/Cloneable" (some 0) with
  accessFlags := 1537
  interfaces := #[]
  cf := some (fileOf pool3 2 #[] #[] 1537 4 #[] #[])
  fields := #[]
  methods := #[]
  instanceTypes := #[]
  staticTypes := #[]
  resolved := Array.replicate 8 none
  statics := none }

def pool4 : Array CpInfo := pool [(1, u "java/io/Serializable"), (0, .class_ 1), (0, u "java/lang/Object"), (0, .class_ 3)] 3

/-- java/io/Serializable -/
def k4 : Class := { plain "java/io/Serializable" (some 0) with
  accessFlags := 1537
  interfaces := #[]
  cf := some (fileOf pool4 2 #[] #[] 1537 4 #[] #[])
  fields := #[]
  methods := #[]
  instanceTypes := #[]
  staticTypes := #[]
  resolved := Array.replicate 8 none
  statics := none }

/-- the primitive byte -/
def k5 : Class := { plain "byte" none with kind := .primitive 'B', accessFlags := 0x411 }
/-- [B -/
def k6 : Class := { plain "[B" (some 0) with kind := .array 5 .byte, interfaces := #[3, 4], accessFlags := 1041 }

/-- the primitive int -/
def k7 : Class := { plain "int" none with kind := .primitive 'I', accessFlags := 0x411 }
/-- [I -/
def k8 : Class := { plain "[I" (some 0) with kind := .array 7 .int, interfaces := #[3, 4], accessFlags := 1041 }

def heap : Heap := #[]
def classes : Array Class := #[k0, k1, k2, k3, k4, k5, k6, k7, k8]
def interned : List (Array UInt16 × Addr) := []
def slotsUsed : Nat := 0
def theMethod : MethodId := ⟨1, 1⟩
def args0 : Array Value := #[.long 5, .long 5, .long 5, .int 5]
def aboutOver (below : List Frame) : State where
  vm := { classes := classes, interned := interned.toArray }
  heap := heap
  slotsUsed := slotsUsed
  threads := #[{ frames := .invoking theMethod args0 :: below }]
def below0 : List Frame := [.native { method := ⟨0, 0⟩, args := #[] }]
def about1 : State := aboutOver below0
def p0 : Program := .bare "" "" ""
def e0 : Env := launch0.env 0 0 0
theorem w_frames : about1.frames = Frame.invoking theMethod args0 :: below0 := rfl
set_option maxRecDepth 65536 in
theorem w_args : argsFit about1.vm theMethod args0 = true := by decide +kernel
set_option maxRecDepth 65536 in
theorem w_heap : heapFits about1 = true := by decide +kernel
set_option maxRecDepth 65536 in
theorem w_runnable : about1.curStatus? = some .runnable := by decide +kernel
set_option maxRecDepth 65536 in
theorem w_alone : about1.alone = true := by decide +kernel
set_option maxRecDepth 65536 in
theorem w_named : about1.methodNamed? x = some theMethod := by decide +kernel
set_option maxRecDepth 65536 in
theorem w_hears : about1.hears theMethod below0 = true := by decide +kernel
set_option maxRecDepth 65536 in
theorem w_ripe : about1.ripe theMethod args0 below0 = true := by decide +kernel
theorem w_running : about1.status = .running := rfl
set_option maxRecDepth 65536 in
theorem w_room : about1.hasRoom e0.platform room_1 = true :=
  launch0.hasRoom_least _ room_1 (by decide +kernel) (by decide +kernel) (by decide +kernel) (by decide +kernel) (by decide +kernel) (by decide +kernel)
theorem allAtoms_all (ts : List Jvm.Cond) (a : Array Jvm.Value) (st : Jvm.State) : (allAtoms ts).before a st = ts.all (fun c => c.before a st) := by
  induction ts with
  | nil => rfl
  | cons c t ih =>
    show (Jvm.Cond.and c (allAtoms t)).before a st = _
    rw [Jvm.Cond.before_and, ih, List.all_cons]
def words1 : List Jvm.Cond := Jvm.Cond.code x code maxLocals ret :: tables_1
/-- a 'code' word, met by the world's own term for the bytes: nothing is compared byte by byte -/
theorem code_word {y : MethodName} {bytes : ByteArray} {mx : Nat} {rt : Option FieldType} {a : Array Value} {s : State} {m : MethodId} {meth : Method} {c : Code} (h1 : s.methodNamed? y = some m) (h2 : s.vm.method? m = some meth) (h3 : meth.code = some c) (h4 : c.code = bytes)
    (h5 : (c.maxLocals == mx && c.exceptionTable.isEmpty && decide (c.maxStack ≤ mostOperands) && decide (meth.sig.returnType = rt) && !meth.locks && decide (parseMethodDescriptor y.desc = some meth.sig)) = true) : (Jvm.Cond.code y bytes mx rt).before a s = true := by
  simp only [Bool.and_eq_true, beq_iff_eq, Bool.not_eq_true', decide_eq_true_eq] at h5
  obtain ⟨⟨⟨⟨⟨g1, g2⟩, g3⟩, g4⟩, g5⟩, g6⟩ := h5
  simp [Cond.before, Cond.holds, Cond.value, h1, h2, h3, h4, g1, g2, g3, g4, g5, g6]
def isCode : Jvm.Cond → Bool
  | .code _ _ _ _ => true
  | _ => false
theorem all_split {L : List Jvm.Cond} {P : Jvm.Cond → Bool} (h1 : L.all (fun c => isCode c || P c) = true) (h2 : ∀ c ∈ L.filter isCode, P c = true) : L.all P = true := by
  refine List.all_eq_true.mpr fun c hc => ?_
  have h := List.all_eq_true.mp h1 c hc
  rcases Bool.eq_false_or_eq_true (isCode c) with hi | hi
  · exact h2 c (List.mem_filter.mpr ⟨hc, hi⟩)
  · simpa [hi] using h
set_option maxRecDepth 65536 in
theorem w_c0 : (Jvm.Cond.code x code maxLocals ret).before args0 about1 = true := code_word (m := ⟨1, 1⟩) (meth := k1m1) (c := k1c1) (by decide +kernel) rfl rfl rfl (by decide +kernel)
set_option maxRecDepth 65536 in
theorem w_c1 : (Jvm.Cond.code ({ cls := "com/example/noreply/noreply/engine/Expiration", name := "deadlineMillis", desc := "(JJ)J" } : Jvm.MethodName) prog_5_method_2_code (4 : Nat) (Option.some Jvm.ClassFile.FieldType.long)).before args0 about1 = true := code_word (m := ⟨2, 1⟩) (meth := k2m1) (c := k2c1) (by decide +kernel) rfl rfl rfl (by decide +kernel)
def codes1 : List Jvm.Cond := [Jvm.Cond.code x code maxLocals ret, Jvm.Cond.code ({ cls := "com/example/noreply/noreply/engine/Expiration", name := "deadlineMillis", desc := "(JJ)J" } : Jvm.MethodName) prog_5_method_2_code (4 : Nat) (Option.some Jvm.ClassFile.FieldType.long)]
set_option maxRecDepth 65536 in
theorem codes_eq : words1.filter isCode = codes1 := rfl
theorem w_codes : ∀ c ∈ words1.filter isCode, c.before args0 about1 = true := by
  rw [codes_eq]
  intro c hc
  simp only [codes1, List.mem_cons, List.not_mem_nil, or_false] at hc
  rcases hc with rfl | rfl
  · exact w_c0
  · exact w_c1
set_option maxRecDepth 65536 in
theorem w_t1 : words1.all (fun c => isCode c || c.before args0 about1) = true := by decide +kernel
theorem w_tables : (allAtoms (Jvm.Cond.code x code maxLocals ret :: tables_1)).before args0 about1 = true := by
  rw [allAtoms_all]
  show words1.all (fun c => c.before args0 about1) = true
  refine all_split ?_ w_codes
  rw [w_t1]
set_option maxRecDepth 65536 in
theorem w_case : (Jvm.Cond.and given_1 narrow_1).before args0 about1 = true := by decide +kernel
theorem w_applies : (headSpec (Jvm.Cond.code x code maxLocals ret :: tables_1) room_1).applies x e0.platform about1 = true :=
  (Spec.applies_iff w_frames).mpr ⟨w_running, w_runnable, w_alone, w_named, w_hears, w_ripe, w_room, w_tables⟩
theorem atStart : AtStart classFile x code maxLocals ret World_1 tables_1 room_1 Calls_1 rest_1 Pre_1 launch0 p0 e0 about1 theMethod args0 below0 :=
  ⟨lists_1, trivial, launch0.admits_env _ _ _, launch0.least_env, fairChoices_fair.cas, fairChoices_fair.clock, w_frames, w_args, w_heap, w_applies, trivial, trivial, w_case⟩
end start1
theorem witness_1 : WitnessClaimed_1 := ⟨start1.p0, start1.e0, start1.about1, start1.theMethod, start1.args0, start1.below0, start1.atStart⟩
end Jvm.Pilot.@@N@@
