import JvmDerived
import JvmDerived.Pilot.@@N@@Statement
import JvmDerived.Pilot.@@N@@Code
set_option linter.unusedVariables false
set_option linter.unusedSimpArgs false
namespace Jvm.RoadKit
open Sem ClassFile Op Lib Jvm.Stand Jvm.Free Jvm.LawKit
section New
variable {p : Program} {l : Launch} {e : Env} {R : Room} {s : State} {m : MethodId} {args : Array Value} {below : List Frame} {meth : Method} {c : Code} {T : State} {locs : List Loc} {cells slots : Nat}
theorem retI (X : Stand p l e R s m args below meth c T locs cells slots) (hx : p.tables.exec = Jvm.exec) {pc : Nat} {Ls : Array Slot} {z : Int32} {rest : List Value} (hret : meth.sig.returnType = some .int) (hd : decode c.code pc = .ok (.ireturn, 1)) {fs : List Frame}
    (hl : ∀ (f : JFrame) (acts : List Action), f.method = m → f.locked = none → f.entered = [] → (doReturn e (T.setTop f) acts (some (.int z))).1 = T.setFrames fs) : Steps p.tables e below (T.setTop (mkF m pc Ls (.int z :: rest))) (T.setFrames fs) := by
  have hm' : T.vm.method? m = some meth := X.method'
  have hn : narrow .int (.int z) = .int z := rfl
  show Steps p.tables e below (T.setTop { method := m, pc := pc, locals := Ls, stack := _ :: rest, locked := none }) _
  jvm_step X.here [X.here.top, hx, hd, hm', hret, hn]
  first | (intro acts; rw [hl _ acts rfl rfl rfl]) | rw [hl _ _ rfl rfl rfl]
  exact Steps.refl _
theorem retA (X : Stand p l e R s m args below meth c T locs cells slots) (hx : p.tables.exec = Jvm.exec) {pc : Nat} {Ls : Array Slot} {z : Addr} {rest : List Value} {t : FieldType} (hret : meth.sig.returnType = some t) (ht : t.isReference = true) (hd : decode c.code pc = .ok (.areturn, 1)) {fs : List Frame}
    (hl : ∀ (f : JFrame) (acts : List Action), f.method = m → f.locked = none → f.entered = [] → (doReturn e (T.setTop f) acts (some (.ref z))).1 = T.setFrames fs) : Steps p.tables e below (T.setTop (mkF m pc Ls (.ref z :: rest))) (T.setFrames fs) := by
  have hm' : T.vm.method? m = some meth := X.method'
  show Steps p.tables e below (T.setTop { method := m, pc := pc, locals := Ls, stack := _ :: rest, locked := none }) _
  jvm_step X.here [X.here.top, hx, hd, hm', hret, ht, Value.isRef]
  first | (intro acts; rw [hl _ acts rfl rfl rfl]) | rw [hl _ _ rfl rfl rfl]
  exact Steps.refl _
theorem retJ (X : Stand p l e R s m args below meth c T locs cells slots) (hx : p.tables.exec = Jvm.exec) {pc : Nat} {Ls : Array Slot} {z : Int64} {rest : List Value} (hret : meth.sig.returnType = some .long) (hd : decode c.code pc = .ok (.lreturn, 1)) {fs : List Frame}
    (hl : ∀ (f : JFrame) (acts : List Action), f.method = m → f.locked = none → f.entered = [] → (doReturn e (T.setTop f) acts (some (.long z))).1 = T.setFrames fs) : Steps p.tables e below (T.setTop (mkF m pc Ls (.long z :: rest))) (T.setFrames fs) := by
  have hm' : T.vm.method? m = some meth := X.method'
  show Steps p.tables e below (T.setTop { method := m, pc := pc, locals := Ls, stack := _ :: rest, locked := none }) _
  jvm_step X.here [X.here.top, hx, hd, hm', hret]
  first | (intro acts; rw [hl _ acts rfl rfl rfl]) | rw [hl _ _ rfl rfl rfl]
  exact Steps.refl _
end New
end Jvm.RoadKit
namespace Jvm.Pilot.@@N@@
open Jvm Jvm.ClassFile Sem Op Lib Jvm.Free Jvm.Stand Jvm.LawKit Jvm.RoadKit Bundle Jvm.Pilot.@@N@@.Jvm.D
/-! My own frame of a walk: 'Done' says: from this frame the run ends, and Q holds of what came back, of the heap, and of the places written. -/
def Done (p : Program) (e : Env) (below : List Frame) (s : State) (R : Room) (Q : Option Value → Heap → List Loc → Prop) (T : State) (g : JFrame) : Prop :=
  ∃ s₂ o, Steps p.tables e below (T.setTop g) s₂ ∧ s₂.status = .running ∧ Ended s₂ below o ∧ ∃ v L, o = .returned v ∧ Q v s₂.heap L ∧ FrameEnd s o s₂ L R.cells R.slots
def Qp (h0 : Heap) (n0 : Nat) (z : Value) (v : Option Value) (h : Heap) (L : List Loc) : Prop := v = some z ∧ Fr n0 L ∧ h = h0
def Qv (h0 : Heap) (n0 : Nat) (v : Option Value) (h : Heap) (L : List Loc) : Prop := v = none ∧ Fr n0 L ∧ h = h0
def Ql (n0 : Nat) (z : Value) (v : Option Value) (h : Heap) (L : List Loc) : Prop := v = some z ∧ Fr n0 L
theorem Done.of {p : Program} {e : Env} {below : List Frame} {s : State} {R : Room} {Q : Option Value → Heap → List Loc → Prop} {T T' : State} {g g' : JFrame}
    (st : ∀ t, Steps p.tables e below (T'.setTop g') t → Steps p.tables e below (T.setTop g) t) (d : Done p e below s R Q T' g') : Done p e below s R Q T g := by
  obtain ⟨s₂, o, h1, h2⟩ := d
  exact ⟨s₂, o, st _ h1, h2⟩
section Ends
variable {p : Program} {l : Launch} {e : Env} {R : Room} {s : State} {m : MethodId} {args : Array Value} {below : List Frame} {meth : Method} {c : Code} {T : State} {locs : List Loc} {cells slots : Nat} {Q : Option Value → Heap → List Loc → Prop}
theorem doneI (X : Stand p l e R s m args below meth c T locs cells slots) (hx : p.tables.exec = Jvm.exec) {pc : Nat} {Ls : Array Slot} {z : Int32} {rest : List Value} (hret : meth.sig.returnType = some .int) (hlk : meth.locks = false) (hd : decode c.code pc = .ok (.ireturn, 1))
    (hQ : Q (some (.int z)) T.heap locs) (hc : cells ≤ R.cells) (hs : slots ≤ R.slots) : Done p e below s R Q T (mkF m pc Ls (.int z :: rest)) := by
  obtain ⟨fs, hr, hrun, hended, hW, hsame⟩ := X.leave (v := some (.int z)) (fun h => by rw [hret] at h; cases h) hlk
  exact ⟨_, _, retI X hx hret hd hr, hrun, hended, _, _, rfl, hQ, ⟨_, rfl⟩, hW, hsame.mono hc hs⟩
theorem doneN (t : FieldType) (X : Stand p l e R s m args below meth c T locs cells slots) (ht : t = .boolean ∨ t = .byte ∨ t = .char ∨ t = .short) (hx : p.tables.exec = Jvm.exec) {pc : Nat} {Ls : Array Slot} {z : Int32} {rest : List Value} (hret : meth.sig.returnType = some t) (hlk : meth.locks = false) (hd : decode c.code pc = .ok (.ireturn, 1))
    (hQ : Q (some (.int (nar t z))) T.heap locs) (hc : cells ≤ R.cells) (hs : slots ≤ R.slots) : Done p e below s R Q T (mkF m pc Ls (.int z :: rest)) := by
  obtain ⟨fs, hr, hrun, hended, hW, hsame⟩ := X.leave (v := some (.int (nar t z))) (fun h => by rw [hret] at h; cases h) hlk
  exact ⟨_, _, retN X hx hret ht hd hr, hrun, hended, _, _, rfl, hQ, ⟨_, rfl⟩, hW, hsame.mono hc hs⟩
theorem doneJ (X : Stand p l e R s m args below meth c T locs cells slots) (hx : p.tables.exec = Jvm.exec) {pc : Nat} {Ls : Array Slot} {z : Int64} {rest : List Value} (hret : meth.sig.returnType = some .long) (hlk : meth.locks = false) (hd : decode c.code pc = .ok (.lreturn, 1))
    (hQ : Q (some (.long z)) T.heap locs) (hc : cells ≤ R.cells) (hs : slots ≤ R.slots) : Done p e below s R Q T (mkF m pc Ls (.long z :: rest)) := by
  obtain ⟨fs, hr, hrun, hended, hW, hsame⟩ := X.leave (v := some (.long z)) (fun h => by rw [hret] at h; cases h) hlk
  exact ⟨_, _, retJ X hx hret hd hr, hrun, hended, _, _, rfl, hQ, ⟨_, rfl⟩, hW, hsame.mono hc hs⟩
theorem doneA (X : Stand p l e R s m args below meth c T locs cells slots) (hx : p.tables.exec = Jvm.exec) {pc : Nat} {Ls : Array Slot} {z : Addr} {rest : List Value} {t : FieldType} (hret : meth.sig.returnType = some t) (ht : t.isReference = true) (hlk : meth.locks = false) (hd : decode c.code pc = .ok (.areturn, 1))
    (hQ : Q (some (.ref z)) T.heap locs) (hc : cells ≤ R.cells) (hs : slots ≤ R.slots) : Done p e below s R Q T (mkF m pc Ls (.ref z :: rest)) := by
  obtain ⟨fs, hr, hrun, hended, hW, hsame⟩ := X.leave (v := some (.ref z)) (fun h => by rw [hret] at h; cases h) hlk
  exact ⟨_, _, retA X hx hret ht hd hr, hrun, hended, _, _, rfl, hQ, ⟨_, rfl⟩, hW, hsame.mono hc hs⟩
theorem doneV (X : Stand p l e R s m args below meth c T locs cells slots) (hx : p.tables.exec = Jvm.exec) {pc : Nat} {Ls : Array Slot} (hret : meth.sig.returnType = none) (hlk : meth.locks = false) (hd : decode c.code pc = .ok (.return_, 1))
    (hQ : Q none T.heap locs) (hc : cells ≤ R.cells) (hs : slots ≤ R.slots) : Done p e below s R Q T (mkF m pc Ls []) := by
  obtain ⟨fs, hr, hrun, hended, hW, hsame⟩ := X.leave (v := none) (fun _ => rfl) hlk
  exact ⟨_, _, X.returnOut hx hret hd hr, hrun, hended, _, _, rfl, hQ, ⟨_, rfl⟩, hW, hsame.mono hc hs⟩
end Ends
theorem lcLt_t {x y : Int64} (h : x < y) : ifCond.holds .lt (lcmpW x y) = true ∧ ifCond.holds .ge (lcmpW x y) = false := ⟨(if0 _ _).trans (tlt ((lw_lt x y).mpr h)).1, (if0 _ _).trans (tlt ((lw_lt x y).mpr h)).2.1⟩
theorem lcLt_f {x y : Int64} (h : ¬ x < y) : ifCond.holds .lt (lcmpW x y) = false ∧ ifCond.holds .ge (lcmpW x y) = true := ⟨(if0 _ _).trans (flt (fun q => h ((lw_lt x y).mp q))).1, (if0 _ _).trans (flt (fun q => h ((lw_lt x y).mp q))).2.1⟩
theorem lcGt_t {x y : Int64} (h : y < x) : ifCond.holds .gt (lcmpW x y) = true ∧ ifCond.holds .le (lcmpW x y) = false := ⟨(if0 _ _).trans (tlt ((lw_gt x y).mpr h)).2.2.1, (if0 _ _).trans (tlt ((lw_gt x y).mpr h)).2.2.2⟩
theorem lcGt_f {x y : Int64} (h : ¬ y < x) : ifCond.holds .gt (lcmpW x y) = false ∧ ifCond.holds .le (lcmpW x y) = true := ⟨(if0 _ _).trans (flt (fun q => h ((lw_gt x y).mp q))).2.2.1, (if0 _ _).trans (flt (fun q => h ((lw_gt x y).mp q))).2.2.2⟩
theorem lcEq_t {x y : Int64} (h : x = y) : ifCond.holds .eq (lcmpW x y) = true ∧ ifCond.holds .ne (lcmpW x y) = false := ⟨(if0 _ _).trans (teq ((lw_eq x y).mpr h)).1, (if0 _ _).trans (teq ((lw_eq x y).mpr h)).2⟩
theorem lcEq_f {x y : Int64} (h : ¬ x = y) : ifCond.holds .eq (lcmpW x y) = false ∧ ifCond.holds .ne (lcmpW x y) = true := ⟨(if0 _ _).trans (feq (fun q => h ((lw_eq x y).mp q))).1, (if0 _ _).trans (feq (fun q => h ((lw_eq x y).mp q))).2⟩
theorem own_selP {s : State} {args : Array Value} {y : MethodName} {n : Nat} (hins : (Cond.instantiable y.cls n).before args s = true) (hpriv : (Cond.privateMethod y).before args s = true) (hinst : (Cond.instanceMethod y).before args s = true) (hy : y.cls ≠ "java/lang/invoke/MethodHandle" ∧ y.cls ≠ "java/lang/invoke/VarHandle") :
    (Cond.selects y.cls y y).before args s = true := by
  obtain ⟨c, k, hc, hk, -, hniab, -, -⟩ := Cond.instantiable_spec hins
  exact selects_self_of_private hc hk (Bool.or_eq_false_iff.mp hniab).1 (Cond.privateMethod_at hpriv) hinst hy
theorem own_hat {c : Cell} {vs : List Int32} {j : Int32} (H : Has c (vs.map Value.int) (.int (0 : Int32))) (hin : ¬ (j < 0 ∨ c.slots.size ≤ j.toNatClampNeg)) : c.slots[j.toNatClampNeg]? = some (.int (vs.getD j.toNatClampNeg 0)) := by
  rw [H j.toNatClampNeg (Nat.lt_of_not_le fun q => hin (Or.inr q))]
  simp only [List.getD_eq_getElem?_getD, List.getElem?_map]
  cases vs[j.toNatClampNeg]? <;> rfl
theorem own_fin {n : Nat} (c : Int32) (h0 : 0 ≤ c.toInt) (h1 : c.toInt < n) : ∃ i : Fin n, c = Int32.ofInt (i.1 : Int) :=
  ⟨⟨c.toInt.toNat, by omega⟩, by show c = Int32.ofInt ((c.toInt.toNat : Nat) : Int); rw [Int.toNat_of_nonneg h0]; exact (Int32.ofInt_toInt c).symm⟩
theorem own_set (N i : Nat) (f : Nat → Int32) (v : Int32) : ((List.range N).map fun j => Value.int (f j)).set i (.int v) = (List.range N).map fun j => Value.int (if j = i then v else f j) := by
  apply List.ext_getElem
  · simp
  · intro k h1 h2
    rw [List.getElem_set]
    simp only [List.getElem_map, List.getElem_range]
    by_cases q : i = k
    · rw [if_pos q, if_pos q.symm]
    · rw [if_neg q, if_neg (Ne.symm q)]
theorem own_setA {Z : State} {h : Heap} {a : Addr} {k : ClassId} {ty : FieldType} {z : Int32} {N i : Nat} {f : Nat → Int32} {v : Int32} {dv : Value} (A : Arv Z h a k ty z (((List.range N).map fun j => Value.int (f j)).set i (.int v)) dv) :
    Arv Z h a k ty z ((List.range N).map fun j => Value.int (if j = i then v else f j)) dv := by rw [← own_set]; exact A
theorem own_hatF {c : Cell} {N : Nat} {f : Nat → Int32} {j : Int32} {d : Value} (H : Has c ((List.range N).map fun j => Value.int (f j)) d) (hN : c.slots.size = N) (hin : ¬ (j < 0 ∨ c.slots.size ≤ j.toNatClampNeg)) : c.slots[j.toNatClampNeg]? = some (.int (f j.toNatClampNeg)) := by
  have hl : j.toNatClampNeg < c.slots.size := Nat.lt_of_not_le fun q => hin (Or.inr q)
  rw [H j.toNatClampNeg hl, List.getD_eq_getElem?_getD, List.getElem?_map, List.getElem?_range (by omega)]
  rfl
theorem own_sz {c : Cell} {z : Int32} {N : Nat} (S : c.slots.size = z.toNatClampNeg) (h : z.toNatClampNeg = N := by decide) : c.slots.size = N := S.trans h
theorem own_len {c : Cell} {z j : Int32} {N : Nat} {f : Nat → Int32} (S : c.slots.size = z.toNatClampNeg) (hin : ¬ (j < 0 ∨ c.slots.size ≤ j.toNatClampNeg)) (h : z.toNatClampNeg = N := by decide) : j.toNatClampNeg < ((List.range N).map fun j => Value.int (f j)).length := by
  have : j.toNatClampNeg < c.slots.size := Nat.lt_of_not_le fun q => hin (Or.inr q)
  rw [List.length_map, List.length_range]; omega
theorem d1_0 : decode prog_6_method_1_code 0 = .ok (.aload_n 0, 1) := by decide +kernel
theorem d1_1 : decode prog_6_method_1_code 1 = .ok (.invokespecial 1, 3) := by decide +kernel
theorem d1_4 : decode prog_6_method_1_code 4 = .ok (.aload_n 0, 1) := by decide +kernel
theorem d1_5 : decode prog_6_method_1_code 5 = .ok (.iload_n 1, 1) := by decide +kernel
theorem d1_6 : decode prog_6_method_1_code 6 = .ok (.putfield 7, 3) := by decide +kernel
theorem d1_9 : decode prog_6_method_1_code 9 = .ok (.aload_n 0, 1) := by decide +kernel
theorem d1_10 : decode prog_6_method_1_code 10 = .ok (.iload_n 2, 1) := by decide +kernel
theorem d1_11 : decode prog_6_method_1_code 11 = .ok (.putfield 13, 3) := by decide +kernel
theorem d1_14 : decode prog_6_method_1_code 14 = .ok (.aload_n 0, 1) := by decide +kernel
theorem d1_15 : decode prog_6_method_1_code 15 = .ok (.iload_n 3, 1) := by decide +kernel
theorem d1_16 : decode prog_6_method_1_code 16 = .ok (.putfield 16, 3) := by decide +kernel
theorem d1_19 : decode prog_6_method_1_code 19 = .ok (.aload_n 0, 1) := by decide +kernel
theorem d1_20 : decode prog_6_method_1_code 20 = .ok (.iload 4, 2) := by decide +kernel
theorem d1_22 : decode prog_6_method_1_code 22 = .ok (.putfield 19, 3) := by decide +kernel
theorem d1_25 : decode prog_6_method_1_code 25 = .ok (.return_, 1) := by decide +kernel
set_option maxRecDepth 65536 in
set_option maxHeartbeats 40000000 in
theorem bk1_0 {p : Program} {l : Launch} {e : Env} {s : State} {m : MethodId} {args : Array Value} {below : List Frame} {meth : Method} {c : Code} {T0 : State} {locs : List Loc} {Z : State} {a0 : Array Value} {h0 : Heap} {n0 : Nat}
    (hx : p.tables.exec = Jvm.exec) (hZ : Z.Warmed39 s.vm) (hw : ∀ d ∈ tables_1, d.before a0 Z = true) (hby : c.code = prog_6_method_1_code) (hml : c.maxLocals = 5) (hown : s.vm.findClass "com/example/noreply/noreply/engine/HeapLayout" = some m.cls) (hnm : meth.name = "<init>") (hret : meth.sig.returnType = none) (hlk : meth.locks = false)
    (X0 : Stand p l e ({ frames := 1, cells := 0, slots := 0, locals := 12 } : Room) s m args below meth c T0 locs 0 0) (N0 : Fr n0 locs) (e0 : T0.heap = h0) (a1 : Addr) (p2 : Int32) (p3 : Int32) (p4 : Int32) (p5 : Int32) (u_referenceBytes : Value) (u_headerBytes : Value) (u_arrayHeaderBytes : Value) (u_alignment : Value) (E_a1 : Exa Z h0 a1 "com/example/noreply/noreply/engine/HeapLayout") (F_referenceBytes_a1 : Fld Z h0 a1 "com/example/noreply/noreply/engine/HeapLayout" "referenceBytes" "I" u_referenceBytes) (F_headerBytes_a1 : Fld Z h0 a1 "com/example/noreply/noreply/engine/HeapLayout" "headerBytes" "I" u_headerBytes) (F_arrayHeaderBytes_a1 : Fld Z h0 a1 "com/example/noreply/noreply/engine/HeapLayout" "arrayHeaderBytes" "I" u_arrayHeaderBytes) (F_alignment_a1 : Fld Z h0 a1 "com/example/noreply/noreply/engine/HeapLayout" "alignment" "I" u_alignment) (g_a1 : n0 ≤ a1) :
    Done p e below s ({ frames := 1, cells := 0, slots := 0, locals := 12 } : Room) (fun v h L => v = none ∧ Fr n0 L ∧ Keep h0 h [a1] ∧ Exa Z h a1 "com/example/noreply/noreply/engine/HeapLayout" ∧ Fld Z h a1 "com/example/noreply/noreply/engine/HeapLayout" "referenceBytes" "I" (.int p2) ∧ Fld Z h a1 "com/example/noreply/noreply/engine/HeapLayout" "headerBytes" "I" (.int p3) ∧ Fld Z h a1 "com/example/noreply/noreply/engine/HeapLayout" "arrayHeaderBytes" "I" (.int p4) ∧ Fld Z h a1 "com/example/noreply/noreply/engine/HeapLayout" "alignment" "I" (.int p5)) T0 (mkF m 0 #[.val (.ref a1), .val (.int p2), .val (.int p3), .val (.int p4), .val (.int p5)] []) := by
  refine Done.of (T' := T0) (g' := (mkF m 1 #[.val (.ref a1), .val (.int p2), .val (.int p3), .val (.int p4), .val (.int p5)] [(.ref a1)])) (fun t k => ?_) ?_
  · show Steps p.tables e below (T0.setTop (mkF m 0 #[.val (.ref a1), .val (.int p2), .val (.int p3), .val (.int p4), .val (.int p5)] [])) t
    refine XS.aloadN X0.here hx rfl (hb hby d1_0) rfl rfl ?_
    exact k
  obtain ⟨T1, X1, e1, st1⟩ := initO X0 hx hZ hown (hw _ (List.mem_of_getElem? (i := 7) rfl)) (hw _ (List.mem_of_getElem? (i := 8) rfl)) (hw _ (List.mem_of_getElem? (i := 9) rfl)) e0 (g := (mkF m 1 #[.val (.ref a1), .val (.int p2), .val (.int p3), .val (.int p4), .val (.int p5)] [(.ref a1)])) rfl (by rw [hml]; rfl) rfl (hb hby d1_1) (by decide) (W := 0) (by show 2 * 0 + _ ≤ _; exact Nat.le_of_eq rfl) (by decide)
  refine Done.of (g' := (mkF m 4 #[.val (.ref a1), .val (.int p2), .val (.int p3), .val (.int p4), .val (.int p5)] [])) st1 ?_
  refine Done.of (T' := T1) (g' := (mkF m 6 #[.val (.ref a1), .val (.int p2), .val (.int p3), .val (.int p4), .val (.int p5)] [(.int p2), (.ref a1)])) (fun t k => ?_) ?_
  · show Steps p.tables e below (T1.setTop (mkF m 4 #[.val (.ref a1), .val (.int p2), .val (.int p3), .val (.int p4), .val (.int p5)] [])) t
    refine XS.aloadN X1.here hx rfl (hb hby d1_4) rfl rfl ?_
    show Steps p.tables e below (T1.setTop (mkF m 5 #[.val (.ref a1), .val (.int p2), .val (.int p3), .val (.int p4), .val (.int p5)] [(.ref a1)])) t
    refine XS.iloadN X1.here hx rfl (hb hby d1_5) rfl ?_
    exact k
  obtain ⟨T2, h2, X2, e2, W2, st2⟩ := putF X1 hx hZ hown (host := "") (Or.inl (hw _ (List.mem_of_getElem? (i := 10) rfl))) Via.refl e1 F_referenceBytes_a1 E_a1 (Or.inr ⟨(hw _ (List.mem_of_getElem? (i := 11) rfl)), rfl, hnm⟩) (hw _ (List.mem_of_getElem? (i := 2) rfl)) (ty := .int) (by decide) rfl rfl (g := (mkF m 6 #[.val (.ref a1), .val (.int p2), .val (.int p3), .val (.int p4), .val (.int p5)] [(.int p2), (.ref a1)])) rfl rfl (hb hby d1_6)
  have Fw2 := F_referenceBytes_a1.same W2
  have f1 := E_a1.wr W2
  have f2 := F_headerBytes_a1.other W2 (Or.inr (slot_ne (Or.inr (hw _ (List.mem_of_getElem? (i := 13) rfl))) (Or.inr (hw _ (List.mem_of_getElem? (i := 11) rfl))) (by decide) (t := .int) (t' := .int) (by decide) (by decide)))
  have f3 := F_arrayHeaderBytes_a1.other W2 (Or.inr (slot_ne (Or.inr (hw _ (List.mem_of_getElem? (i := 15) rfl))) (Or.inr (hw _ (List.mem_of_getElem? (i := 11) rfl))) (by decide) (t := .int) (t' := .int) (by decide) (by decide)))
  have f4 := F_alignment_a1.other W2 (Or.inr (slot_ne (Or.inr (hw _ (List.mem_of_getElem? (i := 17) rfl))) (Or.inr (hw _ (List.mem_of_getElem? (i := 11) rfl))) (by decide) (t := .int) (t' := .int) (by decide) (by decide)))
  have N2 := Fr.snoc X2 N0 g_a1
  have K2 : Keep h0 h2 [a1] := (Keep.refl h0 [a1]).wr W2 (Or.inl (List.mem_of_getElem? (i := 0) rfl))
  refine Done.of (g' := (mkF m 9 #[.val (.ref a1), .val (.int p2), .val (.int p3), .val (.int p4), .val (.int p5)] [])) st2 ?_
  refine Done.of (T' := T2) (g' := (mkF m 11 #[.val (.ref a1), .val (.int p2), .val (.int p3), .val (.int p4), .val (.int p5)] [(.int p3), (.ref a1)])) (fun t k => ?_) ?_
  · show Steps p.tables e below (T2.setTop (mkF m 9 #[.val (.ref a1), .val (.int p2), .val (.int p3), .val (.int p4), .val (.int p5)] [])) t
    refine XS.aloadN X2.here hx rfl (hb hby d1_9) rfl rfl ?_
    show Steps p.tables e below (T2.setTop (mkF m 10 #[.val (.ref a1), .val (.int p2), .val (.int p3), .val (.int p4), .val (.int p5)] [(.ref a1)])) t
    refine XS.iloadN X2.here hx rfl (hb hby d1_10) rfl ?_
    exact k
  obtain ⟨T3, h3, X3, e3, W3, st3⟩ := putF X2 hx hZ hown (host := "") (Or.inl (hw _ (List.mem_of_getElem? (i := 12) rfl))) Via.refl e2 f2 f1 (Or.inr ⟨(hw _ (List.mem_of_getElem? (i := 13) rfl)), rfl, hnm⟩) (hw _ (List.mem_of_getElem? (i := 2) rfl)) (ty := .int) (by decide) rfl rfl (g := (mkF m 11 #[.val (.ref a1), .val (.int p2), .val (.int p3), .val (.int p4), .val (.int p5)] [(.int p3), (.ref a1)])) rfl rfl (hb hby d1_11)
  have Fw3 := f2.same W3
  have f5 := f1.wr W3
  have f6 := Fw2.other W3 (Or.inr (slot_ne (Or.inr (hw _ (List.mem_of_getElem? (i := 11) rfl))) (Or.inr (hw _ (List.mem_of_getElem? (i := 13) rfl))) (by decide) (t := .int) (t' := .int) (by decide) (by decide)))
  have f7 := f3.other W3 (Or.inr (slot_ne (Or.inr (hw _ (List.mem_of_getElem? (i := 15) rfl))) (Or.inr (hw _ (List.mem_of_getElem? (i := 13) rfl))) (by decide) (t := .int) (t' := .int) (by decide) (by decide)))
  have f8 := f4.other W3 (Or.inr (slot_ne (Or.inr (hw _ (List.mem_of_getElem? (i := 17) rfl))) (Or.inr (hw _ (List.mem_of_getElem? (i := 13) rfl))) (by decide) (t := .int) (t' := .int) (by decide) (by decide)))
  have N3 := Fr.snoc X3 N2 g_a1
  have K3 : Keep h0 h3 [a1] := K2.wr W3 (Or.inl (List.mem_of_getElem? (i := 0) rfl))
  refine Done.of (g' := (mkF m 14 #[.val (.ref a1), .val (.int p2), .val (.int p3), .val (.int p4), .val (.int p5)] [])) st3 ?_
  refine Done.of (T' := T3) (g' := (mkF m 16 #[.val (.ref a1), .val (.int p2), .val (.int p3), .val (.int p4), .val (.int p5)] [(.int p4), (.ref a1)])) (fun t k => ?_) ?_
  · show Steps p.tables e below (T3.setTop (mkF m 14 #[.val (.ref a1), .val (.int p2), .val (.int p3), .val (.int p4), .val (.int p5)] [])) t
    refine XS.aloadN X3.here hx rfl (hb hby d1_14) rfl rfl ?_
    show Steps p.tables e below (T3.setTop (mkF m 15 #[.val (.ref a1), .val (.int p2), .val (.int p3), .val (.int p4), .val (.int p5)] [(.ref a1)])) t
    refine XS.iloadN X3.here hx rfl (hb hby d1_15) rfl ?_
    exact k
  obtain ⟨T4, h4, X4, e4, W4, st4⟩ := putF X3 hx hZ hown (host := "") (Or.inl (hw _ (List.mem_of_getElem? (i := 14) rfl))) Via.refl e3 f7 f5 (Or.inr ⟨(hw _ (List.mem_of_getElem? (i := 15) rfl)), rfl, hnm⟩) (hw _ (List.mem_of_getElem? (i := 2) rfl)) (ty := .int) (by decide) rfl rfl (g := (mkF m 16 #[.val (.ref a1), .val (.int p2), .val (.int p3), .val (.int p4), .val (.int p5)] [(.int p4), (.ref a1)])) rfl rfl (hb hby d1_16)
  have Fw4 := f7.same W4
  have f9 := f5.wr W4
  have f10 := f6.other W4 (Or.inr (slot_ne (Or.inr (hw _ (List.mem_of_getElem? (i := 11) rfl))) (Or.inr (hw _ (List.mem_of_getElem? (i := 15) rfl))) (by decide) (t := .int) (t' := .int) (by decide) (by decide)))
  have f11 := Fw3.other W4 (Or.inr (slot_ne (Or.inr (hw _ (List.mem_of_getElem? (i := 13) rfl))) (Or.inr (hw _ (List.mem_of_getElem? (i := 15) rfl))) (by decide) (t := .int) (t' := .int) (by decide) (by decide)))
  have f12 := f8.other W4 (Or.inr (slot_ne (Or.inr (hw _ (List.mem_of_getElem? (i := 17) rfl))) (Or.inr (hw _ (List.mem_of_getElem? (i := 15) rfl))) (by decide) (t := .int) (t' := .int) (by decide) (by decide)))
  have N4 := Fr.snoc X4 N3 g_a1
  have K4 : Keep h0 h4 [a1] := K3.wr W4 (Or.inl (List.mem_of_getElem? (i := 0) rfl))
  refine Done.of (g' := (mkF m 19 #[.val (.ref a1), .val (.int p2), .val (.int p3), .val (.int p4), .val (.int p5)] [])) st4 ?_
  refine Done.of (T' := T4) (g' := (mkF m 22 #[.val (.ref a1), .val (.int p2), .val (.int p3), .val (.int p4), .val (.int p5)] [(.int p5), (.ref a1)])) (fun t k => ?_) ?_
  · show Steps p.tables e below (T4.setTop (mkF m 19 #[.val (.ref a1), .val (.int p2), .val (.int p3), .val (.int p4), .val (.int p5)] [])) t
    refine XS.aloadN X4.here hx rfl (hb hby d1_19) rfl rfl ?_
    show Steps p.tables e below (T4.setTop (mkF m 20 #[.val (.ref a1), .val (.int p2), .val (.int p3), .val (.int p4), .val (.int p5)] [(.ref a1)])) t
    refine XS.iload X4.here hx rfl (hb hby d1_20) rfl ?_
    exact k
  obtain ⟨T5, h5, X5, e5, W5, st5⟩ := putF X4 hx hZ hown (host := "") (Or.inl (hw _ (List.mem_of_getElem? (i := 16) rfl))) Via.refl e4 f12 f9 (Or.inr ⟨(hw _ (List.mem_of_getElem? (i := 17) rfl)), rfl, hnm⟩) (hw _ (List.mem_of_getElem? (i := 2) rfl)) (ty := .int) (by decide) rfl rfl (g := (mkF m 22 #[.val (.ref a1), .val (.int p2), .val (.int p3), .val (.int p4), .val (.int p5)] [(.int p5), (.ref a1)])) rfl rfl (hb hby d1_22)
  have Fw5 := f12.same W5
  have f13 := f9.wr W5
  have f14 := f10.other W5 (Or.inr (slot_ne (Or.inr (hw _ (List.mem_of_getElem? (i := 11) rfl))) (Or.inr (hw _ (List.mem_of_getElem? (i := 17) rfl))) (by decide) (t := .int) (t' := .int) (by decide) (by decide)))
  have f15 := f11.other W5 (Or.inr (slot_ne (Or.inr (hw _ (List.mem_of_getElem? (i := 13) rfl))) (Or.inr (hw _ (List.mem_of_getElem? (i := 17) rfl))) (by decide) (t := .int) (t' := .int) (by decide) (by decide)))
  have f16 := Fw4.other W5 (Or.inr (slot_ne (Or.inr (hw _ (List.mem_of_getElem? (i := 15) rfl))) (Or.inr (hw _ (List.mem_of_getElem? (i := 17) rfl))) (by decide) (t := .int) (t' := .int) (by decide) (by decide)))
  have N5 := Fr.snoc X5 N4 g_a1
  have K5 : Keep h0 h5 [a1] := K4.wr W5 (Or.inl (List.mem_of_getElem? (i := 0) rfl))
  refine Done.of (g' := (mkF m 25 #[.val (.ref a1), .val (.int p2), .val (.int p3), .val (.int p4), .val (.int p5)] [])) st5 ?_
  exact doneV X5 hx hret hlk (hb hby d1_25) (by show _ ∧ _; rw [e5]; exact ⟨rfl, N5, K5, f13, f14, f15, f16, Fw5⟩) (by decide) (by decide)
theorem ef_1 (m : MethodId) (a1 : Addr) (p2 : Int32) (p3 : Int32) (p4 : Int32) (p5 : Int32) : entryFrame m #[(.ref a1), (.int p2), (.int p3), (.int p4), (.int p5)] 5 = mkF m 0 #[.val (.ref a1), .val (.int p2), .val (.int p3), .val (.int p4), .val (.int p5)] [] := by first | (simp [entryFrame, mkF, argsToLocals, Value.category, maxLocals]; done) | rfl
theorem pn_1 : plainName "com/example/noreply/noreply/engine/HeapLayout" = true := by first | (simp [plainName, overriddenIn]; done) | decide +kernel
def Q1 (Z : State) (a1 : Addr) (p2 : Int32) (p3 : Int32) (p4 : Int32) (p5 : Int32) (h0 : Heap) (n0 : Nat) (u_referenceBytes : Value) (u_headerBytes : Value) (u_arrayHeaderBytes : Value) (u_alignment : Value) (v : Option Value) (h : Heap) (L : List Loc) : Prop := v = none ∧ Fr n0 L ∧ Keep h0 h [a1] ∧ Exa Z h a1 "com/example/noreply/noreply/engine/HeapLayout" ∧ Fld Z h a1 "com/example/noreply/noreply/engine/HeapLayout" "referenceBytes" "I" (.int p2) ∧ Fld Z h a1 "com/example/noreply/noreply/engine/HeapLayout" "headerBytes" "I" (.int p3) ∧ Fld Z h a1 "com/example/noreply/noreply/engine/HeapLayout" "arrayHeaderBytes" "I" (.int p4) ∧ Fld Z h a1 "com/example/noreply/noreply/engine/HeapLayout" "alignment" "I" (.int p5)
set_option maxRecDepth 65536 in
set_option maxHeartbeats 40000000 in
theorem rm1 (l : Launch) (Z : State) (a0 : Array Value) (hw : ∀ d ∈ tables_1, d.before a0 Z = true) (ws : List Jvm.Cond) (a1 : Addr) (p2 : Int32) (p3 : Int32) (p4 : Int32) (p5 : Int32) (h0 : Heap) (n0 : Nat) (u_referenceBytes : Value) (u_headerBytes : Value) (u_arrayHeaderBytes : Value) (u_alignment : Value) (E_a1 : Exa Z h0 a1 "com/example/noreply/noreply/engine/HeapLayout") (F_referenceBytes_a1 : Fld Z h0 a1 "com/example/noreply/noreply/engine/HeapLayout" "referenceBytes" "I" u_referenceBytes) (F_headerBytes_a1 : Fld Z h0 a1 "com/example/noreply/noreply/engine/HeapLayout" "headerBytes" "I" u_headerBytes) (F_arrayHeaderBytes_a1 : Fld Z h0 a1 "com/example/noreply/noreply/engine/HeapLayout" "arrayHeaderBytes" "I" u_arrayHeaderBytes) (F_alignment_a1 : Fld Z h0 a1 "com/example/noreply/noreply/engine/HeapLayout" "alignment" "I" u_alignment) (g_a1 : n0 ≤ a1) :
    MetFree l (⟨"com/example/noreply/noreply/engine/HeapLayout", "<init>", "(IIII)V"⟩ : MethodName) (head1 (Jvm.Cond.code (⟨"com/example/noreply/noreply/engine/HeapLayout", "<init>", "(IIII)V"⟩ : MethodName) prog_6_method_1_code 5 none :: ws) ({ frames := 1, cells := 0, slots := 0, locals := 12 } : Room)) (fun a U => a = #[(.ref a1), (.int p2), (.int p3), (.int p4), (.int p5)] ∧ Z.Warmed39 U.vm ∧ U.heap = h0) (fun _ _ _ _ _ => True) (fun _ U o U' => ∃ v L, o = .returned v ∧ (Q1 Z a1 p2 p3 p4 p5 h0 n0 u_referenceBytes u_headerBytes u_arrayHeaderBytes u_alignment) v U'.heap L ∧ FrameEnd U o U' L ({ frames := 1, cells := 0, slots := 0, locals := 12 } : Room).cells ({ frames := 1, cells := 0, slots := 0, locals := 12 } : Room).slots) := by
  refine MetFree.of_bodySF (plainFor_of_name pn_1) hisR ?_
  intro p e s m args below meth c s₁ Bd hml0 hP hK
  obtain ⟨rfl, hZ, hh⟩ := hP
  have hown : s.vm.findClass "com/example/noreply/noreply/engine/HeapLayout" = some m.cls := findClass_of_methodNamed Bd.named
  have hnm := (name_of_methodNamed Bd.named Bd.method).1
  have X0 : Stand p l e ({ frames := 1, cells := 0, slots := 0, locals := 12 } : Room) s m #[(.ref a1), (.int p2), (.int p3), (.int p4), (.int p5)] below meth c s₁ [] 0 0 := Stand.of_body Bd
  have e0 : s₁.heap = h0 := by rw [← hh, Bd.state]; rfl
  have d := bk1_0 (n0 := n0) Bd.exec hZ hw Bd.bytes hml0 hown hnm Bd.returns (BodyLoose.notSynchronized Bd) X0 (Fr.nil n0) e0 a1 p2 p3 p4 p5 u_referenceBytes u_headerBytes u_arrayHeaderBytes u_alignment E_a1 F_referenceBytes_a1 F_headerBytes_a1 F_arrayHeaderBytes_a1 F_alignment_a1 g_a1
  have d2 : Done p e below s ({ frames := 1, cells := 0, slots := 0, locals := 12 } : Room) (Q1 Z a1 p2 p3 p4 p5 h0 n0 u_referenceBytes u_headerBytes u_arrayHeaderBytes u_alignment) s₁ (entryFrame m #[(.ref a1), (.int p2), (.int p3), (.int p4), (.int p5)] 5) := by rw [ef_1]; exact d
  exact d2
theorem d4_0 : decode prog_6_method_5_code 0 = .ok (.lload_n 1, 1) := by decide +kernel
theorem d4_1 : decode prog_6_method_5_code 1 = .ok (.aload_n 0, 1) := by decide +kernel
theorem d4_2 : decode prog_6_method_5_code 2 = .ok (.getfield 19, 3) := by decide +kernel
theorem d4_5 : decode prog_6_method_5_code 5 = .ok (.i2l, 1) := by decide +kernel
theorem d4_6 : decode prog_6_method_5_code 6 = .ok (.ladd, 1) := by decide +kernel
theorem d4_7 : decode prog_6_method_5_code 7 = .ok (.lconst 1, 1) := by decide +kernel
theorem d4_8 : decode prog_6_method_5_code 8 = .ok (.lsub, 1) := by decide +kernel
theorem d4_9 : decode prog_6_method_5_code 9 = .ok (.aload_n 0, 1) := by decide +kernel
theorem d4_10 : decode prog_6_method_5_code 10 = .ok (.getfield 19, 3) := by decide +kernel
theorem d4_13 : decode prog_6_method_5_code 13 = .ok (.i2l, 1) := by decide +kernel
theorem d4_14 : decode prog_6_method_5_code 14 = .ok (.ldiv, 1) := by decide +kernel
theorem d4_15 : decode prog_6_method_5_code 15 = .ok (.aload_n 0, 1) := by decide +kernel
theorem d4_16 : decode prog_6_method_5_code 16 = .ok (.getfield 19, 3) := by decide +kernel
theorem d4_19 : decode prog_6_method_5_code 19 = .ok (.i2l, 1) := by decide +kernel
theorem d4_20 : decode prog_6_method_5_code 20 = .ok (.lmul, 1) := by decide +kernel
theorem d4_21 : decode prog_6_method_5_code 21 = .ok (.lreturn, 1) := by decide +kernel
def F4_0 (q2 : Int64) (w : Int32) : Int64 := ((((q2 + (w.toInt64)) - (1 : Int64)) / (w.toInt64)) * (w.toInt64))
set_option maxRecDepth 65536 in
set_option maxHeartbeats 40000000 in
theorem bk4_0 {p : Program} {l : Launch} {e : Env} {s : State} {m : MethodId} {args : Array Value} {below : List Frame} {meth : Method} {c : Code} {T0 : State} {locs : List Loc} {Z : State} {a0 : Array Value} {h0 : Heap} {n0 : Nat}
    (hx : p.tables.exec = Jvm.exec) (hZ : Z.Warmed39 s.vm) (hw : ∀ d ∈ tables_1, d.before a0 Z = true) (hby : c.code = prog_6_method_5_code) (hml : c.maxLocals = 3) (hown : s.vm.findClass "com/example/noreply/noreply/engine/HeapLayout" = some m.cls) (hnm : meth.name = "aligned") (hret : meth.sig.returnType = some .long) (hlk : meth.locks = false)
    (X0 : Stand p l e ({ frames := 0, cells := 0, slots := 0, locals := 0 } : Room) s m args below meth c T0 locs 0 0) (N0 : Fr n0 locs) (e0 : T0.heap = h0) (a1 : Addr) (q2 : Int64) (w : Int32) (F_alignment_a1 : Fld Z h0 a1 "com/example/noreply/noreply/engine/HeapLayout" "alignment" "I" (.int w)) (hnz : ¬ (w.toInt64 = (0 : Int64))) :
    Done p e below s ({ frames := 0, cells := 0, slots := 0, locals := 0 } : Room) (Qp h0 n0 (.long (F4_0 q2 w))) T0 (mkF m 0 #[.val (.ref a1), .val (.long q2), .second] []) := by
  unfold F4_0
  refine Done.of (T' := T0) (g' := (mkF m 2 #[.val (.ref a1), .val (.long q2), .second] [(.ref a1), (.long q2)])) (fun t k => ?_) ?_
  · show Steps p.tables e below (T0.setTop (mkF m 0 #[.val (.ref a1), .val (.long q2), .second] [])) t
    refine XS.lloadN X0.here hx rfl (hb hby d4_0) rfl ?_
    show Steps p.tables e below (T0.setTop (mkF m 1 #[.val (.ref a1), .val (.long q2), .second] [(.long q2)])) t
    refine XS.aloadN X0.here hx rfl (hb hby d4_1) rfl rfl ?_
    exact k
  obtain ⟨T1, X1, e1, st1⟩ := getF X0 hx hZ hown (host := "") (Or.inl (hw _ (List.mem_of_getElem? (i := 16) rfl))) Via.refl e0 F_alignment_a1 (g := (mkF m 2 #[.val (.ref a1), .val (.long q2), .second] [(.ref a1), (.long q2)])) rfl rfl (hb hby d4_2)
  refine Done.of (g' := (mkF m 5 #[.val (.ref a1), .val (.long q2), .second] [(.int w), (.long q2)])) st1 ?_
  refine Done.of (T' := T1) (g' := (mkF m 10 #[.val (.ref a1), .val (.long q2), .second] [(.ref a1), (.long ((q2 + (w.toInt64)) - (1 : Int64)))])) (fun t k => ?_) ?_
  · show Steps p.tables e below (T1.setTop (mkF m 5 #[.val (.ref a1), .val (.long q2), .second] [(.int w), (.long q2)])) t
    refine XS.i2l X1.here hx rfl (hb hby d4_5) rfl ?_
    show Steps p.tables e below (T1.setTop (mkF m 6 #[.val (.ref a1), .val (.long q2), .second] [(.long (w.toInt64)), (.long q2)])) t
    refine XS.ladd X1.here hx rfl (hb hby d4_6) rfl ?_
    show Steps p.tables e below (T1.setTop (mkF m 7 #[.val (.ref a1), .val (.long q2), .second] [(.long (q2 + (w.toInt64)))])) t
    refine XS.lconst X1.here hx rfl (hb hby d4_7) ?_
    show Steps p.tables e below (T1.setTop (mkF m 8 #[.val (.ref a1), .val (.long q2), .second] [(.long (1 : Int64)), (.long (q2 + (w.toInt64)))])) t
    refine XS.lsub X1.here hx rfl (hb hby d4_8) rfl ?_
    show Steps p.tables e below (T1.setTop (mkF m 9 #[.val (.ref a1), .val (.long q2), .second] [(.long ((q2 + (w.toInt64)) - (1 : Int64)))])) t
    refine XS.aloadN X1.here hx rfl (hb hby d4_9) rfl rfl ?_
    exact k
  obtain ⟨T2, X2, e2, st2⟩ := getF X1 hx hZ hown (host := "") (Or.inl (hw _ (List.mem_of_getElem? (i := 16) rfl))) Via.refl e1 F_alignment_a1 (g := (mkF m 10 #[.val (.ref a1), .val (.long q2), .second] [(.ref a1), (.long ((q2 + (w.toInt64)) - (1 : Int64)))])) rfl rfl (hb hby d4_10)
  refine Done.of (g' := (mkF m 13 #[.val (.ref a1), .val (.long q2), .second] [(.int w), (.long ((q2 + (w.toInt64)) - (1 : Int64)))])) st2 ?_
  refine Done.of (T' := T2) (g' := (mkF m 16 #[.val (.ref a1), .val (.long q2), .second] [(.ref a1), (.long (((q2 + (w.toInt64)) - (1 : Int64)) / (w.toInt64)))])) (fun t k => ?_) ?_
  · show Steps p.tables e below (T2.setTop (mkF m 13 #[.val (.ref a1), .val (.long q2), .second] [(.int w), (.long ((q2 + (w.toInt64)) - (1 : Int64)))])) t
    refine XS.i2l X2.here hx rfl (hb hby d4_13) rfl ?_
    show Steps p.tables e below (T2.setTop (mkF m 14 #[.val (.ref a1), .val (.long q2), .second] [(.long (w.toInt64)), (.long ((q2 + (w.toInt64)) - (1 : Int64)))])) t
    refine XS.ldiv X2.here hx rfl (hb hby d4_14) rfl hnz ?_
    show Steps p.tables e below (T2.setTop (mkF m 15 #[.val (.ref a1), .val (.long q2), .second] [(.long (((q2 + (w.toInt64)) - (1 : Int64)) / (w.toInt64)))])) t
    refine XS.aloadN X2.here hx rfl (hb hby d4_15) rfl rfl ?_
    exact k
  obtain ⟨T3, X3, e3, st3⟩ := getF X2 hx hZ hown (host := "") (Or.inl (hw _ (List.mem_of_getElem? (i := 16) rfl))) Via.refl e2 F_alignment_a1 (g := (mkF m 16 #[.val (.ref a1), .val (.long q2), .second] [(.ref a1), (.long (((q2 + (w.toInt64)) - (1 : Int64)) / (w.toInt64)))])) rfl rfl (hb hby d4_16)
  refine Done.of (g' := (mkF m 19 #[.val (.ref a1), .val (.long q2), .second] [(.int w), (.long (((q2 + (w.toInt64)) - (1 : Int64)) / (w.toInt64)))])) st3 ?_
  refine Done.of (T' := T3) (g' := (mkF m 21 #[.val (.ref a1), .val (.long q2), .second] [(.long ((((q2 + (w.toInt64)) - (1 : Int64)) / (w.toInt64)) * (w.toInt64)))])) (fun t k => ?_) ?_
  · show Steps p.tables e below (T3.setTop (mkF m 19 #[.val (.ref a1), .val (.long q2), .second] [(.int w), (.long (((q2 + (w.toInt64)) - (1 : Int64)) / (w.toInt64)))])) t
    refine XS.i2l X3.here hx rfl (hb hby d4_19) rfl ?_
    show Steps p.tables e below (T3.setTop (mkF m 20 #[.val (.ref a1), .val (.long q2), .second] [(.long (w.toInt64)), (.long (((q2 + (w.toInt64)) - (1 : Int64)) / (w.toInt64)))])) t
    refine XS.lmul X3.here hx rfl (hb hby d4_20) rfl ?_
    exact k
  exact doneJ X3 hx hret hlk (hb hby d4_21) ⟨rfl, N0, e3⟩ (by decide) (by decide)
theorem ef_4 (m : MethodId) (a1 : Addr) (q2 : Int64) : entryFrame m #[(.ref a1), (.long q2)] 3 = mkF m 0 #[.val (.ref a1), .val (.long q2), .second] [] := by first | (simp [entryFrame, mkF, argsToLocals, Value.category, maxLocals]; done) | rfl
theorem pn_4 : plainName "com/example/noreply/noreply/engine/HeapLayout" = true := by first | (simp [plainName, overriddenIn]; done) | decide +kernel
set_option maxRecDepth 65536 in
set_option maxHeartbeats 40000000 in
theorem rm4 (l : Launch) (Z : State) (a0 : Array Value) (hw : ∀ d ∈ tables_1, d.before a0 Z = true) (ws : List Jvm.Cond) (a1 : Addr) (q2 : Int64) (h0 : Heap) (n0 : Nat) (w : Int32) (F_alignment_a1 : Fld Z h0 a1 "com/example/noreply/noreply/engine/HeapLayout" "alignment" "I" (.int w)) (hnz : ¬ (w.toInt64 = (0 : Int64))) :
    MetFree l (⟨"com/example/noreply/noreply/engine/HeapLayout", "aligned", "(J)J"⟩ : MethodName) (head1 (Jvm.Cond.code (⟨"com/example/noreply/noreply/engine/HeapLayout", "aligned", "(J)J"⟩ : MethodName) prog_6_method_5_code 3 (some .long) :: ws) ({ frames := 0, cells := 0, slots := 0, locals := 0 } : Room)) (fun a U => a = #[(.ref a1), (.long q2)] ∧ Z.Warmed39 U.vm ∧ U.heap = h0) (fun _ _ _ _ _ => True) (fun _ U o U' => ∃ v L, o = .returned v ∧ (Qp h0 n0 (.long (F4_0 q2 w))) v U'.heap L ∧ FrameEnd U o U' L ({ frames := 0, cells := 0, slots := 0, locals := 0 } : Room).cells ({ frames := 0, cells := 0, slots := 0, locals := 0 } : Room).slots) := by
  refine MetFree.of_bodySF (plainFor_of_name pn_4) hisR ?_
  intro p e s m args below meth c s₁ Bd hml0 hP hK
  obtain ⟨rfl, hZ, hh⟩ := hP
  have hown : s.vm.findClass "com/example/noreply/noreply/engine/HeapLayout" = some m.cls := findClass_of_methodNamed Bd.named
  have hnm := (name_of_methodNamed Bd.named Bd.method).1
  have X0 : Stand p l e ({ frames := 0, cells := 0, slots := 0, locals := 0 } : Room) s m #[(.ref a1), (.long q2)] below meth c s₁ [] 0 0 := Stand.of_body Bd
  have e0 : s₁.heap = h0 := by rw [← hh, Bd.state]; rfl
  have d := bk4_0 (n0 := n0) Bd.exec hZ hw Bd.bytes hml0 hown hnm Bd.returns (BodyLoose.notSynchronized Bd) X0 (Fr.nil n0) e0 a1 q2 w F_alignment_a1 hnz
  have d2 : Done p e below s ({ frames := 0, cells := 0, slots := 0, locals := 0 } : Room) (Qp h0 n0 (.long (F4_0 q2 w))) s₁ (entryFrame m #[(.ref a1), (.long q2)] 3) := by rw [ef_4]; exact d
  exact d2
theorem pd_0 : parseMethodDescriptor "(J)J" = some ⟨[.long], some .long⟩ := by decide +kernel
theorem d3_0 : decode prog_6_method_3_code 0 = .ok (.aload_n 0, 1) := by decide +kernel
theorem d3_1 : decode prog_6_method_3_code 1 = .ok (.aload_n 0, 1) := by decide +kernel
theorem d3_2 : decode prog_6_method_3_code 2 = .ok (.getfield 13, 3) := by decide +kernel
theorem d3_5 : decode prog_6_method_3_code 5 = .ok (.i2l, 1) := by decide +kernel
theorem d3_6 : decode prog_6_method_3_code 6 = .ok (.iload_n 1, 1) := by decide +kernel
theorem d3_7 : decode prog_6_method_3_code 7 = .ok (.i2l, 1) := by decide +kernel
theorem d3_8 : decode prog_6_method_3_code 8 = .ok (.aload_n 0, 1) := by decide +kernel
theorem d3_9 : decode prog_6_method_3_code 9 = .ok (.getfield 7, 3) := by decide +kernel
theorem d3_12 : decode prog_6_method_3_code 12 = .ok (.i2l, 1) := by decide +kernel
theorem d3_13 : decode prog_6_method_3_code 13 = .ok (.lmul, 1) := by decide +kernel
theorem d3_14 : decode prog_6_method_3_code 14 = .ok (.ladd, 1) := by decide +kernel
theorem d3_15 : decode prog_6_method_3_code 15 = .ok (.iload_n 2, 1) := by decide +kernel
theorem d3_16 : decode prog_6_method_3_code 16 = .ok (.i2l, 1) := by decide +kernel
theorem d3_17 : decode prog_6_method_3_code 17 = .ok (.ladd, 1) := by decide +kernel
theorem d3_18 : decode prog_6_method_3_code 18 = .ok (.invokevirtual 53, 3) := by decide +kernel
theorem d3_21 : decode prog_6_method_3_code 21 = .ok (.lreturn, 1) := by decide +kernel
def F3_0 (p2 : Int32) (p3 : Int32) (w1 : Int32) (w2 : Int32) (w3 : Int32) : Int64 := (F4_0 (((w1.toInt64) + ((p2.toInt64) * (w2.toInt64))) + (p3.toInt64)) w3)
set_option maxRecDepth 65536 in
set_option maxHeartbeats 40000000 in
theorem bk3_0 {p : Program} {l : Launch} {e : Env} {s : State} {m : MethodId} {args : Array Value} {below : List Frame} {meth : Method} {c : Code} {T0 : State} {locs : List Loc} {Z : State} {a0 : Array Value} {h0 : Heap} {n0 : Nat}
    (hx : p.tables.exec = Jvm.exec) (hZ : Z.Warmed39 s.vm) (hw : ∀ d ∈ tables_1, d.before a0 Z = true) (hby : c.code = prog_6_method_3_code) (hml : c.maxLocals = 3) (hown : s.vm.findClass "com/example/noreply/noreply/engine/HeapLayout" = some m.cls) (hnm : meth.name = "objectBytes") (hret : meth.sig.returnType = some .long) (hlk : meth.locks = false)
    (X0 : Stand p l e ({ frames := 1, cells := 0, slots := 0, locals := 14 } : Room) s m args below meth c T0 locs 0 0) (N0 : Fr n0 locs) (e0 : T0.heap = h0) (a1 : Addr) (p2 : Int32) (p3 : Int32) (w1 : Int32) (w2 : Int32) (w3 : Int32) (E_a1 : Exa Z h0 a1 "com/example/noreply/noreply/engine/HeapLayout") (F_headerBytes_a1 : Fld Z h0 a1 "com/example/noreply/noreply/engine/HeapLayout" "headerBytes" "I" (.int w1)) (F_referenceBytes_a1 : Fld Z h0 a1 "com/example/noreply/noreply/engine/HeapLayout" "referenceBytes" "I" (.int w2)) (F_alignment_a1 : Fld Z h0 a1 "com/example/noreply/noreply/engine/HeapLayout" "alignment" "I" (.int w3)) (hnz : ¬ (w3.toInt64 = (0 : Int64))) :
    Done p e below s ({ frames := 1, cells := 0, slots := 0, locals := 14 } : Room) (Qp h0 n0 (.long (F3_0 p2 p3 w1 w2 w3))) T0 (mkF m 0 #[.val (.ref a1), .val (.int p2), .val (.int p3)] []) := by
  unfold F3_0
  refine Done.of (T' := T0) (g' := (mkF m 2 #[.val (.ref a1), .val (.int p2), .val (.int p3)] [(.ref a1), (.ref a1)])) (fun t k => ?_) ?_
  · show Steps p.tables e below (T0.setTop (mkF m 0 #[.val (.ref a1), .val (.int p2), .val (.int p3)] [])) t
    refine XS.aloadN X0.here hx rfl (hb hby d3_0) rfl rfl ?_
    show Steps p.tables e below (T0.setTop (mkF m 1 #[.val (.ref a1), .val (.int p2), .val (.int p3)] [(.ref a1)])) t
    refine XS.aloadN X0.here hx rfl (hb hby d3_1) rfl rfl ?_
    exact k
  obtain ⟨T1, X1, e1, st1⟩ := getF X0 hx hZ hown (host := "") (Or.inl (hw _ (List.mem_of_getElem? (i := 12) rfl))) Via.refl e0 F_headerBytes_a1 (g := (mkF m 2 #[.val (.ref a1), .val (.int p2), .val (.int p3)] [(.ref a1), (.ref a1)])) rfl rfl (hb hby d3_2)
  refine Done.of (g' := (mkF m 5 #[.val (.ref a1), .val (.int p2), .val (.int p3)] [(.int w1), (.ref a1)])) st1 ?_
  refine Done.of (T' := T1) (g' := (mkF m 9 #[.val (.ref a1), .val (.int p2), .val (.int p3)] [(.ref a1), (.long (p2.toInt64)), (.long (w1.toInt64)), (.ref a1)])) (fun t k => ?_) ?_
  · show Steps p.tables e below (T1.setTop (mkF m 5 #[.val (.ref a1), .val (.int p2), .val (.int p3)] [(.int w1), (.ref a1)])) t
    refine XS.i2l X1.here hx rfl (hb hby d3_5) rfl ?_
    show Steps p.tables e below (T1.setTop (mkF m 6 #[.val (.ref a1), .val (.int p2), .val (.int p3)] [(.long (w1.toInt64)), (.ref a1)])) t
    refine XS.iloadN X1.here hx rfl (hb hby d3_6) rfl ?_
    show Steps p.tables e below (T1.setTop (mkF m 7 #[.val (.ref a1), .val (.int p2), .val (.int p3)] [(.int p2), (.long (w1.toInt64)), (.ref a1)])) t
    refine XS.i2l X1.here hx rfl (hb hby d3_7) rfl ?_
    show Steps p.tables e below (T1.setTop (mkF m 8 #[.val (.ref a1), .val (.int p2), .val (.int p3)] [(.long (p2.toInt64)), (.long (w1.toInt64)), (.ref a1)])) t
    refine XS.aloadN X1.here hx rfl (hb hby d3_8) rfl rfl ?_
    exact k
  obtain ⟨T2, X2, e2, st2⟩ := getF X1 hx hZ hown (host := "") (Or.inl (hw _ (List.mem_of_getElem? (i := 10) rfl))) Via.refl e1 F_referenceBytes_a1 (g := (mkF m 9 #[.val (.ref a1), .val (.int p2), .val (.int p3)] [(.ref a1), (.long (p2.toInt64)), (.long (w1.toInt64)), (.ref a1)])) rfl rfl (hb hby d3_9)
  refine Done.of (g' := (mkF m 12 #[.val (.ref a1), .val (.int p2), .val (.int p3)] [(.int w2), (.long (p2.toInt64)), (.long (w1.toInt64)), (.ref a1)])) st2 ?_
  refine Done.of (T' := T2) (g' := (mkF m 18 #[.val (.ref a1), .val (.int p2), .val (.int p3)] [(.long (((w1.toInt64) + ((p2.toInt64) * (w2.toInt64))) + (p3.toInt64))), (.ref a1)])) (fun t k => ?_) ?_
  · show Steps p.tables e below (T2.setTop (mkF m 12 #[.val (.ref a1), .val (.int p2), .val (.int p3)] [(.int w2), (.long (p2.toInt64)), (.long (w1.toInt64)), (.ref a1)])) t
    refine XS.i2l X2.here hx rfl (hb hby d3_12) rfl ?_
    show Steps p.tables e below (T2.setTop (mkF m 13 #[.val (.ref a1), .val (.int p2), .val (.int p3)] [(.long (w2.toInt64)), (.long (p2.toInt64)), (.long (w1.toInt64)), (.ref a1)])) t
    refine XS.lmul X2.here hx rfl (hb hby d3_13) rfl ?_
    show Steps p.tables e below (T2.setTop (mkF m 14 #[.val (.ref a1), .val (.int p2), .val (.int p3)] [(.long ((p2.toInt64) * (w2.toInt64))), (.long (w1.toInt64)), (.ref a1)])) t
    refine XS.ladd X2.here hx rfl (hb hby d3_14) rfl ?_
    show Steps p.tables e below (T2.setTop (mkF m 15 #[.val (.ref a1), .val (.int p2), .val (.int p3)] [(.long ((w1.toInt64) + ((p2.toInt64) * (w2.toInt64)))), (.ref a1)])) t
    refine XS.iloadN X2.here hx rfl (hb hby d3_15) rfl ?_
    show Steps p.tables e below (T2.setTop (mkF m 16 #[.val (.ref a1), .val (.int p2), .val (.int p3)] [(.int p3), (.long ((w1.toInt64) + ((p2.toInt64) * (w2.toInt64)))), (.ref a1)])) t
    refine XS.i2l X2.here hx rfl (hb hby d3_16) rfl ?_
    show Steps p.tables e below (T2.setTop (mkF m 17 #[.val (.ref a1), .val (.int p2), .val (.int p3)] [(.long (p3.toInt64)), (.long ((w1.toInt64) + ((p2.toInt64) * (w2.toInt64)))), (.ref a1)])) t
    refine XS.ladd X2.here hx rfl (hb hby d3_17) rfl ?_
    exact k
  obtain ⟨cq3, q3a, q3b⟩ := E_a1.cell
  obtain ⟨_, _, ⟨T3, L3, k3, n3⟩, -, X3, ⟨Lc3, hQ3, l3, y3, z3⟩, st3⟩ := X2.privateBack hx (y := (⟨"com/example/noreply/noreply/engine/HeapLayout", "aligned", "(J)J"⟩ : MethodName)) hown (mvT hZ (hw _ (List.mem_of_getElem? (i := 23) rfl))) (mvT hZ (hw _ (List.mem_of_getElem? (i := 24) rfl))) (own_selP (mvT hZ (hw _ (List.mem_of_getElem? (i := 2) rfl))) (mvP hZ (hw _ (List.mem_of_getElem? (i := 25) rfl))) (mvT hZ (hw _ (List.mem_of_getElem? (i := 24) rfl))) (by decide)) (Cond.privateMethod_at (mvP hZ (hw _ (List.mem_of_getElem? (i := 25) rfl)) (args := #[]))) (mvT hZ (hw _ (List.mem_of_getElem? (i := 26) rfl))) (by decide) (backOf (W := 0) (rm4 l Z a0 hw [] a1 (((w1.toInt64) + ((p2.toInt64) * (w2.toInt64))) + (p3.toInt64)) h0 n0 w3 F_alignment_a1 hnz) hZ (hw _ (List.mem_of_getElem? (i := 26) rfl)) (hw _ (List.mem_of_getElem? (i := 3) rfl)) (by decide) (by decide)) (g := (mkF m 18 #[.val (.ref a1), .val (.int p2), .val (.int p3)] [(.long (((w1.toInt64) + ((p2.toInt64) * (w2.toInt64))) + (p3.toInt64))), (.ref a1)])) rfl (by rw [hml]; rfl) (Steps.refl _) (a := a1) (by rw [e2]; exact q3a) q3b (argsL := [(.long (((w1.toInt64) + ((p2.toInt64) * (w2.toInt64))) + (p3.toInt64)))]) (rest := []) (lenOf pd_0 rfl) rfl (by show 2 * 0 + _ ≤ _; exact Nat.le_of_eq rfl) (hb hby d3_18) (fun _ _ => ⟨rfl, e2, (by decide : 0 + 0 ≤ _), (by decide : 0 + 0 ≤ _)⟩)
  dsimp only [Pt.U, Pt.locs, Pt.cells, Pt.slots] at X3 l3 y3 z3 st3 hQ3
  subst l3 y3 z3
  obtain ⟨rfl, N3q, e3⟩ := hQ3
  have N3 := Fr.app N0 N3q
  replace X3 : Stand p l e ({ frames := 1, cells := 0, slots := 0, locals := 14 } : Room) s m args below meth c T3 _ 0 0 := X3
  refine Done.of (g' := (mkF m 21 #[.val (.ref a1), .val (.int p2), .val (.int p3)] [(.long (F4_0 (((w1.toInt64) + ((p2.toInt64) * (w2.toInt64))) + (p3.toInt64)) w3))])) (fun t k => st3.trans k) ?_
  exact doneJ X3 hx hret hlk (hb hby d3_21) ⟨rfl, N3, e3⟩ (by decide) (by decide)
theorem ef_3 (m : MethodId) (a1 : Addr) (p2 : Int32) (p3 : Int32) : entryFrame m #[(.ref a1), (.int p2), (.int p3)] 3 = mkF m 0 #[.val (.ref a1), .val (.int p2), .val (.int p3)] [] := by first | (simp [entryFrame, mkF, argsToLocals, Value.category, maxLocals]; done) | rfl
theorem pn_3 : plainName "com/example/noreply/noreply/engine/HeapLayout" = true := by first | (simp [plainName, overriddenIn]; done) | decide +kernel
set_option maxRecDepth 65536 in
set_option maxHeartbeats 40000000 in
theorem rm3 (l : Launch) (Z : State) (a0 : Array Value) (hw : ∀ d ∈ tables_1, d.before a0 Z = true) (ws : List Jvm.Cond) (a1 : Addr) (p2 : Int32) (p3 : Int32) (h0 : Heap) (n0 : Nat) (w1 : Int32) (w2 : Int32) (w3 : Int32) (E_a1 : Exa Z h0 a1 "com/example/noreply/noreply/engine/HeapLayout") (F_headerBytes_a1 : Fld Z h0 a1 "com/example/noreply/noreply/engine/HeapLayout" "headerBytes" "I" (.int w1)) (F_referenceBytes_a1 : Fld Z h0 a1 "com/example/noreply/noreply/engine/HeapLayout" "referenceBytes" "I" (.int w2)) (F_alignment_a1 : Fld Z h0 a1 "com/example/noreply/noreply/engine/HeapLayout" "alignment" "I" (.int w3)) (hnz : ¬ (w3.toInt64 = (0 : Int64))) :
    MetFree l (⟨"com/example/noreply/noreply/engine/HeapLayout", "objectBytes", "(II)J"⟩ : MethodName) (head1 (Jvm.Cond.code (⟨"com/example/noreply/noreply/engine/HeapLayout", "objectBytes", "(II)J"⟩ : MethodName) prog_6_method_3_code 3 (some .long) :: ws) ({ frames := 1, cells := 0, slots := 0, locals := 14 } : Room)) (fun a U => a = #[(.ref a1), (.int p2), (.int p3)] ∧ Z.Warmed39 U.vm ∧ U.heap = h0) (fun _ _ _ _ _ => True) (fun _ U o U' => ∃ v L, o = .returned v ∧ (Qp h0 n0 (.long (F3_0 p2 p3 w1 w2 w3))) v U'.heap L ∧ FrameEnd U o U' L ({ frames := 1, cells := 0, slots := 0, locals := 14 } : Room).cells ({ frames := 1, cells := 0, slots := 0, locals := 14 } : Room).slots) := by
  refine MetFree.of_bodySF (plainFor_of_name pn_3) hisR ?_
  intro p e s m args below meth c s₁ Bd hml0 hP hK
  obtain ⟨rfl, hZ, hh⟩ := hP
  have hown : s.vm.findClass "com/example/noreply/noreply/engine/HeapLayout" = some m.cls := findClass_of_methodNamed Bd.named
  have hnm := (name_of_methodNamed Bd.named Bd.method).1
  have X0 : Stand p l e ({ frames := 1, cells := 0, slots := 0, locals := 14 } : Room) s m #[(.ref a1), (.int p2), (.int p3)] below meth c s₁ [] 0 0 := Stand.of_body Bd
  have e0 : s₁.heap = h0 := by rw [← hh, Bd.state]; rfl
  have d := bk3_0 (n0 := n0) Bd.exec hZ hw Bd.bytes hml0 hown hnm Bd.returns (BodyLoose.notSynchronized Bd) X0 (Fr.nil n0) e0 a1 p2 p3 w1 w2 w3 E_a1 F_headerBytes_a1 F_referenceBytes_a1 F_alignment_a1 hnz
  have d2 : Done p e below s ({ frames := 1, cells := 0, slots := 0, locals := 14 } : Room) (Qp h0 n0 (.long (F3_0 p2 p3 w1 w2 w3))) s₁ (entryFrame m #[(.ref a1), (.int p2), (.int p3)] 3) := by rw [ef_3]; exact d
  exact d2
theorem pd_1 : parseMethodDescriptor "(IIII)V" = some ⟨[.int, .int, .int, .int], none⟩ := by decide +kernel
theorem pd_2 : parseMethodDescriptor "(II)J" = some ⟨[.int, .int], some .long⟩ := by decide +kernel
theorem own_al (p4 : Int32) : ((((p4 &&& (1023 : Int32)) + (1 : Int32))).toInt64).toInt = p4.toInt % 1024 + 1 := by
  have h := c_mask p4 1023 10 (by decide) (by decide)
  have a := c_iadd (p4 &&& 1023) 1
  have r := rng32 ((p4 &&& 1023) + 1)
  have l : (1 : Int32).toInt = 1 := rfl
  rw [c_i2l]; omega
theorem own_nz (p4 : Int32) : ¬ ((((p4 &&& (1023 : Int32)) + (1 : Int32)).toInt64) = (0 : Int64)) := by
  have := own_al p4
  have l : (0 : Int64).toInt = 0 := rfl
  rw [← Int64.toInt_inj]; omega
def F0_0 (p1 : Int32) (p2 : Int32) (p3 : Int32) (p4 : Int32) : Int32 := (if ((F3_0 (p1 &&& (2147483647 : Int32)) (p2 &&& (2147483647 : Int32)) (((p3.toUInt32 >>> ((4 : Int32) &&& 31).toUInt32).toInt32) &&& (31 : Int32)) (p3 &&& (15 : Int32)) ((p4 &&& (1023 : Int32)) + (1 : Int32))) - ((F3_0 (p1 &&& (2147483647 : Int32)) (p2 &&& (2147483647 : Int32)) (((p3.toUInt32 >>> ((4 : Int32) &&& 31).toUInt32).toInt32) &&& (31 : Int32)) (p3 &&& (15 : Int32)) ((p4 &&& (1023 : Int32)) + (1 : Int32))) / (((p4 &&& (1023 : Int32)) + (1 : Int32)).toInt64)) * (((p4 &&& (1023 : Int32)) + (1 : Int32)).toInt64)) = (0 : Int64) then (if (F3_0 (p1 &&& (2147483647 : Int32)) (p2 &&& (2147483647 : Int32)) (((p3.toUInt32 >>> ((4 : Int32) &&& 31).toUInt32).toInt32) &&& (31 : Int32)) (p3 &&& (15 : Int32)) ((p4 &&& (1023 : Int32)) + (1 : Int32))) < ((((((p3.toUInt32 >>> ((4 : Int32) &&& 31).toUInt32).toInt32) &&& (31 : Int32)).toInt64) + (((p1 &&& (2147483647 : Int32)).toInt64) * ((p3 &&& (15 : Int32)).toInt64))) + ((p2 &&& (2147483647 : Int32)).toInt64)) then (0 : Int32) else (if ((F3_0 (p1 &&& (2147483647 : Int32)) (p2 &&& (2147483647 : Int32)) (((p3.toUInt32 >>> ((4 : Int32) &&& 31).toUInt32).toInt32) &&& (31 : Int32)) (p3 &&& (15 : Int32)) ((p4 &&& (1023 : Int32)) + (1 : Int32))) - ((((((p3.toUInt32 >>> ((4 : Int32) &&& 31).toUInt32).toInt32) &&& (31 : Int32)).toInt64) + (((p1 &&& (2147483647 : Int32)).toInt64) * ((p3 &&& (15 : Int32)).toInt64))) + ((p2 &&& (2147483647 : Int32)).toInt64))) < (((p4 &&& (1023 : Int32)) + (1 : Int32)).toInt64) then (1 : Int32) else (0 : Int32))) else (0 : Int32))
set_option maxRecDepth 65536 in
set_option maxHeartbeats 40000000 in
theorem bk0_0 {p : Program} {l : Launch} {e : Env} {s : State} {m : MethodId} {args : Array Value} {below : List Frame} {meth : Method} {c : Code} {T0 : State} {locs : List Loc} {Z : State} {a0 : Array Value} {h0 : Heap} {n0 : Nat}
    (hx : p.tables.exec = Jvm.exec) (hZ : Z.Warmed39 s.vm) (hw : ∀ d ∈ tables_1, d.before a0 Z = true) (hby : c.code = code) (hml : c.maxLocals = 17) (hown : s.vm.findClass "com/example/noreply/noreply/engine/HeapLayoutObjectBytesPinLaw" = some m.cls) (hnm : meth.name = "law") (hret : meth.sig.returnType = some .boolean) (hlk : meth.locks = false)
    (X0 : Stand p l e room_1 s m args below meth c T0 locs 0 0) (N0 : Fr n0 locs) (e0 : T0.heap = h0) (p1 : Int32) (p2 : Int32) (p3 : Int32) (p4 : Int32) (Z0 : n0 ≤ h0.size) :
    Done p e below s room_1 (Ql n0 (.int (F0_0 p1 p2 p3 p4))) T0 (mkF m 0 #[.val (.int p1), .val (.int p2), .val (.int p3), .val (.int p4), .unset, .unset, .unset, .unset, .unset, .unset, .unset, .unset, .unset, .unset, .unset, .unset, .unset] []) := by
  unfold F0_0
  refine Done.of (T' := T0) (g' := (mkF m 44 #[.val (.int p1), .val (.int p2), .val (.int p3), .val (.int p4), .val (.int (p1 &&& (2147483647 : Int32))), .val (.int (p2 &&& (2147483647 : Int32))), .val (.int (p3 &&& (15 : Int32))), .val (.int (((p3.toUInt32 >>> ((4 : Int32) &&& 31).toUInt32).toInt32) &&& (31 : Int32))), .val (.int (((p3.toUInt32 >>> ((9 : Int32) &&& 31).toUInt32).toInt32) &&& (31 : Int32))), .val (.int ((p4 &&& (1023 : Int32)) + (1 : Int32))), .unset, .unset, .unset, .unset, .unset, .unset, .unset] [])) (fun t k => ?_) ?_
  · show Steps p.tables e below (T0.setTop (mkF m 0 #[.val (.int p1), .val (.int p2), .val (.int p3), .val (.int p4), .unset, .unset, .unset, .unset, .unset, .unset, .unset, .unset, .unset, .unset, .unset, .unset, .unset] [])) t
    refine XS.iloadN X0.here hx rfl (hb hby at_0) rfl ?_
    show Steps p.tables e below (T0.setTop (mkF m 1 #[.val (.int p1), .val (.int p2), .val (.int p3), .val (.int p4), .unset, .unset, .unset, .unset, .unset, .unset, .unset, .unset, .unset, .unset, .unset, .unset, .unset] [(.int p1)])) t
    refine X0.ldcInt hx hown (mvT hZ (hw _ (List.mem_of_getElem? (i := 0) rfl))) (g := (mkF m 1 #[.val (.int p1), .val (.int p2), .val (.int p3), .val (.int p4), .unset, .unset, .unset, .unset, .unset, .unset, .unset, .unset, .unset, .unset, .unset, .unset, .unset] [(.int p1)])) rfl (hb hby at_1) _ ?_
    show Steps p.tables e below (T0.setTop (mkF m 3 #[.val (.int p1), .val (.int p2), .val (.int p3), .val (.int p4), .unset, .unset, .unset, .unset, .unset, .unset, .unset, .unset, .unset, .unset, .unset, .unset, .unset] [(.int (2147483647 : Int32)), (.int p1)])) t
    refine XS.iand X0.here hx rfl (hb hby at_3) rfl ?_
    show Steps p.tables e below (T0.setTop (mkF m 4 #[.val (.int p1), .val (.int p2), .val (.int p3), .val (.int p4), .unset, .unset, .unset, .unset, .unset, .unset, .unset, .unset, .unset, .unset, .unset, .unset, .unset] [(.int (p1 &&& (2147483647 : Int32)))])) t
    refine XS.istore X0.here hx rfl (hb hby at_4) rfl (l' := #[.val (.int p1), .val (.int p2), .val (.int p3), .val (.int p4), .val (.int (p1 &&& (2147483647 : Int32))), .unset, .unset, .unset, .unset, .unset, .unset, .unset, .unset, .unset, .unset, .unset, .unset]) rfl ?_
    show Steps p.tables e below (T0.setTop (mkF m 6 #[.val (.int p1), .val (.int p2), .val (.int p3), .val (.int p4), .val (.int (p1 &&& (2147483647 : Int32))), .unset, .unset, .unset, .unset, .unset, .unset, .unset, .unset, .unset, .unset, .unset, .unset] [])) t
    refine XS.iloadN X0.here hx rfl (hb hby at_6) rfl ?_
    show Steps p.tables e below (T0.setTop (mkF m 7 #[.val (.int p1), .val (.int p2), .val (.int p3), .val (.int p4), .val (.int (p1 &&& (2147483647 : Int32))), .unset, .unset, .unset, .unset, .unset, .unset, .unset, .unset, .unset, .unset, .unset, .unset] [(.int p2)])) t
    refine X0.ldcInt hx hown (mvT hZ (hw _ (List.mem_of_getElem? (i := 0) rfl))) (g := (mkF m 7 #[.val (.int p1), .val (.int p2), .val (.int p3), .val (.int p4), .val (.int (p1 &&& (2147483647 : Int32))), .unset, .unset, .unset, .unset, .unset, .unset, .unset, .unset, .unset, .unset, .unset, .unset] [(.int p2)])) rfl (hb hby at_7) _ ?_
    show Steps p.tables e below (T0.setTop (mkF m 9 #[.val (.int p1), .val (.int p2), .val (.int p3), .val (.int p4), .val (.int (p1 &&& (2147483647 : Int32))), .unset, .unset, .unset, .unset, .unset, .unset, .unset, .unset, .unset, .unset, .unset, .unset] [(.int (2147483647 : Int32)), (.int p2)])) t
    refine XS.iand X0.here hx rfl (hb hby at_9) rfl ?_
    show Steps p.tables e below (T0.setTop (mkF m 10 #[.val (.int p1), .val (.int p2), .val (.int p3), .val (.int p4), .val (.int (p1 &&& (2147483647 : Int32))), .unset, .unset, .unset, .unset, .unset, .unset, .unset, .unset, .unset, .unset, .unset, .unset] [(.int (p2 &&& (2147483647 : Int32)))])) t
    refine XS.istore X0.here hx rfl (hb hby at_10) rfl (l' := #[.val (.int p1), .val (.int p2), .val (.int p3), .val (.int p4), .val (.int (p1 &&& (2147483647 : Int32))), .val (.int (p2 &&& (2147483647 : Int32))), .unset, .unset, .unset, .unset, .unset, .unset, .unset, .unset, .unset, .unset, .unset]) rfl ?_
    show Steps p.tables e below (T0.setTop (mkF m 12 #[.val (.int p1), .val (.int p2), .val (.int p3), .val (.int p4), .val (.int (p1 &&& (2147483647 : Int32))), .val (.int (p2 &&& (2147483647 : Int32))), .unset, .unset, .unset, .unset, .unset, .unset, .unset, .unset, .unset, .unset, .unset] [])) t
    refine XS.iloadN X0.here hx rfl (hb hby at_12) rfl ?_
    show Steps p.tables e below (T0.setTop (mkF m 13 #[.val (.int p1), .val (.int p2), .val (.int p3), .val (.int p4), .val (.int (p1 &&& (2147483647 : Int32))), .val (.int (p2 &&& (2147483647 : Int32))), .unset, .unset, .unset, .unset, .unset, .unset, .unset, .unset, .unset, .unset, .unset] [(.int p3)])) t
    refine XS.bipush X0.here hx rfl (hb hby at_13) ?_
    show Steps p.tables e below (T0.setTop (mkF m 15 #[.val (.int p1), .val (.int p2), .val (.int p3), .val (.int p4), .val (.int (p1 &&& (2147483647 : Int32))), .val (.int (p2 &&& (2147483647 : Int32))), .unset, .unset, .unset, .unset, .unset, .unset, .unset, .unset, .unset, .unset, .unset] [(.int (15 : Int32)), (.int p3)])) t
    refine XS.iand X0.here hx rfl (hb hby at_15) rfl ?_
    show Steps p.tables e below (T0.setTop (mkF m 16 #[.val (.int p1), .val (.int p2), .val (.int p3), .val (.int p4), .val (.int (p1 &&& (2147483647 : Int32))), .val (.int (p2 &&& (2147483647 : Int32))), .unset, .unset, .unset, .unset, .unset, .unset, .unset, .unset, .unset, .unset, .unset] [(.int (p3 &&& (15 : Int32)))])) t
    refine XS.istore X0.here hx rfl (hb hby at_16) rfl (l' := #[.val (.int p1), .val (.int p2), .val (.int p3), .val (.int p4), .val (.int (p1 &&& (2147483647 : Int32))), .val (.int (p2 &&& (2147483647 : Int32))), .val (.int (p3 &&& (15 : Int32))), .unset, .unset, .unset, .unset, .unset, .unset, .unset, .unset, .unset, .unset]) rfl ?_
    show Steps p.tables e below (T0.setTop (mkF m 18 #[.val (.int p1), .val (.int p2), .val (.int p3), .val (.int p4), .val (.int (p1 &&& (2147483647 : Int32))), .val (.int (p2 &&& (2147483647 : Int32))), .val (.int (p3 &&& (15 : Int32))), .unset, .unset, .unset, .unset, .unset, .unset, .unset, .unset, .unset, .unset] [])) t
    refine XS.iloadN X0.here hx rfl (hb hby at_18) rfl ?_
    show Steps p.tables e below (T0.setTop (mkF m 19 #[.val (.int p1), .val (.int p2), .val (.int p3), .val (.int p4), .val (.int (p1 &&& (2147483647 : Int32))), .val (.int (p2 &&& (2147483647 : Int32))), .val (.int (p3 &&& (15 : Int32))), .unset, .unset, .unset, .unset, .unset, .unset, .unset, .unset, .unset, .unset] [(.int p3)])) t
    refine XS.iconst X0.here hx rfl (hb hby at_19) ?_
    show Steps p.tables e below (T0.setTop (mkF m 20 #[.val (.int p1), .val (.int p2), .val (.int p3), .val (.int p4), .val (.int (p1 &&& (2147483647 : Int32))), .val (.int (p2 &&& (2147483647 : Int32))), .val (.int (p3 &&& (15 : Int32))), .unset, .unset, .unset, .unset, .unset, .unset, .unset, .unset, .unset, .unset] [(.int (4 : Int32)), (.int p3)])) t
    refine XS.iushr X0.here hx rfl (hb hby at_20) rfl ?_
    show Steps p.tables e below (T0.setTop (mkF m 21 #[.val (.int p1), .val (.int p2), .val (.int p3), .val (.int p4), .val (.int (p1 &&& (2147483647 : Int32))), .val (.int (p2 &&& (2147483647 : Int32))), .val (.int (p3 &&& (15 : Int32))), .unset, .unset, .unset, .unset, .unset, .unset, .unset, .unset, .unset, .unset] [(.int ((p3.toUInt32 >>> ((4 : Int32) &&& 31).toUInt32).toInt32))])) t
    refine XS.bipush X0.here hx rfl (hb hby at_21) ?_
    show Steps p.tables e below (T0.setTop (mkF m 23 #[.val (.int p1), .val (.int p2), .val (.int p3), .val (.int p4), .val (.int (p1 &&& (2147483647 : Int32))), .val (.int (p2 &&& (2147483647 : Int32))), .val (.int (p3 &&& (15 : Int32))), .unset, .unset, .unset, .unset, .unset, .unset, .unset, .unset, .unset, .unset] [(.int (31 : Int32)), (.int ((p3.toUInt32 >>> ((4 : Int32) &&& 31).toUInt32).toInt32))])) t
    refine XS.iand X0.here hx rfl (hb hby at_23) rfl ?_
    show Steps p.tables e below (T0.setTop (mkF m 24 #[.val (.int p1), .val (.int p2), .val (.int p3), .val (.int p4), .val (.int (p1 &&& (2147483647 : Int32))), .val (.int (p2 &&& (2147483647 : Int32))), .val (.int (p3 &&& (15 : Int32))), .unset, .unset, .unset, .unset, .unset, .unset, .unset, .unset, .unset, .unset] [(.int (((p3.toUInt32 >>> ((4 : Int32) &&& 31).toUInt32).toInt32) &&& (31 : Int32)))])) t
    refine XS.istore X0.here hx rfl (hb hby at_24) rfl (l' := #[.val (.int p1), .val (.int p2), .val (.int p3), .val (.int p4), .val (.int (p1 &&& (2147483647 : Int32))), .val (.int (p2 &&& (2147483647 : Int32))), .val (.int (p3 &&& (15 : Int32))), .val (.int (((p3.toUInt32 >>> ((4 : Int32) &&& 31).toUInt32).toInt32) &&& (31 : Int32))), .unset, .unset, .unset, .unset, .unset, .unset, .unset, .unset, .unset]) rfl ?_
    show Steps p.tables e below (T0.setTop (mkF m 26 #[.val (.int p1), .val (.int p2), .val (.int p3), .val (.int p4), .val (.int (p1 &&& (2147483647 : Int32))), .val (.int (p2 &&& (2147483647 : Int32))), .val (.int (p3 &&& (15 : Int32))), .val (.int (((p3.toUInt32 >>> ((4 : Int32) &&& 31).toUInt32).toInt32) &&& (31 : Int32))), .unset, .unset, .unset, .unset, .unset, .unset, .unset, .unset, .unset] [])) t
    refine XS.iloadN X0.here hx rfl (hb hby at_26) rfl ?_
    show Steps p.tables e below (T0.setTop (mkF m 27 #[.val (.int p1), .val (.int p2), .val (.int p3), .val (.int p4), .val (.int (p1 &&& (2147483647 : Int32))), .val (.int (p2 &&& (2147483647 : Int32))), .val (.int (p3 &&& (15 : Int32))), .val (.int (((p3.toUInt32 >>> ((4 : Int32) &&& 31).toUInt32).toInt32) &&& (31 : Int32))), .unset, .unset, .unset, .unset, .unset, .unset, .unset, .unset, .unset] [(.int p3)])) t
    refine XS.bipush X0.here hx rfl (hb hby at_27) ?_
    show Steps p.tables e below (T0.setTop (mkF m 29 #[.val (.int p1), .val (.int p2), .val (.int p3), .val (.int p4), .val (.int (p1 &&& (2147483647 : Int32))), .val (.int (p2 &&& (2147483647 : Int32))), .val (.int (p3 &&& (15 : Int32))), .val (.int (((p3.toUInt32 >>> ((4 : Int32) &&& 31).toUInt32).toInt32) &&& (31 : Int32))), .unset, .unset, .unset, .unset, .unset, .unset, .unset, .unset, .unset] [(.int (9 : Int32)), (.int p3)])) t
    refine XS.iushr X0.here hx rfl (hb hby at_29) rfl ?_
    show Steps p.tables e below (T0.setTop (mkF m 30 #[.val (.int p1), .val (.int p2), .val (.int p3), .val (.int p4), .val (.int (p1 &&& (2147483647 : Int32))), .val (.int (p2 &&& (2147483647 : Int32))), .val (.int (p3 &&& (15 : Int32))), .val (.int (((p3.toUInt32 >>> ((4 : Int32) &&& 31).toUInt32).toInt32) &&& (31 : Int32))), .unset, .unset, .unset, .unset, .unset, .unset, .unset, .unset, .unset] [(.int ((p3.toUInt32 >>> ((9 : Int32) &&& 31).toUInt32).toInt32))])) t
    refine XS.bipush X0.here hx rfl (hb hby at_30) ?_
    show Steps p.tables e below (T0.setTop (mkF m 32 #[.val (.int p1), .val (.int p2), .val (.int p3), .val (.int p4), .val (.int (p1 &&& (2147483647 : Int32))), .val (.int (p2 &&& (2147483647 : Int32))), .val (.int (p3 &&& (15 : Int32))), .val (.int (((p3.toUInt32 >>> ((4 : Int32) &&& 31).toUInt32).toInt32) &&& (31 : Int32))), .unset, .unset, .unset, .unset, .unset, .unset, .unset, .unset, .unset] [(.int (31 : Int32)), (.int ((p3.toUInt32 >>> ((9 : Int32) &&& 31).toUInt32).toInt32))])) t
    refine XS.iand X0.here hx rfl (hb hby at_32) rfl ?_
    show Steps p.tables e below (T0.setTop (mkF m 33 #[.val (.int p1), .val (.int p2), .val (.int p3), .val (.int p4), .val (.int (p1 &&& (2147483647 : Int32))), .val (.int (p2 &&& (2147483647 : Int32))), .val (.int (p3 &&& (15 : Int32))), .val (.int (((p3.toUInt32 >>> ((4 : Int32) &&& 31).toUInt32).toInt32) &&& (31 : Int32))), .unset, .unset, .unset, .unset, .unset, .unset, .unset, .unset, .unset] [(.int (((p3.toUInt32 >>> ((9 : Int32) &&& 31).toUInt32).toInt32) &&& (31 : Int32)))])) t
    refine XS.istore X0.here hx rfl (hb hby at_33) rfl (l' := #[.val (.int p1), .val (.int p2), .val (.int p3), .val (.int p4), .val (.int (p1 &&& (2147483647 : Int32))), .val (.int (p2 &&& (2147483647 : Int32))), .val (.int (p3 &&& (15 : Int32))), .val (.int (((p3.toUInt32 >>> ((4 : Int32) &&& 31).toUInt32).toInt32) &&& (31 : Int32))), .val (.int (((p3.toUInt32 >>> ((9 : Int32) &&& 31).toUInt32).toInt32) &&& (31 : Int32))), .unset, .unset, .unset, .unset, .unset, .unset, .unset, .unset]) rfl ?_
    show Steps p.tables e below (T0.setTop (mkF m 35 #[.val (.int p1), .val (.int p2), .val (.int p3), .val (.int p4), .val (.int (p1 &&& (2147483647 : Int32))), .val (.int (p2 &&& (2147483647 : Int32))), .val (.int (p3 &&& (15 : Int32))), .val (.int (((p3.toUInt32 >>> ((4 : Int32) &&& 31).toUInt32).toInt32) &&& (31 : Int32))), .val (.int (((p3.toUInt32 >>> ((9 : Int32) &&& 31).toUInt32).toInt32) &&& (31 : Int32))), .unset, .unset, .unset, .unset, .unset, .unset, .unset, .unset] [])) t
    refine XS.iloadN X0.here hx rfl (hb hby at_35) rfl ?_
    show Steps p.tables e below (T0.setTop (mkF m 36 #[.val (.int p1), .val (.int p2), .val (.int p3), .val (.int p4), .val (.int (p1 &&& (2147483647 : Int32))), .val (.int (p2 &&& (2147483647 : Int32))), .val (.int (p3 &&& (15 : Int32))), .val (.int (((p3.toUInt32 >>> ((4 : Int32) &&& 31).toUInt32).toInt32) &&& (31 : Int32))), .val (.int (((p3.toUInt32 >>> ((9 : Int32) &&& 31).toUInt32).toInt32) &&& (31 : Int32))), .unset, .unset, .unset, .unset, .unset, .unset, .unset, .unset] [(.int p4)])) t
    refine XS.sipush X0.here hx rfl (hb hby at_36) ?_
    show Steps p.tables e below (T0.setTop (mkF m 39 #[.val (.int p1), .val (.int p2), .val (.int p3), .val (.int p4), .val (.int (p1 &&& (2147483647 : Int32))), .val (.int (p2 &&& (2147483647 : Int32))), .val (.int (p3 &&& (15 : Int32))), .val (.int (((p3.toUInt32 >>> ((4 : Int32) &&& 31).toUInt32).toInt32) &&& (31 : Int32))), .val (.int (((p3.toUInt32 >>> ((9 : Int32) &&& 31).toUInt32).toInt32) &&& (31 : Int32))), .unset, .unset, .unset, .unset, .unset, .unset, .unset, .unset] [(.int (1023 : Int32)), (.int p4)])) t
    refine XS.iand X0.here hx rfl (hb hby at_39) rfl ?_
    show Steps p.tables e below (T0.setTop (mkF m 40 #[.val (.int p1), .val (.int p2), .val (.int p3), .val (.int p4), .val (.int (p1 &&& (2147483647 : Int32))), .val (.int (p2 &&& (2147483647 : Int32))), .val (.int (p3 &&& (15 : Int32))), .val (.int (((p3.toUInt32 >>> ((4 : Int32) &&& 31).toUInt32).toInt32) &&& (31 : Int32))), .val (.int (((p3.toUInt32 >>> ((9 : Int32) &&& 31).toUInt32).toInt32) &&& (31 : Int32))), .unset, .unset, .unset, .unset, .unset, .unset, .unset, .unset] [(.int (p4 &&& (1023 : Int32)))])) t
    refine XS.iconst X0.here hx rfl (hb hby at_40) ?_
    show Steps p.tables e below (T0.setTop (mkF m 41 #[.val (.int p1), .val (.int p2), .val (.int p3), .val (.int p4), .val (.int (p1 &&& (2147483647 : Int32))), .val (.int (p2 &&& (2147483647 : Int32))), .val (.int (p3 &&& (15 : Int32))), .val (.int (((p3.toUInt32 >>> ((4 : Int32) &&& 31).toUInt32).toInt32) &&& (31 : Int32))), .val (.int (((p3.toUInt32 >>> ((9 : Int32) &&& 31).toUInt32).toInt32) &&& (31 : Int32))), .unset, .unset, .unset, .unset, .unset, .unset, .unset, .unset] [(.int (1 : Int32)), (.int (p4 &&& (1023 : Int32)))])) t
    refine XS.iadd X0.here hx rfl (hb hby at_41) rfl ?_
    show Steps p.tables e below (T0.setTop (mkF m 42 #[.val (.int p1), .val (.int p2), .val (.int p3), .val (.int p4), .val (.int (p1 &&& (2147483647 : Int32))), .val (.int (p2 &&& (2147483647 : Int32))), .val (.int (p3 &&& (15 : Int32))), .val (.int (((p3.toUInt32 >>> ((4 : Int32) &&& 31).toUInt32).toInt32) &&& (31 : Int32))), .val (.int (((p3.toUInt32 >>> ((9 : Int32) &&& 31).toUInt32).toInt32) &&& (31 : Int32))), .unset, .unset, .unset, .unset, .unset, .unset, .unset, .unset] [(.int ((p4 &&& (1023 : Int32)) + (1 : Int32)))])) t
    refine XS.istore X0.here hx rfl (hb hby at_42) rfl (l' := #[.val (.int p1), .val (.int p2), .val (.int p3), .val (.int p4), .val (.int (p1 &&& (2147483647 : Int32))), .val (.int (p2 &&& (2147483647 : Int32))), .val (.int (p3 &&& (15 : Int32))), .val (.int (((p3.toUInt32 >>> ((4 : Int32) &&& 31).toUInt32).toInt32) &&& (31 : Int32))), .val (.int (((p3.toUInt32 >>> ((9 : Int32) &&& 31).toUInt32).toInt32) &&& (31 : Int32))), .val (.int ((p4 &&& (1023 : Int32)) + (1 : Int32))), .unset, .unset, .unset, .unset, .unset, .unset, .unset]) rfl ?_
    exact k
  obtain ⟨T1, h1, X1, e1, E1, A1, D1, -, st1⟩ := newO X0 hx hZ hown (hw _ (List.mem_of_getElem? (i := 1) rfl)) (hw _ (List.mem_of_getElem? (i := 2) rfl)) (hw _ (List.mem_of_getElem? (i := 3) rfl)) e0 (g := (mkF m 44 #[.val (.int p1), .val (.int p2), .val (.int p3), .val (.int p4), .val (.int (p1 &&& (2147483647 : Int32))), .val (.int (p2 &&& (2147483647 : Int32))), .val (.int (p3 &&& (15 : Int32))), .val (.int (((p3.toUInt32 >>> ((4 : Int32) &&& 31).toUInt32).toInt32) &&& (31 : Int32))), .val (.int (((p3.toUInt32 >>> ((9 : Int32) &&& 31).toUInt32).toInt32) &&& (31 : Int32))), .val (.int ((p4 &&& (1023 : Int32)) + (1 : Int32))), .unset, .unset, .unset, .unset, .unset, .unset, .unset] [])) rfl (hb hby at_44) (by decide) (by decide)
  obtain ⟨b1, g1⟩ : ∃ z, z = h0.size := ⟨_, rfl⟩
  rw [← g1] at A1 D1 st1
  have g_b1 : n0 ≤ b1 := Nat.le_trans Z0 (Nat.le_of_eq g1.symm)
  have F1_referenceBytes : Fld Z h1 b1 "com/example/noreply/noreply/engine/HeapLayout" "referenceBytes" "I" (.int (0 : Int32)) := D1 (Or.inr (hw _ (List.mem_of_getElem? (i := 11) rfl))) (ty := .int) (by decide)
  have F1_headerBytes : Fld Z h1 b1 "com/example/noreply/noreply/engine/HeapLayout" "headerBytes" "I" (.int (0 : Int32)) := D1 (Or.inr (hw _ (List.mem_of_getElem? (i := 13) rfl))) (ty := .int) (by decide)
  have F1_arrayHeaderBytes : Fld Z h1 b1 "com/example/noreply/noreply/engine/HeapLayout" "arrayHeaderBytes" "I" (.int (0 : Int32)) := D1 (Or.inr (hw _ (List.mem_of_getElem? (i := 15) rfl))) (ty := .int) (by decide)
  have F1_alignment : Fld Z h1 b1 "com/example/noreply/noreply/engine/HeapLayout" "alignment" "I" (.int (0 : Int32)) := D1 (Or.inr (hw _ (List.mem_of_getElem? (i := 17) rfl))) (ty := .int) (by decide)
  refine Done.of (g' := (mkF m 47 #[.val (.int p1), .val (.int p2), .val (.int p3), .val (.int p4), .val (.int (p1 &&& (2147483647 : Int32))), .val (.int (p2 &&& (2147483647 : Int32))), .val (.int (p3 &&& (15 : Int32))), .val (.int (((p3.toUInt32 >>> ((4 : Int32) &&& 31).toUInt32).toInt32) &&& (31 : Int32))), .val (.int (((p3.toUInt32 >>> ((9 : Int32) &&& 31).toUInt32).toInt32) &&& (31 : Int32))), .val (.int ((p4 &&& (1023 : Int32)) + (1 : Int32))), .unset, .unset, .unset, .unset, .unset, .unset, .unset] [(.ref b1)])) st1 ?_
  refine Done.of (T' := T1) (g' := (mkF m 56 #[.val (.int p1), .val (.int p2), .val (.int p3), .val (.int p4), .val (.int (p1 &&& (2147483647 : Int32))), .val (.int (p2 &&& (2147483647 : Int32))), .val (.int (p3 &&& (15 : Int32))), .val (.int (((p3.toUInt32 >>> ((4 : Int32) &&& 31).toUInt32).toInt32) &&& (31 : Int32))), .val (.int (((p3.toUInt32 >>> ((9 : Int32) &&& 31).toUInt32).toInt32) &&& (31 : Int32))), .val (.int ((p4 &&& (1023 : Int32)) + (1 : Int32))), .unset, .unset, .unset, .unset, .unset, .unset, .unset] [(.int ((p4 &&& (1023 : Int32)) + (1 : Int32))), (.int (((p3.toUInt32 >>> ((9 : Int32) &&& 31).toUInt32).toInt32) &&& (31 : Int32))), (.int (((p3.toUInt32 >>> ((4 : Int32) &&& 31).toUInt32).toInt32) &&& (31 : Int32))), (.int (p3 &&& (15 : Int32))), (.ref b1), (.ref b1)])) (fun t k => ?_) ?_
  · show Steps p.tables e below (T1.setTop (mkF m 47 #[.val (.int p1), .val (.int p2), .val (.int p3), .val (.int p4), .val (.int (p1 &&& (2147483647 : Int32))), .val (.int (p2 &&& (2147483647 : Int32))), .val (.int (p3 &&& (15 : Int32))), .val (.int (((p3.toUInt32 >>> ((4 : Int32) &&& 31).toUInt32).toInt32) &&& (31 : Int32))), .val (.int (((p3.toUInt32 >>> ((9 : Int32) &&& 31).toUInt32).toInt32) &&& (31 : Int32))), .val (.int ((p4 &&& (1023 : Int32)) + (1 : Int32))), .unset, .unset, .unset, .unset, .unset, .unset, .unset] [(.ref b1)])) t
    refine XS.dup X1.here hx rfl (hb hby at_47) rfl rfl ?_
    show Steps p.tables e below (T1.setTop (mkF m 48 #[.val (.int p1), .val (.int p2), .val (.int p3), .val (.int p4), .val (.int (p1 &&& (2147483647 : Int32))), .val (.int (p2 &&& (2147483647 : Int32))), .val (.int (p3 &&& (15 : Int32))), .val (.int (((p3.toUInt32 >>> ((4 : Int32) &&& 31).toUInt32).toInt32) &&& (31 : Int32))), .val (.int (((p3.toUInt32 >>> ((9 : Int32) &&& 31).toUInt32).toInt32) &&& (31 : Int32))), .val (.int ((p4 &&& (1023 : Int32)) + (1 : Int32))), .unset, .unset, .unset, .unset, .unset, .unset, .unset] [(.ref b1), (.ref b1)])) t
    refine XS.iload X1.here hx rfl (hb hby at_48) rfl ?_
    show Steps p.tables e below (T1.setTop (mkF m 50 #[.val (.int p1), .val (.int p2), .val (.int p3), .val (.int p4), .val (.int (p1 &&& (2147483647 : Int32))), .val (.int (p2 &&& (2147483647 : Int32))), .val (.int (p3 &&& (15 : Int32))), .val (.int (((p3.toUInt32 >>> ((4 : Int32) &&& 31).toUInt32).toInt32) &&& (31 : Int32))), .val (.int (((p3.toUInt32 >>> ((9 : Int32) &&& 31).toUInt32).toInt32) &&& (31 : Int32))), .val (.int ((p4 &&& (1023 : Int32)) + (1 : Int32))), .unset, .unset, .unset, .unset, .unset, .unset, .unset] [(.int (p3 &&& (15 : Int32))), (.ref b1), (.ref b1)])) t
    refine XS.iload X1.here hx rfl (hb hby at_50) rfl ?_
    show Steps p.tables e below (T1.setTop (mkF m 52 #[.val (.int p1), .val (.int p2), .val (.int p3), .val (.int p4), .val (.int (p1 &&& (2147483647 : Int32))), .val (.int (p2 &&& (2147483647 : Int32))), .val (.int (p3 &&& (15 : Int32))), .val (.int (((p3.toUInt32 >>> ((4 : Int32) &&& 31).toUInt32).toInt32) &&& (31 : Int32))), .val (.int (((p3.toUInt32 >>> ((9 : Int32) &&& 31).toUInt32).toInt32) &&& (31 : Int32))), .val (.int ((p4 &&& (1023 : Int32)) + (1 : Int32))), .unset, .unset, .unset, .unset, .unset, .unset, .unset] [(.int (((p3.toUInt32 >>> ((4 : Int32) &&& 31).toUInt32).toInt32) &&& (31 : Int32))), (.int (p3 &&& (15 : Int32))), (.ref b1), (.ref b1)])) t
    refine XS.iload X1.here hx rfl (hb hby at_52) rfl ?_
    show Steps p.tables e below (T1.setTop (mkF m 54 #[.val (.int p1), .val (.int p2), .val (.int p3), .val (.int p4), .val (.int (p1 &&& (2147483647 : Int32))), .val (.int (p2 &&& (2147483647 : Int32))), .val (.int (p3 &&& (15 : Int32))), .val (.int (((p3.toUInt32 >>> ((4 : Int32) &&& 31).toUInt32).toInt32) &&& (31 : Int32))), .val (.int (((p3.toUInt32 >>> ((9 : Int32) &&& 31).toUInt32).toInt32) &&& (31 : Int32))), .val (.int ((p4 &&& (1023 : Int32)) + (1 : Int32))), .unset, .unset, .unset, .unset, .unset, .unset, .unset] [(.int (((p3.toUInt32 >>> ((9 : Int32) &&& 31).toUInt32).toInt32) &&& (31 : Int32))), (.int (((p3.toUInt32 >>> ((4 : Int32) &&& 31).toUInt32).toInt32) &&& (31 : Int32))), (.int (p3 &&& (15 : Int32))), (.ref b1), (.ref b1)])) t
    refine XS.iload X1.here hx rfl (hb hby at_54) rfl ?_
    exact k
  obtain ⟨_, _, ⟨T2, L2, k2, n2⟩, -, X2, ⟨Lc2, hQ2, l2, y2, z2⟩, st2⟩ := X1.specialBack hx (y := (⟨"com/example/noreply/noreply/engine/HeapLayout", "<init>", "(IIII)V"⟩ : MethodName)) rfl hown (mvT hZ (hw _ (List.mem_of_getElem? (i := 4) rfl))) (mvT hZ (hw _ (List.mem_of_getElem? (i := 5) rfl))) (mvT hZ (hw _ (List.mem_of_getElem? (i := 6) rfl))) (by decide) (backOf (W := 1) (rm1 l Z a0 hw [] b1 (p3 &&& (15 : Int32)) (((p3.toUInt32 >>> ((4 : Int32) &&& 31).toUInt32).toInt32) &&& (31 : Int32)) (((p3.toUInt32 >>> ((9 : Int32) &&& 31).toUInt32).toInt32) &&& (31 : Int32)) ((p4 &&& (1023 : Int32)) + (1 : Int32)) h1 n0 ((.int (0 : Int32))) ((.int (0 : Int32))) ((.int (0 : Int32))) ((.int (0 : Int32))) A1 F1_referenceBytes F1_headerBytes F1_arrayHeaderBytes F1_alignment g_b1) hZ (hw _ (List.mem_of_getElem? (i := 6) rfl)) (hw _ (List.mem_of_getElem? (i := 3) rfl)) (by decide) (by decide)) (g := (mkF m 56 #[.val (.int p1), .val (.int p2), .val (.int p3), .val (.int p4), .val (.int (p1 &&& (2147483647 : Int32))), .val (.int (p2 &&& (2147483647 : Int32))), .val (.int (p3 &&& (15 : Int32))), .val (.int (((p3.toUInt32 >>> ((4 : Int32) &&& 31).toUInt32).toInt32) &&& (31 : Int32))), .val (.int (((p3.toUInt32 >>> ((9 : Int32) &&& 31).toUInt32).toInt32) &&& (31 : Int32))), .val (.int ((p4 &&& (1023 : Int32)) + (1 : Int32))), .unset, .unset, .unset, .unset, .unset, .unset, .unset] [(.int ((p4 &&& (1023 : Int32)) + (1 : Int32))), (.int (((p3.toUInt32 >>> ((9 : Int32) &&& 31).toUInt32).toInt32) &&& (31 : Int32))), (.int (((p3.toUInt32 >>> ((4 : Int32) &&& 31).toUInt32).toInt32) &&& (31 : Int32))), (.int (p3 &&& (15 : Int32))), (.ref b1), (.ref b1)])) rfl (by rw [hml]; rfl) (Steps.refl _) (a := b1) (argsL := [(.int (p3 &&& (15 : Int32))), (.int (((p3.toUInt32 >>> ((4 : Int32) &&& 31).toUInt32).toInt32) &&& (31 : Int32))), (.int (((p3.toUInt32 >>> ((9 : Int32) &&& 31).toUInt32).toInt32) &&& (31 : Int32))), (.int ((p4 &&& (1023 : Int32)) + (1 : Int32)))]) (rest := [(.ref b1)]) (lenOf pd_1 rfl) rfl (by show 2 * 0 + _ ≤ _; exact Nat.le_of_eq rfl) (hb hby at_56) (fun _ _ => ⟨rfl, e1, (by decide : 1 + 0 ≤ _), (by decide : 4 + 0 ≤ _)⟩)
  dsimp only [Pt.U, Pt.locs, Pt.cells, Pt.slots] at X2 l2 y2 z2 st2 hQ2
  subst l2 y2 z2
  obtain ⟨h2, e2⟩ : ∃ z, T2.heap = z := ⟨_, rfl⟩
  rw [e2] at hQ2
  obtain ⟨rfl, N2q, K2, E2, F2_referenceBytes, F2_headerBytes, F2_arrayHeaderBytes, F2_alignment⟩ := hQ2
  have N2 := Fr.app N0 N2q
  replace X2 : Stand p l e room_1 s m args below meth c T2 _ 1 4 := X2
  refine Done.of (g' := (mkF m 59 #[.val (.int p1), .val (.int p2), .val (.int p3), .val (.int p4), .val (.int (p1 &&& (2147483647 : Int32))), .val (.int (p2 &&& (2147483647 : Int32))), .val (.int (p3 &&& (15 : Int32))), .val (.int (((p3.toUInt32 >>> ((4 : Int32) &&& 31).toUInt32).toInt32) &&& (31 : Int32))), .val (.int (((p3.toUInt32 >>> ((9 : Int32) &&& 31).toUInt32).toInt32) &&& (31 : Int32))), .val (.int ((p4 &&& (1023 : Int32)) + (1 : Int32))), .unset, .unset, .unset, .unset, .unset, .unset, .unset] [(.ref b1)])) (fun t k => st2.trans k) ?_
  refine Done.of (T' := T2) (g' := (mkF m 84 #[.val (.int p1), .val (.int p2), .val (.int p3), .val (.int p4), .val (.int (p1 &&& (2147483647 : Int32))), .val (.int (p2 &&& (2147483647 : Int32))), .val (.int (p3 &&& (15 : Int32))), .val (.int (((p3.toUInt32 >>> ((4 : Int32) &&& 31).toUInt32).toInt32) &&& (31 : Int32))), .val (.int (((p3.toUInt32 >>> ((9 : Int32) &&& 31).toUInt32).toInt32) &&& (31 : Int32))), .val (.int ((p4 &&& (1023 : Int32)) + (1 : Int32))), .val (.ref b1), .val (.long ((((((p3.toUInt32 >>> ((4 : Int32) &&& 31).toUInt32).toInt32) &&& (31 : Int32)).toInt64) + (((p1 &&& (2147483647 : Int32)).toInt64) * ((p3 &&& (15 : Int32)).toInt64))) + ((p2 &&& (2147483647 : Int32)).toInt64))), .second, .unset, .unset, .unset, .unset] [(.int (p2 &&& (2147483647 : Int32))), (.int (p1 &&& (2147483647 : Int32))), (.ref b1)])) (fun t k => ?_) ?_
  · show Steps p.tables e below (T2.setTop (mkF m 59 #[.val (.int p1), .val (.int p2), .val (.int p3), .val (.int p4), .val (.int (p1 &&& (2147483647 : Int32))), .val (.int (p2 &&& (2147483647 : Int32))), .val (.int (p3 &&& (15 : Int32))), .val (.int (((p3.toUInt32 >>> ((4 : Int32) &&& 31).toUInt32).toInt32) &&& (31 : Int32))), .val (.int (((p3.toUInt32 >>> ((9 : Int32) &&& 31).toUInt32).toInt32) &&& (31 : Int32))), .val (.int ((p4 &&& (1023 : Int32)) + (1 : Int32))), .unset, .unset, .unset, .unset, .unset, .unset, .unset] [(.ref b1)])) t
    refine XS.astore X2.here hx rfl (hb hby at_59) rfl rfl (l' := #[.val (.int p1), .val (.int p2), .val (.int p3), .val (.int p4), .val (.int (p1 &&& (2147483647 : Int32))), .val (.int (p2 &&& (2147483647 : Int32))), .val (.int (p3 &&& (15 : Int32))), .val (.int (((p3.toUInt32 >>> ((4 : Int32) &&& 31).toUInt32).toInt32) &&& (31 : Int32))), .val (.int (((p3.toUInt32 >>> ((9 : Int32) &&& 31).toUInt32).toInt32) &&& (31 : Int32))), .val (.int ((p4 &&& (1023 : Int32)) + (1 : Int32))), .val (.ref b1), .unset, .unset, .unset, .unset, .unset, .unset]) rfl ?_
    show Steps p.tables e below (T2.setTop (mkF m 61 #[.val (.int p1), .val (.int p2), .val (.int p3), .val (.int p4), .val (.int (p1 &&& (2147483647 : Int32))), .val (.int (p2 &&& (2147483647 : Int32))), .val (.int (p3 &&& (15 : Int32))), .val (.int (((p3.toUInt32 >>> ((4 : Int32) &&& 31).toUInt32).toInt32) &&& (31 : Int32))), .val (.int (((p3.toUInt32 >>> ((9 : Int32) &&& 31).toUInt32).toInt32) &&& (31 : Int32))), .val (.int ((p4 &&& (1023 : Int32)) + (1 : Int32))), .val (.ref b1), .unset, .unset, .unset, .unset, .unset, .unset] [])) t
    refine XS.iload X2.here hx rfl (hb hby at_61) rfl ?_
    show Steps p.tables e below (T2.setTop (mkF m 63 #[.val (.int p1), .val (.int p2), .val (.int p3), .val (.int p4), .val (.int (p1 &&& (2147483647 : Int32))), .val (.int (p2 &&& (2147483647 : Int32))), .val (.int (p3 &&& (15 : Int32))), .val (.int (((p3.toUInt32 >>> ((4 : Int32) &&& 31).toUInt32).toInt32) &&& (31 : Int32))), .val (.int (((p3.toUInt32 >>> ((9 : Int32) &&& 31).toUInt32).toInt32) &&& (31 : Int32))), .val (.int ((p4 &&& (1023 : Int32)) + (1 : Int32))), .val (.ref b1), .unset, .unset, .unset, .unset, .unset, .unset] [(.int (((p3.toUInt32 >>> ((4 : Int32) &&& 31).toUInt32).toInt32) &&& (31 : Int32)))])) t
    refine XS.i2l X2.here hx rfl (hb hby at_63) rfl ?_
    show Steps p.tables e below (T2.setTop (mkF m 64 #[.val (.int p1), .val (.int p2), .val (.int p3), .val (.int p4), .val (.int (p1 &&& (2147483647 : Int32))), .val (.int (p2 &&& (2147483647 : Int32))), .val (.int (p3 &&& (15 : Int32))), .val (.int (((p3.toUInt32 >>> ((4 : Int32) &&& 31).toUInt32).toInt32) &&& (31 : Int32))), .val (.int (((p3.toUInt32 >>> ((9 : Int32) &&& 31).toUInt32).toInt32) &&& (31 : Int32))), .val (.int ((p4 &&& (1023 : Int32)) + (1 : Int32))), .val (.ref b1), .unset, .unset, .unset, .unset, .unset, .unset] [(.long ((((p3.toUInt32 >>> ((4 : Int32) &&& 31).toUInt32).toInt32) &&& (31 : Int32)).toInt64))])) t
    refine XS.iload X2.here hx rfl (hb hby at_64) rfl ?_
    show Steps p.tables e below (T2.setTop (mkF m 66 #[.val (.int p1), .val (.int p2), .val (.int p3), .val (.int p4), .val (.int (p1 &&& (2147483647 : Int32))), .val (.int (p2 &&& (2147483647 : Int32))), .val (.int (p3 &&& (15 : Int32))), .val (.int (((p3.toUInt32 >>> ((4 : Int32) &&& 31).toUInt32).toInt32) &&& (31 : Int32))), .val (.int (((p3.toUInt32 >>> ((9 : Int32) &&& 31).toUInt32).toInt32) &&& (31 : Int32))), .val (.int ((p4 &&& (1023 : Int32)) + (1 : Int32))), .val (.ref b1), .unset, .unset, .unset, .unset, .unset, .unset] [(.int (p1 &&& (2147483647 : Int32))), (.long ((((p3.toUInt32 >>> ((4 : Int32) &&& 31).toUInt32).toInt32) &&& (31 : Int32)).toInt64))])) t
    refine XS.i2l X2.here hx rfl (hb hby at_66) rfl ?_
    show Steps p.tables e below (T2.setTop (mkF m 67 #[.val (.int p1), .val (.int p2), .val (.int p3), .val (.int p4), .val (.int (p1 &&& (2147483647 : Int32))), .val (.int (p2 &&& (2147483647 : Int32))), .val (.int (p3 &&& (15 : Int32))), .val (.int (((p3.toUInt32 >>> ((4 : Int32) &&& 31).toUInt32).toInt32) &&& (31 : Int32))), .val (.int (((p3.toUInt32 >>> ((9 : Int32) &&& 31).toUInt32).toInt32) &&& (31 : Int32))), .val (.int ((p4 &&& (1023 : Int32)) + (1 : Int32))), .val (.ref b1), .unset, .unset, .unset, .unset, .unset, .unset] [(.long ((p1 &&& (2147483647 : Int32)).toInt64)), (.long ((((p3.toUInt32 >>> ((4 : Int32) &&& 31).toUInt32).toInt32) &&& (31 : Int32)).toInt64))])) t
    refine XS.iload X2.here hx rfl (hb hby at_67) rfl ?_
    show Steps p.tables e below (T2.setTop (mkF m 69 #[.val (.int p1), .val (.int p2), .val (.int p3), .val (.int p4), .val (.int (p1 &&& (2147483647 : Int32))), .val (.int (p2 &&& (2147483647 : Int32))), .val (.int (p3 &&& (15 : Int32))), .val (.int (((p3.toUInt32 >>> ((4 : Int32) &&& 31).toUInt32).toInt32) &&& (31 : Int32))), .val (.int (((p3.toUInt32 >>> ((9 : Int32) &&& 31).toUInt32).toInt32) &&& (31 : Int32))), .val (.int ((p4 &&& (1023 : Int32)) + (1 : Int32))), .val (.ref b1), .unset, .unset, .unset, .unset, .unset, .unset] [(.int (p3 &&& (15 : Int32))), (.long ((p1 &&& (2147483647 : Int32)).toInt64)), (.long ((((p3.toUInt32 >>> ((4 : Int32) &&& 31).toUInt32).toInt32) &&& (31 : Int32)).toInt64))])) t
    refine XS.i2l X2.here hx rfl (hb hby at_69) rfl ?_
    show Steps p.tables e below (T2.setTop (mkF m 70 #[.val (.int p1), .val (.int p2), .val (.int p3), .val (.int p4), .val (.int (p1 &&& (2147483647 : Int32))), .val (.int (p2 &&& (2147483647 : Int32))), .val (.int (p3 &&& (15 : Int32))), .val (.int (((p3.toUInt32 >>> ((4 : Int32) &&& 31).toUInt32).toInt32) &&& (31 : Int32))), .val (.int (((p3.toUInt32 >>> ((9 : Int32) &&& 31).toUInt32).toInt32) &&& (31 : Int32))), .val (.int ((p4 &&& (1023 : Int32)) + (1 : Int32))), .val (.ref b1), .unset, .unset, .unset, .unset, .unset, .unset] [(.long ((p3 &&& (15 : Int32)).toInt64)), (.long ((p1 &&& (2147483647 : Int32)).toInt64)), (.long ((((p3.toUInt32 >>> ((4 : Int32) &&& 31).toUInt32).toInt32) &&& (31 : Int32)).toInt64))])) t
    refine XS.lmul X2.here hx rfl (hb hby at_70) rfl ?_
    show Steps p.tables e below (T2.setTop (mkF m 71 #[.val (.int p1), .val (.int p2), .val (.int p3), .val (.int p4), .val (.int (p1 &&& (2147483647 : Int32))), .val (.int (p2 &&& (2147483647 : Int32))), .val (.int (p3 &&& (15 : Int32))), .val (.int (((p3.toUInt32 >>> ((4 : Int32) &&& 31).toUInt32).toInt32) &&& (31 : Int32))), .val (.int (((p3.toUInt32 >>> ((9 : Int32) &&& 31).toUInt32).toInt32) &&& (31 : Int32))), .val (.int ((p4 &&& (1023 : Int32)) + (1 : Int32))), .val (.ref b1), .unset, .unset, .unset, .unset, .unset, .unset] [(.long (((p1 &&& (2147483647 : Int32)).toInt64) * ((p3 &&& (15 : Int32)).toInt64))), (.long ((((p3.toUInt32 >>> ((4 : Int32) &&& 31).toUInt32).toInt32) &&& (31 : Int32)).toInt64))])) t
    refine XS.ladd X2.here hx rfl (hb hby at_71) rfl ?_
    show Steps p.tables e below (T2.setTop (mkF m 72 #[.val (.int p1), .val (.int p2), .val (.int p3), .val (.int p4), .val (.int (p1 &&& (2147483647 : Int32))), .val (.int (p2 &&& (2147483647 : Int32))), .val (.int (p3 &&& (15 : Int32))), .val (.int (((p3.toUInt32 >>> ((4 : Int32) &&& 31).toUInt32).toInt32) &&& (31 : Int32))), .val (.int (((p3.toUInt32 >>> ((9 : Int32) &&& 31).toUInt32).toInt32) &&& (31 : Int32))), .val (.int ((p4 &&& (1023 : Int32)) + (1 : Int32))), .val (.ref b1), .unset, .unset, .unset, .unset, .unset, .unset] [(.long (((((p3.toUInt32 >>> ((4 : Int32) &&& 31).toUInt32).toInt32) &&& (31 : Int32)).toInt64) + (((p1 &&& (2147483647 : Int32)).toInt64) * ((p3 &&& (15 : Int32)).toInt64))))])) t
    refine XS.iload X2.here hx rfl (hb hby at_72) rfl ?_
    show Steps p.tables e below (T2.setTop (mkF m 74 #[.val (.int p1), .val (.int p2), .val (.int p3), .val (.int p4), .val (.int (p1 &&& (2147483647 : Int32))), .val (.int (p2 &&& (2147483647 : Int32))), .val (.int (p3 &&& (15 : Int32))), .val (.int (((p3.toUInt32 >>> ((4 : Int32) &&& 31).toUInt32).toInt32) &&& (31 : Int32))), .val (.int (((p3.toUInt32 >>> ((9 : Int32) &&& 31).toUInt32).toInt32) &&& (31 : Int32))), .val (.int ((p4 &&& (1023 : Int32)) + (1 : Int32))), .val (.ref b1), .unset, .unset, .unset, .unset, .unset, .unset] [(.int (p2 &&& (2147483647 : Int32))), (.long (((((p3.toUInt32 >>> ((4 : Int32) &&& 31).toUInt32).toInt32) &&& (31 : Int32)).toInt64) + (((p1 &&& (2147483647 : Int32)).toInt64) * ((p3 &&& (15 : Int32)).toInt64))))])) t
    refine XS.i2l X2.here hx rfl (hb hby at_74) rfl ?_
    show Steps p.tables e below (T2.setTop (mkF m 75 #[.val (.int p1), .val (.int p2), .val (.int p3), .val (.int p4), .val (.int (p1 &&& (2147483647 : Int32))), .val (.int (p2 &&& (2147483647 : Int32))), .val (.int (p3 &&& (15 : Int32))), .val (.int (((p3.toUInt32 >>> ((4 : Int32) &&& 31).toUInt32).toInt32) &&& (31 : Int32))), .val (.int (((p3.toUInt32 >>> ((9 : Int32) &&& 31).toUInt32).toInt32) &&& (31 : Int32))), .val (.int ((p4 &&& (1023 : Int32)) + (1 : Int32))), .val (.ref b1), .unset, .unset, .unset, .unset, .unset, .unset] [(.long ((p2 &&& (2147483647 : Int32)).toInt64)), (.long (((((p3.toUInt32 >>> ((4 : Int32) &&& 31).toUInt32).toInt32) &&& (31 : Int32)).toInt64) + (((p1 &&& (2147483647 : Int32)).toInt64) * ((p3 &&& (15 : Int32)).toInt64))))])) t
    refine XS.ladd X2.here hx rfl (hb hby at_75) rfl ?_
    show Steps p.tables e below (T2.setTop (mkF m 76 #[.val (.int p1), .val (.int p2), .val (.int p3), .val (.int p4), .val (.int (p1 &&& (2147483647 : Int32))), .val (.int (p2 &&& (2147483647 : Int32))), .val (.int (p3 &&& (15 : Int32))), .val (.int (((p3.toUInt32 >>> ((4 : Int32) &&& 31).toUInt32).toInt32) &&& (31 : Int32))), .val (.int (((p3.toUInt32 >>> ((9 : Int32) &&& 31).toUInt32).toInt32) &&& (31 : Int32))), .val (.int ((p4 &&& (1023 : Int32)) + (1 : Int32))), .val (.ref b1), .unset, .unset, .unset, .unset, .unset, .unset] [(.long ((((((p3.toUInt32 >>> ((4 : Int32) &&& 31).toUInt32).toInt32) &&& (31 : Int32)).toInt64) + (((p1 &&& (2147483647 : Int32)).toInt64) * ((p3 &&& (15 : Int32)).toInt64))) + ((p2 &&& (2147483647 : Int32)).toInt64)))])) t
    refine XS.lstore X2.here hx rfl (hb hby at_76) rfl (l' := #[.val (.int p1), .val (.int p2), .val (.int p3), .val (.int p4), .val (.int (p1 &&& (2147483647 : Int32))), .val (.int (p2 &&& (2147483647 : Int32))), .val (.int (p3 &&& (15 : Int32))), .val (.int (((p3.toUInt32 >>> ((4 : Int32) &&& 31).toUInt32).toInt32) &&& (31 : Int32))), .val (.int (((p3.toUInt32 >>> ((9 : Int32) &&& 31).toUInt32).toInt32) &&& (31 : Int32))), .val (.int ((p4 &&& (1023 : Int32)) + (1 : Int32))), .val (.ref b1), .val (.long ((((((p3.toUInt32 >>> ((4 : Int32) &&& 31).toUInt32).toInt32) &&& (31 : Int32)).toInt64) + (((p1 &&& (2147483647 : Int32)).toInt64) * ((p3 &&& (15 : Int32)).toInt64))) + ((p2 &&& (2147483647 : Int32)).toInt64))), .second, .unset, .unset, .unset, .unset]) rfl ?_
    show Steps p.tables e below (T2.setTop (mkF m 78 #[.val (.int p1), .val (.int p2), .val (.int p3), .val (.int p4), .val (.int (p1 &&& (2147483647 : Int32))), .val (.int (p2 &&& (2147483647 : Int32))), .val (.int (p3 &&& (15 : Int32))), .val (.int (((p3.toUInt32 >>> ((4 : Int32) &&& 31).toUInt32).toInt32) &&& (31 : Int32))), .val (.int (((p3.toUInt32 >>> ((9 : Int32) &&& 31).toUInt32).toInt32) &&& (31 : Int32))), .val (.int ((p4 &&& (1023 : Int32)) + (1 : Int32))), .val (.ref b1), .val (.long ((((((p3.toUInt32 >>> ((4 : Int32) &&& 31).toUInt32).toInt32) &&& (31 : Int32)).toInt64) + (((p1 &&& (2147483647 : Int32)).toInt64) * ((p3 &&& (15 : Int32)).toInt64))) + ((p2 &&& (2147483647 : Int32)).toInt64))), .second, .unset, .unset, .unset, .unset] [])) t
    refine XS.aload X2.here hx rfl (hb hby at_78) rfl rfl ?_
    show Steps p.tables e below (T2.setTop (mkF m 80 #[.val (.int p1), .val (.int p2), .val (.int p3), .val (.int p4), .val (.int (p1 &&& (2147483647 : Int32))), .val (.int (p2 &&& (2147483647 : Int32))), .val (.int (p3 &&& (15 : Int32))), .val (.int (((p3.toUInt32 >>> ((4 : Int32) &&& 31).toUInt32).toInt32) &&& (31 : Int32))), .val (.int (((p3.toUInt32 >>> ((9 : Int32) &&& 31).toUInt32).toInt32) &&& (31 : Int32))), .val (.int ((p4 &&& (1023 : Int32)) + (1 : Int32))), .val (.ref b1), .val (.long ((((((p3.toUInt32 >>> ((4 : Int32) &&& 31).toUInt32).toInt32) &&& (31 : Int32)).toInt64) + (((p1 &&& (2147483647 : Int32)).toInt64) * ((p3 &&& (15 : Int32)).toInt64))) + ((p2 &&& (2147483647 : Int32)).toInt64))), .second, .unset, .unset, .unset, .unset] [(.ref b1)])) t
    refine XS.iload X2.here hx rfl (hb hby at_80) rfl ?_
    show Steps p.tables e below (T2.setTop (mkF m 82 #[.val (.int p1), .val (.int p2), .val (.int p3), .val (.int p4), .val (.int (p1 &&& (2147483647 : Int32))), .val (.int (p2 &&& (2147483647 : Int32))), .val (.int (p3 &&& (15 : Int32))), .val (.int (((p3.toUInt32 >>> ((4 : Int32) &&& 31).toUInt32).toInt32) &&& (31 : Int32))), .val (.int (((p3.toUInt32 >>> ((9 : Int32) &&& 31).toUInt32).toInt32) &&& (31 : Int32))), .val (.int ((p4 &&& (1023 : Int32)) + (1 : Int32))), .val (.ref b1), .val (.long ((((((p3.toUInt32 >>> ((4 : Int32) &&& 31).toUInt32).toInt32) &&& (31 : Int32)).toInt64) + (((p1 &&& (2147483647 : Int32)).toInt64) * ((p3 &&& (15 : Int32)).toInt64))) + ((p2 &&& (2147483647 : Int32)).toInt64))), .second, .unset, .unset, .unset, .unset] [(.int (p1 &&& (2147483647 : Int32))), (.ref b1)])) t
    refine XS.iload X2.here hx rfl (hb hby at_82) rfl ?_
    exact k
  obtain ⟨cq3, kq3, q3a, q3b, q3c⟩ := isOf hZ e2 E2
  obtain ⟨_, _, ⟨T3, L3, k3, n3⟩, -, X3, ⟨Lc3, hQ3, l3, y3, z3⟩, st3⟩ := X2.virtualBack hx (y := (⟨"com/example/noreply/noreply/engine/HeapLayout", "objectBytes", "(II)J"⟩ : MethodName)) (z := (⟨"com/example/noreply/noreply/engine/HeapLayout", "objectBytes", "(II)J"⟩ : MethodName)) hown (mvT hZ (hw _ (List.mem_of_getElem? (i := 18) rfl))) (mvT hZ (hw _ (List.mem_of_getElem? (i := 19) rfl))) (notFace_of_selects (args := #[]) (mvT hZ (hw _ (List.mem_of_getElem? (i := 21) rfl)))) (mvT hZ (hw _ (List.mem_of_getElem? (i := 21) rfl))) (mvT hZ (hw _ (List.mem_of_getElem? (i := 20) rfl))) (by decide) (backOf (W := 0) (rm3 l Z a0 hw [] b1 (p1 &&& (2147483647 : Int32)) (p2 &&& (2147483647 : Int32)) h2 n0 (((p3.toUInt32 >>> ((4 : Int32) &&& 31).toUInt32).toInt32) &&& (31 : Int32)) (p3 &&& (15 : Int32)) ((p4 &&& (1023 : Int32)) + (1 : Int32)) E2 F2_headerBytes F2_referenceBytes F2_alignment (own_nz p4)) hZ (hw _ (List.mem_of_getElem? (i := 22) rfl)) (hw _ (List.mem_of_getElem? (i := 3) rfl)) (by decide) (by decide)) q3a q3c (g := (mkF m 84 #[.val (.int p1), .val (.int p2), .val (.int p3), .val (.int p4), .val (.int (p1 &&& (2147483647 : Int32))), .val (.int (p2 &&& (2147483647 : Int32))), .val (.int (p3 &&& (15 : Int32))), .val (.int (((p3.toUInt32 >>> ((4 : Int32) &&& 31).toUInt32).toInt32) &&& (31 : Int32))), .val (.int (((p3.toUInt32 >>> ((9 : Int32) &&& 31).toUInt32).toInt32) &&& (31 : Int32))), .val (.int ((p4 &&& (1023 : Int32)) + (1 : Int32))), .val (.ref b1), .val (.long ((((((p3.toUInt32 >>> ((4 : Int32) &&& 31).toUInt32).toInt32) &&& (31 : Int32)).toInt64) + (((p1 &&& (2147483647 : Int32)).toInt64) * ((p3 &&& (15 : Int32)).toInt64))) + ((p2 &&& (2147483647 : Int32)).toInt64))), .second, .unset, .unset, .unset, .unset] [(.int (p2 &&& (2147483647 : Int32))), (.int (p1 &&& (2147483647 : Int32))), (.ref b1)])) rfl (by rw [hml]; rfl) (Steps.refl _) (argsL := [(.int (p1 &&& (2147483647 : Int32))), (.int (p2 &&& (2147483647 : Int32)))]) (rest := []) (lenOf pd_2 rfl) rfl (by show 2 * 0 + _ ≤ _; exact Nat.le_of_eq rfl) (hb hby at_84) (fun _ _ => ⟨rfl, e2, (by decide : 1 + 0 ≤ _), (by decide : 4 + 0 ≤ _)⟩)
  dsimp only [Pt.U, Pt.locs, Pt.cells, Pt.slots] at X3 l3 y3 z3 st3 hQ3
  subst l3 y3 z3
  obtain ⟨rfl, N3q, e3⟩ := hQ3
  have N3 := Fr.app N2 N3q
  replace X3 : Stand p l e room_1 s m args below meth c T3 _ 1 4 := X3
  refine Done.of (g' := (mkF m 87 #[.val (.int p1), .val (.int p2), .val (.int p3), .val (.int p4), .val (.int (p1 &&& (2147483647 : Int32))), .val (.int (p2 &&& (2147483647 : Int32))), .val (.int (p3 &&& (15 : Int32))), .val (.int (((p3.toUInt32 >>> ((4 : Int32) &&& 31).toUInt32).toInt32) &&& (31 : Int32))), .val (.int (((p3.toUInt32 >>> ((9 : Int32) &&& 31).toUInt32).toInt32) &&& (31 : Int32))), .val (.int ((p4 &&& (1023 : Int32)) + (1 : Int32))), .val (.ref b1), .val (.long ((((((p3.toUInt32 >>> ((4 : Int32) &&& 31).toUInt32).toInt32) &&& (31 : Int32)).toInt64) + (((p1 &&& (2147483647 : Int32)).toInt64) * ((p3 &&& (15 : Int32)).toInt64))) + ((p2 &&& (2147483647 : Int32)).toInt64))), .second, .unset, .unset, .unset, .unset] [(.long (F3_0 (p1 &&& (2147483647 : Int32)) (p2 &&& (2147483647 : Int32)) (((p3.toUInt32 >>> ((4 : Int32) &&& 31).toUInt32).toInt32) &&& (31 : Int32)) (p3 &&& (15 : Int32)) ((p4 &&& (1023 : Int32)) + (1 : Int32))))])) (fun t k => st3.trans k) ?_
  refine Done.of (T' := T3) (g' := (mkF m 101 #[.val (.int p1), .val (.int p2), .val (.int p3), .val (.int p4), .val (.int (p1 &&& (2147483647 : Int32))), .val (.int (p2 &&& (2147483647 : Int32))), .val (.int (p3 &&& (15 : Int32))), .val (.int (((p3.toUInt32 >>> ((4 : Int32) &&& 31).toUInt32).toInt32) &&& (31 : Int32))), .val (.int (((p3.toUInt32 >>> ((9 : Int32) &&& 31).toUInt32).toInt32) &&& (31 : Int32))), .val (.int ((p4 &&& (1023 : Int32)) + (1 : Int32))), .val (.ref b1), .val (.long ((((((p3.toUInt32 >>> ((4 : Int32) &&& 31).toUInt32).toInt32) &&& (31 : Int32)).toInt64) + (((p1 &&& (2147483647 : Int32)).toInt64) * ((p3 &&& (15 : Int32)).toInt64))) + ((p2 &&& (2147483647 : Int32)).toInt64))), .second, .val (.long (F3_0 (p1 &&& (2147483647 : Int32)) (p2 &&& (2147483647 : Int32)) (((p3.toUInt32 >>> ((4 : Int32) &&& 31).toUInt32).toInt32) &&& (31 : Int32)) (p3 &&& (15 : Int32)) ((p4 &&& (1023 : Int32)) + (1 : Int32)))), .second, .val (.long (((p4 &&& (1023 : Int32)) + (1 : Int32)).toInt64)), .second] [(.int (lcmpW ((F3_0 (p1 &&& (2147483647 : Int32)) (p2 &&& (2147483647 : Int32)) (((p3.toUInt32 >>> ((4 : Int32) &&& 31).toUInt32).toInt32) &&& (31 : Int32)) (p3 &&& (15 : Int32)) ((p4 &&& (1023 : Int32)) + (1 : Int32))) - ((F3_0 (p1 &&& (2147483647 : Int32)) (p2 &&& (2147483647 : Int32)) (((p3.toUInt32 >>> ((4 : Int32) &&& 31).toUInt32).toInt32) &&& (31 : Int32)) (p3 &&& (15 : Int32)) ((p4 &&& (1023 : Int32)) + (1 : Int32))) / (((p4 &&& (1023 : Int32)) + (1 : Int32)).toInt64)) * (((p4 &&& (1023 : Int32)) + (1 : Int32)).toInt64)) (0 : Int64)))])) (fun t k => ?_) ?_
  · show Steps p.tables e below (T3.setTop (mkF m 87 #[.val (.int p1), .val (.int p2), .val (.int p3), .val (.int p4), .val (.int (p1 &&& (2147483647 : Int32))), .val (.int (p2 &&& (2147483647 : Int32))), .val (.int (p3 &&& (15 : Int32))), .val (.int (((p3.toUInt32 >>> ((4 : Int32) &&& 31).toUInt32).toInt32) &&& (31 : Int32))), .val (.int (((p3.toUInt32 >>> ((9 : Int32) &&& 31).toUInt32).toInt32) &&& (31 : Int32))), .val (.int ((p4 &&& (1023 : Int32)) + (1 : Int32))), .val (.ref b1), .val (.long ((((((p3.toUInt32 >>> ((4 : Int32) &&& 31).toUInt32).toInt32) &&& (31 : Int32)).toInt64) + (((p1 &&& (2147483647 : Int32)).toInt64) * ((p3 &&& (15 : Int32)).toInt64))) + ((p2 &&& (2147483647 : Int32)).toInt64))), .second, .unset, .unset, .unset, .unset] [(.long (F3_0 (p1 &&& (2147483647 : Int32)) (p2 &&& (2147483647 : Int32)) (((p3.toUInt32 >>> ((4 : Int32) &&& 31).toUInt32).toInt32) &&& (31 : Int32)) (p3 &&& (15 : Int32)) ((p4 &&& (1023 : Int32)) + (1 : Int32))))])) t
    refine XS.lstore X3.here hx rfl (hb hby at_87) rfl (l' := #[.val (.int p1), .val (.int p2), .val (.int p3), .val (.int p4), .val (.int (p1 &&& (2147483647 : Int32))), .val (.int (p2 &&& (2147483647 : Int32))), .val (.int (p3 &&& (15 : Int32))), .val (.int (((p3.toUInt32 >>> ((4 : Int32) &&& 31).toUInt32).toInt32) &&& (31 : Int32))), .val (.int (((p3.toUInt32 >>> ((9 : Int32) &&& 31).toUInt32).toInt32) &&& (31 : Int32))), .val (.int ((p4 &&& (1023 : Int32)) + (1 : Int32))), .val (.ref b1), .val (.long ((((((p3.toUInt32 >>> ((4 : Int32) &&& 31).toUInt32).toInt32) &&& (31 : Int32)).toInt64) + (((p1 &&& (2147483647 : Int32)).toInt64) * ((p3 &&& (15 : Int32)).toInt64))) + ((p2 &&& (2147483647 : Int32)).toInt64))), .second, .val (.long (F3_0 (p1 &&& (2147483647 : Int32)) (p2 &&& (2147483647 : Int32)) (((p3.toUInt32 >>> ((4 : Int32) &&& 31).toUInt32).toInt32) &&& (31 : Int32)) (p3 &&& (15 : Int32)) ((p4 &&& (1023 : Int32)) + (1 : Int32)))), .second, .unset, .unset]) rfl ?_
    show Steps p.tables e below (T3.setTop (mkF m 89 #[.val (.int p1), .val (.int p2), .val (.int p3), .val (.int p4), .val (.int (p1 &&& (2147483647 : Int32))), .val (.int (p2 &&& (2147483647 : Int32))), .val (.int (p3 &&& (15 : Int32))), .val (.int (((p3.toUInt32 >>> ((4 : Int32) &&& 31).toUInt32).toInt32) &&& (31 : Int32))), .val (.int (((p3.toUInt32 >>> ((9 : Int32) &&& 31).toUInt32).toInt32) &&& (31 : Int32))), .val (.int ((p4 &&& (1023 : Int32)) + (1 : Int32))), .val (.ref b1), .val (.long ((((((p3.toUInt32 >>> ((4 : Int32) &&& 31).toUInt32).toInt32) &&& (31 : Int32)).toInt64) + (((p1 &&& (2147483647 : Int32)).toInt64) * ((p3 &&& (15 : Int32)).toInt64))) + ((p2 &&& (2147483647 : Int32)).toInt64))), .second, .val (.long (F3_0 (p1 &&& (2147483647 : Int32)) (p2 &&& (2147483647 : Int32)) (((p3.toUInt32 >>> ((4 : Int32) &&& 31).toUInt32).toInt32) &&& (31 : Int32)) (p3 &&& (15 : Int32)) ((p4 &&& (1023 : Int32)) + (1 : Int32)))), .second, .unset, .unset] [])) t
    refine XS.iload X3.here hx rfl (hb hby at_89) rfl ?_
    show Steps p.tables e below (T3.setTop (mkF m 91 #[.val (.int p1), .val (.int p2), .val (.int p3), .val (.int p4), .val (.int (p1 &&& (2147483647 : Int32))), .val (.int (p2 &&& (2147483647 : Int32))), .val (.int (p3 &&& (15 : Int32))), .val (.int (((p3.toUInt32 >>> ((4 : Int32) &&& 31).toUInt32).toInt32) &&& (31 : Int32))), .val (.int (((p3.toUInt32 >>> ((9 : Int32) &&& 31).toUInt32).toInt32) &&& (31 : Int32))), .val (.int ((p4 &&& (1023 : Int32)) + (1 : Int32))), .val (.ref b1), .val (.long ((((((p3.toUInt32 >>> ((4 : Int32) &&& 31).toUInt32).toInt32) &&& (31 : Int32)).toInt64) + (((p1 &&& (2147483647 : Int32)).toInt64) * ((p3 &&& (15 : Int32)).toInt64))) + ((p2 &&& (2147483647 : Int32)).toInt64))), .second, .val (.long (F3_0 (p1 &&& (2147483647 : Int32)) (p2 &&& (2147483647 : Int32)) (((p3.toUInt32 >>> ((4 : Int32) &&& 31).toUInt32).toInt32) &&& (31 : Int32)) (p3 &&& (15 : Int32)) ((p4 &&& (1023 : Int32)) + (1 : Int32)))), .second, .unset, .unset] [(.int ((p4 &&& (1023 : Int32)) + (1 : Int32)))])) t
    refine XS.i2l X3.here hx rfl (hb hby at_91) rfl ?_
    show Steps p.tables e below (T3.setTop (mkF m 92 #[.val (.int p1), .val (.int p2), .val (.int p3), .val (.int p4), .val (.int (p1 &&& (2147483647 : Int32))), .val (.int (p2 &&& (2147483647 : Int32))), .val (.int (p3 &&& (15 : Int32))), .val (.int (((p3.toUInt32 >>> ((4 : Int32) &&& 31).toUInt32).toInt32) &&& (31 : Int32))), .val (.int (((p3.toUInt32 >>> ((9 : Int32) &&& 31).toUInt32).toInt32) &&& (31 : Int32))), .val (.int ((p4 &&& (1023 : Int32)) + (1 : Int32))), .val (.ref b1), .val (.long ((((((p3.toUInt32 >>> ((4 : Int32) &&& 31).toUInt32).toInt32) &&& (31 : Int32)).toInt64) + (((p1 &&& (2147483647 : Int32)).toInt64) * ((p3 &&& (15 : Int32)).toInt64))) + ((p2 &&& (2147483647 : Int32)).toInt64))), .second, .val (.long (F3_0 (p1 &&& (2147483647 : Int32)) (p2 &&& (2147483647 : Int32)) (((p3.toUInt32 >>> ((4 : Int32) &&& 31).toUInt32).toInt32) &&& (31 : Int32)) (p3 &&& (15 : Int32)) ((p4 &&& (1023 : Int32)) + (1 : Int32)))), .second, .unset, .unset] [(.long (((p4 &&& (1023 : Int32)) + (1 : Int32)).toInt64))])) t
    refine XS.lstore X3.here hx rfl (hb hby at_92) rfl (l' := #[.val (.int p1), .val (.int p2), .val (.int p3), .val (.int p4), .val (.int (p1 &&& (2147483647 : Int32))), .val (.int (p2 &&& (2147483647 : Int32))), .val (.int (p3 &&& (15 : Int32))), .val (.int (((p3.toUInt32 >>> ((4 : Int32) &&& 31).toUInt32).toInt32) &&& (31 : Int32))), .val (.int (((p3.toUInt32 >>> ((9 : Int32) &&& 31).toUInt32).toInt32) &&& (31 : Int32))), .val (.int ((p4 &&& (1023 : Int32)) + (1 : Int32))), .val (.ref b1), .val (.long ((((((p3.toUInt32 >>> ((4 : Int32) &&& 31).toUInt32).toInt32) &&& (31 : Int32)).toInt64) + (((p1 &&& (2147483647 : Int32)).toInt64) * ((p3 &&& (15 : Int32)).toInt64))) + ((p2 &&& (2147483647 : Int32)).toInt64))), .second, .val (.long (F3_0 (p1 &&& (2147483647 : Int32)) (p2 &&& (2147483647 : Int32)) (((p3.toUInt32 >>> ((4 : Int32) &&& 31).toUInt32).toInt32) &&& (31 : Int32)) (p3 &&& (15 : Int32)) ((p4 &&& (1023 : Int32)) + (1 : Int32)))), .second, .val (.long (((p4 &&& (1023 : Int32)) + (1 : Int32)).toInt64)), .second]) rfl ?_
    show Steps p.tables e below (T3.setTop (mkF m 94 #[.val (.int p1), .val (.int p2), .val (.int p3), .val (.int p4), .val (.int (p1 &&& (2147483647 : Int32))), .val (.int (p2 &&& (2147483647 : Int32))), .val (.int (p3 &&& (15 : Int32))), .val (.int (((p3.toUInt32 >>> ((4 : Int32) &&& 31).toUInt32).toInt32) &&& (31 : Int32))), .val (.int (((p3.toUInt32 >>> ((9 : Int32) &&& 31).toUInt32).toInt32) &&& (31 : Int32))), .val (.int ((p4 &&& (1023 : Int32)) + (1 : Int32))), .val (.ref b1), .val (.long ((((((p3.toUInt32 >>> ((4 : Int32) &&& 31).toUInt32).toInt32) &&& (31 : Int32)).toInt64) + (((p1 &&& (2147483647 : Int32)).toInt64) * ((p3 &&& (15 : Int32)).toInt64))) + ((p2 &&& (2147483647 : Int32)).toInt64))), .second, .val (.long (F3_0 (p1 &&& (2147483647 : Int32)) (p2 &&& (2147483647 : Int32)) (((p3.toUInt32 >>> ((4 : Int32) &&& 31).toUInt32).toInt32) &&& (31 : Int32)) (p3 &&& (15 : Int32)) ((p4 &&& (1023 : Int32)) + (1 : Int32)))), .second, .val (.long (((p4 &&& (1023 : Int32)) + (1 : Int32)).toInt64)), .second] [])) t
    refine XS.lload X3.here hx rfl (hb hby at_94) rfl ?_
    show Steps p.tables e below (T3.setTop (mkF m 96 #[.val (.int p1), .val (.int p2), .val (.int p3), .val (.int p4), .val (.int (p1 &&& (2147483647 : Int32))), .val (.int (p2 &&& (2147483647 : Int32))), .val (.int (p3 &&& (15 : Int32))), .val (.int (((p3.toUInt32 >>> ((4 : Int32) &&& 31).toUInt32).toInt32) &&& (31 : Int32))), .val (.int (((p3.toUInt32 >>> ((9 : Int32) &&& 31).toUInt32).toInt32) &&& (31 : Int32))), .val (.int ((p4 &&& (1023 : Int32)) + (1 : Int32))), .val (.ref b1), .val (.long ((((((p3.toUInt32 >>> ((4 : Int32) &&& 31).toUInt32).toInt32) &&& (31 : Int32)).toInt64) + (((p1 &&& (2147483647 : Int32)).toInt64) * ((p3 &&& (15 : Int32)).toInt64))) + ((p2 &&& (2147483647 : Int32)).toInt64))), .second, .val (.long (F3_0 (p1 &&& (2147483647 : Int32)) (p2 &&& (2147483647 : Int32)) (((p3.toUInt32 >>> ((4 : Int32) &&& 31).toUInt32).toInt32) &&& (31 : Int32)) (p3 &&& (15 : Int32)) ((p4 &&& (1023 : Int32)) + (1 : Int32)))), .second, .val (.long (((p4 &&& (1023 : Int32)) + (1 : Int32)).toInt64)), .second] [(.long (F3_0 (p1 &&& (2147483647 : Int32)) (p2 &&& (2147483647 : Int32)) (((p3.toUInt32 >>> ((4 : Int32) &&& 31).toUInt32).toInt32) &&& (31 : Int32)) (p3 &&& (15 : Int32)) ((p4 &&& (1023 : Int32)) + (1 : Int32))))])) t
    refine XS.lload X3.here hx rfl (hb hby at_96) rfl ?_
    show Steps p.tables e below (T3.setTop (mkF m 98 #[.val (.int p1), .val (.int p2), .val (.int p3), .val (.int p4), .val (.int (p1 &&& (2147483647 : Int32))), .val (.int (p2 &&& (2147483647 : Int32))), .val (.int (p3 &&& (15 : Int32))), .val (.int (((p3.toUInt32 >>> ((4 : Int32) &&& 31).toUInt32).toInt32) &&& (31 : Int32))), .val (.int (((p3.toUInt32 >>> ((9 : Int32) &&& 31).toUInt32).toInt32) &&& (31 : Int32))), .val (.int ((p4 &&& (1023 : Int32)) + (1 : Int32))), .val (.ref b1), .val (.long ((((((p3.toUInt32 >>> ((4 : Int32) &&& 31).toUInt32).toInt32) &&& (31 : Int32)).toInt64) + (((p1 &&& (2147483647 : Int32)).toInt64) * ((p3 &&& (15 : Int32)).toInt64))) + ((p2 &&& (2147483647 : Int32)).toInt64))), .second, .val (.long (F3_0 (p1 &&& (2147483647 : Int32)) (p2 &&& (2147483647 : Int32)) (((p3.toUInt32 >>> ((4 : Int32) &&& 31).toUInt32).toInt32) &&& (31 : Int32)) (p3 &&& (15 : Int32)) ((p4 &&& (1023 : Int32)) + (1 : Int32)))), .second, .val (.long (((p4 &&& (1023 : Int32)) + (1 : Int32)).toInt64)), .second] [(.long (((p4 &&& (1023 : Int32)) + (1 : Int32)).toInt64)), (.long (F3_0 (p1 &&& (2147483647 : Int32)) (p2 &&& (2147483647 : Int32)) (((p3.toUInt32 >>> ((4 : Int32) &&& 31).toUInt32).toInt32) &&& (31 : Int32)) (p3 &&& (15 : Int32)) ((p4 &&& (1023 : Int32)) + (1 : Int32))))])) t
    refine XS.lrem X3.here hx rfl (hb hby at_98) rfl (own_nz p4) ?_
    show Steps p.tables e below (T3.setTop (mkF m 99 #[.val (.int p1), .val (.int p2), .val (.int p3), .val (.int p4), .val (.int (p1 &&& (2147483647 : Int32))), .val (.int (p2 &&& (2147483647 : Int32))), .val (.int (p3 &&& (15 : Int32))), .val (.int (((p3.toUInt32 >>> ((4 : Int32) &&& 31).toUInt32).toInt32) &&& (31 : Int32))), .val (.int (((p3.toUInt32 >>> ((9 : Int32) &&& 31).toUInt32).toInt32) &&& (31 : Int32))), .val (.int ((p4 &&& (1023 : Int32)) + (1 : Int32))), .val (.ref b1), .val (.long ((((((p3.toUInt32 >>> ((4 : Int32) &&& 31).toUInt32).toInt32) &&& (31 : Int32)).toInt64) + (((p1 &&& (2147483647 : Int32)).toInt64) * ((p3 &&& (15 : Int32)).toInt64))) + ((p2 &&& (2147483647 : Int32)).toInt64))), .second, .val (.long (F3_0 (p1 &&& (2147483647 : Int32)) (p2 &&& (2147483647 : Int32)) (((p3.toUInt32 >>> ((4 : Int32) &&& 31).toUInt32).toInt32) &&& (31 : Int32)) (p3 &&& (15 : Int32)) ((p4 &&& (1023 : Int32)) + (1 : Int32)))), .second, .val (.long (((p4 &&& (1023 : Int32)) + (1 : Int32)).toInt64)), .second] [(.long ((F3_0 (p1 &&& (2147483647 : Int32)) (p2 &&& (2147483647 : Int32)) (((p3.toUInt32 >>> ((4 : Int32) &&& 31).toUInt32).toInt32) &&& (31 : Int32)) (p3 &&& (15 : Int32)) ((p4 &&& (1023 : Int32)) + (1 : Int32))) - ((F3_0 (p1 &&& (2147483647 : Int32)) (p2 &&& (2147483647 : Int32)) (((p3.toUInt32 >>> ((4 : Int32) &&& 31).toUInt32).toInt32) &&& (31 : Int32)) (p3 &&& (15 : Int32)) ((p4 &&& (1023 : Int32)) + (1 : Int32))) / (((p4 &&& (1023 : Int32)) + (1 : Int32)).toInt64)) * (((p4 &&& (1023 : Int32)) + (1 : Int32)).toInt64)))])) t
    refine XS.lconst X3.here hx rfl (hb hby at_99) ?_
    show Steps p.tables e below (T3.setTop (mkF m 100 #[.val (.int p1), .val (.int p2), .val (.int p3), .val (.int p4), .val (.int (p1 &&& (2147483647 : Int32))), .val (.int (p2 &&& (2147483647 : Int32))), .val (.int (p3 &&& (15 : Int32))), .val (.int (((p3.toUInt32 >>> ((4 : Int32) &&& 31).toUInt32).toInt32) &&& (31 : Int32))), .val (.int (((p3.toUInt32 >>> ((9 : Int32) &&& 31).toUInt32).toInt32) &&& (31 : Int32))), .val (.int ((p4 &&& (1023 : Int32)) + (1 : Int32))), .val (.ref b1), .val (.long ((((((p3.toUInt32 >>> ((4 : Int32) &&& 31).toUInt32).toInt32) &&& (31 : Int32)).toInt64) + (((p1 &&& (2147483647 : Int32)).toInt64) * ((p3 &&& (15 : Int32)).toInt64))) + ((p2 &&& (2147483647 : Int32)).toInt64))), .second, .val (.long (F3_0 (p1 &&& (2147483647 : Int32)) (p2 &&& (2147483647 : Int32)) (((p3.toUInt32 >>> ((4 : Int32) &&& 31).toUInt32).toInt32) &&& (31 : Int32)) (p3 &&& (15 : Int32)) ((p4 &&& (1023 : Int32)) + (1 : Int32)))), .second, .val (.long (((p4 &&& (1023 : Int32)) + (1 : Int32)).toInt64)), .second] [(.long (0 : Int64)), (.long ((F3_0 (p1 &&& (2147483647 : Int32)) (p2 &&& (2147483647 : Int32)) (((p3.toUInt32 >>> ((4 : Int32) &&& 31).toUInt32).toInt32) &&& (31 : Int32)) (p3 &&& (15 : Int32)) ((p4 &&& (1023 : Int32)) + (1 : Int32))) - ((F3_0 (p1 &&& (2147483647 : Int32)) (p2 &&& (2147483647 : Int32)) (((p3.toUInt32 >>> ((4 : Int32) &&& 31).toUInt32).toInt32) &&& (31 : Int32)) (p3 &&& (15 : Int32)) ((p4 &&& (1023 : Int32)) + (1 : Int32))) / (((p4 &&& (1023 : Int32)) + (1 : Int32)).toInt64)) * (((p4 &&& (1023 : Int32)) + (1 : Int32)).toInt64)))])) t
    refine XS.lcmp X3.here hx rfl (hb hby at_100) rfl ?_
    exact k
  by_cases hc101_3 : ((F3_0 (p1 &&& (2147483647 : Int32)) (p2 &&& (2147483647 : Int32)) (((p3.toUInt32 >>> ((4 : Int32) &&& 31).toUInt32).toInt32) &&& (31 : Int32)) (p3 &&& (15 : Int32)) ((p4 &&& (1023 : Int32)) + (1 : Int32))) - ((F3_0 (p1 &&& (2147483647 : Int32)) (p2 &&& (2147483647 : Int32)) (((p3.toUInt32 >>> ((4 : Int32) &&& 31).toUInt32).toInt32) &&& (31 : Int32)) (p3 &&& (15 : Int32)) ((p4 &&& (1023 : Int32)) + (1 : Int32))) / (((p4 &&& (1023 : Int32)) + (1 : Int32)).toInt64)) * (((p4 &&& (1023 : Int32)) + (1 : Int32)).toInt64)) = (0 : Int64)
  · rw [if_pos hc101_3]
    refine Done.of (T' := T3) (g' := (mkF m 109 #[.val (.int p1), .val (.int p2), .val (.int p3), .val (.int p4), .val (.int (p1 &&& (2147483647 : Int32))), .val (.int (p2 &&& (2147483647 : Int32))), .val (.int (p3 &&& (15 : Int32))), .val (.int (((p3.toUInt32 >>> ((4 : Int32) &&& 31).toUInt32).toInt32) &&& (31 : Int32))), .val (.int (((p3.toUInt32 >>> ((9 : Int32) &&& 31).toUInt32).toInt32) &&& (31 : Int32))), .val (.int ((p4 &&& (1023 : Int32)) + (1 : Int32))), .val (.ref b1), .val (.long ((((((p3.toUInt32 >>> ((4 : Int32) &&& 31).toUInt32).toInt32) &&& (31 : Int32)).toInt64) + (((p1 &&& (2147483647 : Int32)).toInt64) * ((p3 &&& (15 : Int32)).toInt64))) + ((p2 &&& (2147483647 : Int32)).toInt64))), .second, .val (.long (F3_0 (p1 &&& (2147483647 : Int32)) (p2 &&& (2147483647 : Int32)) (((p3.toUInt32 >>> ((4 : Int32) &&& 31).toUInt32).toInt32) &&& (31 : Int32)) (p3 &&& (15 : Int32)) ((p4 &&& (1023 : Int32)) + (1 : Int32)))), .second, .val (.long (((p4 &&& (1023 : Int32)) + (1 : Int32)).toInt64)), .second] [(.int (lcmpW (F3_0 (p1 &&& (2147483647 : Int32)) (p2 &&& (2147483647 : Int32)) (((p3.toUInt32 >>> ((4 : Int32) &&& 31).toUInt32).toInt32) &&& (31 : Int32)) (p3 &&& (15 : Int32)) ((p4 &&& (1023 : Int32)) + (1 : Int32))) ((((((p3.toUInt32 >>> ((4 : Int32) &&& 31).toUInt32).toInt32) &&& (31 : Int32)).toInt64) + (((p1 &&& (2147483647 : Int32)).toInt64) * ((p3 &&& (15 : Int32)).toInt64))) + ((p2 &&& (2147483647 : Int32)).toInt64))))])) (fun t k => ?_) ?_
    · show Steps p.tables e below (T3.setTop (mkF m 101 #[.val (.int p1), .val (.int p2), .val (.int p3), .val (.int p4), .val (.int (p1 &&& (2147483647 : Int32))), .val (.int (p2 &&& (2147483647 : Int32))), .val (.int (p3 &&& (15 : Int32))), .val (.int (((p3.toUInt32 >>> ((4 : Int32) &&& 31).toUInt32).toInt32) &&& (31 : Int32))), .val (.int (((p3.toUInt32 >>> ((9 : Int32) &&& 31).toUInt32).toInt32) &&& (31 : Int32))), .val (.int ((p4 &&& (1023 : Int32)) + (1 : Int32))), .val (.ref b1), .val (.long ((((((p3.toUInt32 >>> ((4 : Int32) &&& 31).toUInt32).toInt32) &&& (31 : Int32)).toInt64) + (((p1 &&& (2147483647 : Int32)).toInt64) * ((p3 &&& (15 : Int32)).toInt64))) + ((p2 &&& (2147483647 : Int32)).toInt64))), .second, .val (.long (F3_0 (p1 &&& (2147483647 : Int32)) (p2 &&& (2147483647 : Int32)) (((p3.toUInt32 >>> ((4 : Int32) &&& 31).toUInt32).toInt32) &&& (31 : Int32)) (p3 &&& (15 : Int32)) ((p4 &&& (1023 : Int32)) + (1 : Int32)))), .second, .val (.long (((p4 &&& (1023 : Int32)) + (1 : Int32)).toInt64)), .second] [(.int (lcmpW ((F3_0 (p1 &&& (2147483647 : Int32)) (p2 &&& (2147483647 : Int32)) (((p3.toUInt32 >>> ((4 : Int32) &&& 31).toUInt32).toInt32) &&& (31 : Int32)) (p3 &&& (15 : Int32)) ((p4 &&& (1023 : Int32)) + (1 : Int32))) - ((F3_0 (p1 &&& (2147483647 : Int32)) (p2 &&& (2147483647 : Int32)) (((p3.toUInt32 >>> ((4 : Int32) &&& 31).toUInt32).toInt32) &&& (31 : Int32)) (p3 &&& (15 : Int32)) ((p4 &&& (1023 : Int32)) + (1 : Int32))) / (((p4 &&& (1023 : Int32)) + (1 : Int32)).toInt64)) * (((p4 &&& (1023 : Int32)) + (1 : Int32)).toInt64)) (0 : Int64)))])) t
      refine XS.ifNo X3.here hx rfl (hb hby at_101) rfl (lcEq_t hc101_3).2 ?_
      show Steps p.tables e below (T3.setTop (mkF m 104 #[.val (.int p1), .val (.int p2), .val (.int p3), .val (.int p4), .val (.int (p1 &&& (2147483647 : Int32))), .val (.int (p2 &&& (2147483647 : Int32))), .val (.int (p3 &&& (15 : Int32))), .val (.int (((p3.toUInt32 >>> ((4 : Int32) &&& 31).toUInt32).toInt32) &&& (31 : Int32))), .val (.int (((p3.toUInt32 >>> ((9 : Int32) &&& 31).toUInt32).toInt32) &&& (31 : Int32))), .val (.int ((p4 &&& (1023 : Int32)) + (1 : Int32))), .val (.ref b1), .val (.long ((((((p3.toUInt32 >>> ((4 : Int32) &&& 31).toUInt32).toInt32) &&& (31 : Int32)).toInt64) + (((p1 &&& (2147483647 : Int32)).toInt64) * ((p3 &&& (15 : Int32)).toInt64))) + ((p2 &&& (2147483647 : Int32)).toInt64))), .second, .val (.long (F3_0 (p1 &&& (2147483647 : Int32)) (p2 &&& (2147483647 : Int32)) (((p3.toUInt32 >>> ((4 : Int32) &&& 31).toUInt32).toInt32) &&& (31 : Int32)) (p3 &&& (15 : Int32)) ((p4 &&& (1023 : Int32)) + (1 : Int32)))), .second, .val (.long (((p4 &&& (1023 : Int32)) + (1 : Int32)).toInt64)), .second] [])) t
      refine XS.lload X3.here hx rfl (hb hby at_104) rfl ?_
      show Steps p.tables e below (T3.setTop (mkF m 106 #[.val (.int p1), .val (.int p2), .val (.int p3), .val (.int p4), .val (.int (p1 &&& (2147483647 : Int32))), .val (.int (p2 &&& (2147483647 : Int32))), .val (.int (p3 &&& (15 : Int32))), .val (.int (((p3.toUInt32 >>> ((4 : Int32) &&& 31).toUInt32).toInt32) &&& (31 : Int32))), .val (.int (((p3.toUInt32 >>> ((9 : Int32) &&& 31).toUInt32).toInt32) &&& (31 : Int32))), .val (.int ((p4 &&& (1023 : Int32)) + (1 : Int32))), .val (.ref b1), .val (.long ((((((p3.toUInt32 >>> ((4 : Int32) &&& 31).toUInt32).toInt32) &&& (31 : Int32)).toInt64) + (((p1 &&& (2147483647 : Int32)).toInt64) * ((p3 &&& (15 : Int32)).toInt64))) + ((p2 &&& (2147483647 : Int32)).toInt64))), .second, .val (.long (F3_0 (p1 &&& (2147483647 : Int32)) (p2 &&& (2147483647 : Int32)) (((p3.toUInt32 >>> ((4 : Int32) &&& 31).toUInt32).toInt32) &&& (31 : Int32)) (p3 &&& (15 : Int32)) ((p4 &&& (1023 : Int32)) + (1 : Int32)))), .second, .val (.long (((p4 &&& (1023 : Int32)) + (1 : Int32)).toInt64)), .second] [(.long (F3_0 (p1 &&& (2147483647 : Int32)) (p2 &&& (2147483647 : Int32)) (((p3.toUInt32 >>> ((4 : Int32) &&& 31).toUInt32).toInt32) &&& (31 : Int32)) (p3 &&& (15 : Int32)) ((p4 &&& (1023 : Int32)) + (1 : Int32))))])) t
      refine XS.lload X3.here hx rfl (hb hby at_106) rfl ?_
      show Steps p.tables e below (T3.setTop (mkF m 108 #[.val (.int p1), .val (.int p2), .val (.int p3), .val (.int p4), .val (.int (p1 &&& (2147483647 : Int32))), .val (.int (p2 &&& (2147483647 : Int32))), .val (.int (p3 &&& (15 : Int32))), .val (.int (((p3.toUInt32 >>> ((4 : Int32) &&& 31).toUInt32).toInt32) &&& (31 : Int32))), .val (.int (((p3.toUInt32 >>> ((9 : Int32) &&& 31).toUInt32).toInt32) &&& (31 : Int32))), .val (.int ((p4 &&& (1023 : Int32)) + (1 : Int32))), .val (.ref b1), .val (.long ((((((p3.toUInt32 >>> ((4 : Int32) &&& 31).toUInt32).toInt32) &&& (31 : Int32)).toInt64) + (((p1 &&& (2147483647 : Int32)).toInt64) * ((p3 &&& (15 : Int32)).toInt64))) + ((p2 &&& (2147483647 : Int32)).toInt64))), .second, .val (.long (F3_0 (p1 &&& (2147483647 : Int32)) (p2 &&& (2147483647 : Int32)) (((p3.toUInt32 >>> ((4 : Int32) &&& 31).toUInt32).toInt32) &&& (31 : Int32)) (p3 &&& (15 : Int32)) ((p4 &&& (1023 : Int32)) + (1 : Int32)))), .second, .val (.long (((p4 &&& (1023 : Int32)) + (1 : Int32)).toInt64)), .second] [(.long ((((((p3.toUInt32 >>> ((4 : Int32) &&& 31).toUInt32).toInt32) &&& (31 : Int32)).toInt64) + (((p1 &&& (2147483647 : Int32)).toInt64) * ((p3 &&& (15 : Int32)).toInt64))) + ((p2 &&& (2147483647 : Int32)).toInt64))), (.long (F3_0 (p1 &&& (2147483647 : Int32)) (p2 &&& (2147483647 : Int32)) (((p3.toUInt32 >>> ((4 : Int32) &&& 31).toUInt32).toInt32) &&& (31 : Int32)) (p3 &&& (15 : Int32)) ((p4 &&& (1023 : Int32)) + (1 : Int32))))])) t
      refine XS.lcmp X3.here hx rfl (hb hby at_108) rfl ?_
      exact k
    by_cases hc109_4 : (F3_0 (p1 &&& (2147483647 : Int32)) (p2 &&& (2147483647 : Int32)) (((p3.toUInt32 >>> ((4 : Int32) &&& 31).toUInt32).toInt32) &&& (31 : Int32)) (p3 &&& (15 : Int32)) ((p4 &&& (1023 : Int32)) + (1 : Int32))) < ((((((p3.toUInt32 >>> ((4 : Int32) &&& 31).toUInt32).toInt32) &&& (31 : Int32)).toInt64) + (((p1 &&& (2147483647 : Int32)).toInt64) * ((p3 &&& (15 : Int32)).toInt64))) + ((p2 &&& (2147483647 : Int32)).toInt64))
    · rw [if_pos hc109_4]
      refine Done.of (T' := T3) (g' := (mkF m 128 #[.val (.int p1), .val (.int p2), .val (.int p3), .val (.int p4), .val (.int (p1 &&& (2147483647 : Int32))), .val (.int (p2 &&& (2147483647 : Int32))), .val (.int (p3 &&& (15 : Int32))), .val (.int (((p3.toUInt32 >>> ((4 : Int32) &&& 31).toUInt32).toInt32) &&& (31 : Int32))), .val (.int (((p3.toUInt32 >>> ((9 : Int32) &&& 31).toUInt32).toInt32) &&& (31 : Int32))), .val (.int ((p4 &&& (1023 : Int32)) + (1 : Int32))), .val (.ref b1), .val (.long ((((((p3.toUInt32 >>> ((4 : Int32) &&& 31).toUInt32).toInt32) &&& (31 : Int32)).toInt64) + (((p1 &&& (2147483647 : Int32)).toInt64) * ((p3 &&& (15 : Int32)).toInt64))) + ((p2 &&& (2147483647 : Int32)).toInt64))), .second, .val (.long (F3_0 (p1 &&& (2147483647 : Int32)) (p2 &&& (2147483647 : Int32)) (((p3.toUInt32 >>> ((4 : Int32) &&& 31).toUInt32).toInt32) &&& (31 : Int32)) (p3 &&& (15 : Int32)) ((p4 &&& (1023 : Int32)) + (1 : Int32)))), .second, .val (.long (((p4 &&& (1023 : Int32)) + (1 : Int32)).toInt64)), .second] [(.int (0 : Int32))])) (fun t k => ?_) ?_
      · show Steps p.tables e below (T3.setTop (mkF m 109 #[.val (.int p1), .val (.int p2), .val (.int p3), .val (.int p4), .val (.int (p1 &&& (2147483647 : Int32))), .val (.int (p2 &&& (2147483647 : Int32))), .val (.int (p3 &&& (15 : Int32))), .val (.int (((p3.toUInt32 >>> ((4 : Int32) &&& 31).toUInt32).toInt32) &&& (31 : Int32))), .val (.int (((p3.toUInt32 >>> ((9 : Int32) &&& 31).toUInt32).toInt32) &&& (31 : Int32))), .val (.int ((p4 &&& (1023 : Int32)) + (1 : Int32))), .val (.ref b1), .val (.long ((((((p3.toUInt32 >>> ((4 : Int32) &&& 31).toUInt32).toInt32) &&& (31 : Int32)).toInt64) + (((p1 &&& (2147483647 : Int32)).toInt64) * ((p3 &&& (15 : Int32)).toInt64))) + ((p2 &&& (2147483647 : Int32)).toInt64))), .second, .val (.long (F3_0 (p1 &&& (2147483647 : Int32)) (p2 &&& (2147483647 : Int32)) (((p3.toUInt32 >>> ((4 : Int32) &&& 31).toUInt32).toInt32) &&& (31 : Int32)) (p3 &&& (15 : Int32)) ((p4 &&& (1023 : Int32)) + (1 : Int32)))), .second, .val (.long (((p4 &&& (1023 : Int32)) + (1 : Int32)).toInt64)), .second] [(.int (lcmpW (F3_0 (p1 &&& (2147483647 : Int32)) (p2 &&& (2147483647 : Int32)) (((p3.toUInt32 >>> ((4 : Int32) &&& 31).toUInt32).toInt32) &&& (31 : Int32)) (p3 &&& (15 : Int32)) ((p4 &&& (1023 : Int32)) + (1 : Int32))) ((((((p3.toUInt32 >>> ((4 : Int32) &&& 31).toUInt32).toInt32) &&& (31 : Int32)).toInt64) + (((p1 &&& (2147483647 : Int32)).toInt64) * ((p3 &&& (15 : Int32)).toInt64))) + ((p2 &&& (2147483647 : Int32)).toInt64))))])) t
        refine XS.ifYes X3.here hx rfl (pc0 := 109) (pc' := 127) rfl (hb hby at_109) rfl (lcLt_t hc109_4).1 (by decide) (by decide) ?_
        show Steps p.tables e below (T3.setTop (mkF m 127 #[.val (.int p1), .val (.int p2), .val (.int p3), .val (.int p4), .val (.int (p1 &&& (2147483647 : Int32))), .val (.int (p2 &&& (2147483647 : Int32))), .val (.int (p3 &&& (15 : Int32))), .val (.int (((p3.toUInt32 >>> ((4 : Int32) &&& 31).toUInt32).toInt32) &&& (31 : Int32))), .val (.int (((p3.toUInt32 >>> ((9 : Int32) &&& 31).toUInt32).toInt32) &&& (31 : Int32))), .val (.int ((p4 &&& (1023 : Int32)) + (1 : Int32))), .val (.ref b1), .val (.long ((((((p3.toUInt32 >>> ((4 : Int32) &&& 31).toUInt32).toInt32) &&& (31 : Int32)).toInt64) + (((p1 &&& (2147483647 : Int32)).toInt64) * ((p3 &&& (15 : Int32)).toInt64))) + ((p2 &&& (2147483647 : Int32)).toInt64))), .second, .val (.long (F3_0 (p1 &&& (2147483647 : Int32)) (p2 &&& (2147483647 : Int32)) (((p3.toUInt32 >>> ((4 : Int32) &&& 31).toUInt32).toInt32) &&& (31 : Int32)) (p3 &&& (15 : Int32)) ((p4 &&& (1023 : Int32)) + (1 : Int32)))), .second, .val (.long (((p4 &&& (1023 : Int32)) + (1 : Int32)).toInt64)), .second] [])) t
        refine XS.iconst X3.here hx rfl (hb hby at_127) ?_
        exact k
      exact doneN (t := .boolean) X3 (by simp) hx hret hlk (hb hby at_128) ⟨rfl, N3⟩ (by decide) (by decide)
    · rw [if_neg hc109_4]
      refine Done.of (T' := T3) (g' := (mkF m 120 #[.val (.int p1), .val (.int p2), .val (.int p3), .val (.int p4), .val (.int (p1 &&& (2147483647 : Int32))), .val (.int (p2 &&& (2147483647 : Int32))), .val (.int (p3 &&& (15 : Int32))), .val (.int (((p3.toUInt32 >>> ((4 : Int32) &&& 31).toUInt32).toInt32) &&& (31 : Int32))), .val (.int (((p3.toUInt32 >>> ((9 : Int32) &&& 31).toUInt32).toInt32) &&& (31 : Int32))), .val (.int ((p4 &&& (1023 : Int32)) + (1 : Int32))), .val (.ref b1), .val (.long ((((((p3.toUInt32 >>> ((4 : Int32) &&& 31).toUInt32).toInt32) &&& (31 : Int32)).toInt64) + (((p1 &&& (2147483647 : Int32)).toInt64) * ((p3 &&& (15 : Int32)).toInt64))) + ((p2 &&& (2147483647 : Int32)).toInt64))), .second, .val (.long (F3_0 (p1 &&& (2147483647 : Int32)) (p2 &&& (2147483647 : Int32)) (((p3.toUInt32 >>> ((4 : Int32) &&& 31).toUInt32).toInt32) &&& (31 : Int32)) (p3 &&& (15 : Int32)) ((p4 &&& (1023 : Int32)) + (1 : Int32)))), .second, .val (.long (((p4 &&& (1023 : Int32)) + (1 : Int32)).toInt64)), .second] [(.int (lcmpW ((F3_0 (p1 &&& (2147483647 : Int32)) (p2 &&& (2147483647 : Int32)) (((p3.toUInt32 >>> ((4 : Int32) &&& 31).toUInt32).toInt32) &&& (31 : Int32)) (p3 &&& (15 : Int32)) ((p4 &&& (1023 : Int32)) + (1 : Int32))) - ((((((p3.toUInt32 >>> ((4 : Int32) &&& 31).toUInt32).toInt32) &&& (31 : Int32)).toInt64) + (((p1 &&& (2147483647 : Int32)).toInt64) * ((p3 &&& (15 : Int32)).toInt64))) + ((p2 &&& (2147483647 : Int32)).toInt64))) (((p4 &&& (1023 : Int32)) + (1 : Int32)).toInt64)))])) (fun t k => ?_) ?_
      · show Steps p.tables e below (T3.setTop (mkF m 109 #[.val (.int p1), .val (.int p2), .val (.int p3), .val (.int p4), .val (.int (p1 &&& (2147483647 : Int32))), .val (.int (p2 &&& (2147483647 : Int32))), .val (.int (p3 &&& (15 : Int32))), .val (.int (((p3.toUInt32 >>> ((4 : Int32) &&& 31).toUInt32).toInt32) &&& (31 : Int32))), .val (.int (((p3.toUInt32 >>> ((9 : Int32) &&& 31).toUInt32).toInt32) &&& (31 : Int32))), .val (.int ((p4 &&& (1023 : Int32)) + (1 : Int32))), .val (.ref b1), .val (.long ((((((p3.toUInt32 >>> ((4 : Int32) &&& 31).toUInt32).toInt32) &&& (31 : Int32)).toInt64) + (((p1 &&& (2147483647 : Int32)).toInt64) * ((p3 &&& (15 : Int32)).toInt64))) + ((p2 &&& (2147483647 : Int32)).toInt64))), .second, .val (.long (F3_0 (p1 &&& (2147483647 : Int32)) (p2 &&& (2147483647 : Int32)) (((p3.toUInt32 >>> ((4 : Int32) &&& 31).toUInt32).toInt32) &&& (31 : Int32)) (p3 &&& (15 : Int32)) ((p4 &&& (1023 : Int32)) + (1 : Int32)))), .second, .val (.long (((p4 &&& (1023 : Int32)) + (1 : Int32)).toInt64)), .second] [(.int (lcmpW (F3_0 (p1 &&& (2147483647 : Int32)) (p2 &&& (2147483647 : Int32)) (((p3.toUInt32 >>> ((4 : Int32) &&& 31).toUInt32).toInt32) &&& (31 : Int32)) (p3 &&& (15 : Int32)) ((p4 &&& (1023 : Int32)) + (1 : Int32))) ((((((p3.toUInt32 >>> ((4 : Int32) &&& 31).toUInt32).toInt32) &&& (31 : Int32)).toInt64) + (((p1 &&& (2147483647 : Int32)).toInt64) * ((p3 &&& (15 : Int32)).toInt64))) + ((p2 &&& (2147483647 : Int32)).toInt64))))])) t
        refine XS.ifNo X3.here hx rfl (hb hby at_109) rfl (lcLt_f hc109_4).1 ?_
        show Steps p.tables e below (T3.setTop (mkF m 112 #[.val (.int p1), .val (.int p2), .val (.int p3), .val (.int p4), .val (.int (p1 &&& (2147483647 : Int32))), .val (.int (p2 &&& (2147483647 : Int32))), .val (.int (p3 &&& (15 : Int32))), .val (.int (((p3.toUInt32 >>> ((4 : Int32) &&& 31).toUInt32).toInt32) &&& (31 : Int32))), .val (.int (((p3.toUInt32 >>> ((9 : Int32) &&& 31).toUInt32).toInt32) &&& (31 : Int32))), .val (.int ((p4 &&& (1023 : Int32)) + (1 : Int32))), .val (.ref b1), .val (.long ((((((p3.toUInt32 >>> ((4 : Int32) &&& 31).toUInt32).toInt32) &&& (31 : Int32)).toInt64) + (((p1 &&& (2147483647 : Int32)).toInt64) * ((p3 &&& (15 : Int32)).toInt64))) + ((p2 &&& (2147483647 : Int32)).toInt64))), .second, .val (.long (F3_0 (p1 &&& (2147483647 : Int32)) (p2 &&& (2147483647 : Int32)) (((p3.toUInt32 >>> ((4 : Int32) &&& 31).toUInt32).toInt32) &&& (31 : Int32)) (p3 &&& (15 : Int32)) ((p4 &&& (1023 : Int32)) + (1 : Int32)))), .second, .val (.long (((p4 &&& (1023 : Int32)) + (1 : Int32)).toInt64)), .second] [])) t
        refine XS.lload X3.here hx rfl (hb hby at_112) rfl ?_
        show Steps p.tables e below (T3.setTop (mkF m 114 #[.val (.int p1), .val (.int p2), .val (.int p3), .val (.int p4), .val (.int (p1 &&& (2147483647 : Int32))), .val (.int (p2 &&& (2147483647 : Int32))), .val (.int (p3 &&& (15 : Int32))), .val (.int (((p3.toUInt32 >>> ((4 : Int32) &&& 31).toUInt32).toInt32) &&& (31 : Int32))), .val (.int (((p3.toUInt32 >>> ((9 : Int32) &&& 31).toUInt32).toInt32) &&& (31 : Int32))), .val (.int ((p4 &&& (1023 : Int32)) + (1 : Int32))), .val (.ref b1), .val (.long ((((((p3.toUInt32 >>> ((4 : Int32) &&& 31).toUInt32).toInt32) &&& (31 : Int32)).toInt64) + (((p1 &&& (2147483647 : Int32)).toInt64) * ((p3 &&& (15 : Int32)).toInt64))) + ((p2 &&& (2147483647 : Int32)).toInt64))), .second, .val (.long (F3_0 (p1 &&& (2147483647 : Int32)) (p2 &&& (2147483647 : Int32)) (((p3.toUInt32 >>> ((4 : Int32) &&& 31).toUInt32).toInt32) &&& (31 : Int32)) (p3 &&& (15 : Int32)) ((p4 &&& (1023 : Int32)) + (1 : Int32)))), .second, .val (.long (((p4 &&& (1023 : Int32)) + (1 : Int32)).toInt64)), .second] [(.long (F3_0 (p1 &&& (2147483647 : Int32)) (p2 &&& (2147483647 : Int32)) (((p3.toUInt32 >>> ((4 : Int32) &&& 31).toUInt32).toInt32) &&& (31 : Int32)) (p3 &&& (15 : Int32)) ((p4 &&& (1023 : Int32)) + (1 : Int32))))])) t
        refine XS.lload X3.here hx rfl (hb hby at_114) rfl ?_
        show Steps p.tables e below (T3.setTop (mkF m 116 #[.val (.int p1), .val (.int p2), .val (.int p3), .val (.int p4), .val (.int (p1 &&& (2147483647 : Int32))), .val (.int (p2 &&& (2147483647 : Int32))), .val (.int (p3 &&& (15 : Int32))), .val (.int (((p3.toUInt32 >>> ((4 : Int32) &&& 31).toUInt32).toInt32) &&& (31 : Int32))), .val (.int (((p3.toUInt32 >>> ((9 : Int32) &&& 31).toUInt32).toInt32) &&& (31 : Int32))), .val (.int ((p4 &&& (1023 : Int32)) + (1 : Int32))), .val (.ref b1), .val (.long ((((((p3.toUInt32 >>> ((4 : Int32) &&& 31).toUInt32).toInt32) &&& (31 : Int32)).toInt64) + (((p1 &&& (2147483647 : Int32)).toInt64) * ((p3 &&& (15 : Int32)).toInt64))) + ((p2 &&& (2147483647 : Int32)).toInt64))), .second, .val (.long (F3_0 (p1 &&& (2147483647 : Int32)) (p2 &&& (2147483647 : Int32)) (((p3.toUInt32 >>> ((4 : Int32) &&& 31).toUInt32).toInt32) &&& (31 : Int32)) (p3 &&& (15 : Int32)) ((p4 &&& (1023 : Int32)) + (1 : Int32)))), .second, .val (.long (((p4 &&& (1023 : Int32)) + (1 : Int32)).toInt64)), .second] [(.long ((((((p3.toUInt32 >>> ((4 : Int32) &&& 31).toUInt32).toInt32) &&& (31 : Int32)).toInt64) + (((p1 &&& (2147483647 : Int32)).toInt64) * ((p3 &&& (15 : Int32)).toInt64))) + ((p2 &&& (2147483647 : Int32)).toInt64))), (.long (F3_0 (p1 &&& (2147483647 : Int32)) (p2 &&& (2147483647 : Int32)) (((p3.toUInt32 >>> ((4 : Int32) &&& 31).toUInt32).toInt32) &&& (31 : Int32)) (p3 &&& (15 : Int32)) ((p4 &&& (1023 : Int32)) + (1 : Int32))))])) t
        refine XS.lsub X3.here hx rfl (hb hby at_116) rfl ?_
        show Steps p.tables e below (T3.setTop (mkF m 117 #[.val (.int p1), .val (.int p2), .val (.int p3), .val (.int p4), .val (.int (p1 &&& (2147483647 : Int32))), .val (.int (p2 &&& (2147483647 : Int32))), .val (.int (p3 &&& (15 : Int32))), .val (.int (((p3.toUInt32 >>> ((4 : Int32) &&& 31).toUInt32).toInt32) &&& (31 : Int32))), .val (.int (((p3.toUInt32 >>> ((9 : Int32) &&& 31).toUInt32).toInt32) &&& (31 : Int32))), .val (.int ((p4 &&& (1023 : Int32)) + (1 : Int32))), .val (.ref b1), .val (.long ((((((p3.toUInt32 >>> ((4 : Int32) &&& 31).toUInt32).toInt32) &&& (31 : Int32)).toInt64) + (((p1 &&& (2147483647 : Int32)).toInt64) * ((p3 &&& (15 : Int32)).toInt64))) + ((p2 &&& (2147483647 : Int32)).toInt64))), .second, .val (.long (F3_0 (p1 &&& (2147483647 : Int32)) (p2 &&& (2147483647 : Int32)) (((p3.toUInt32 >>> ((4 : Int32) &&& 31).toUInt32).toInt32) &&& (31 : Int32)) (p3 &&& (15 : Int32)) ((p4 &&& (1023 : Int32)) + (1 : Int32)))), .second, .val (.long (((p4 &&& (1023 : Int32)) + (1 : Int32)).toInt64)), .second] [(.long ((F3_0 (p1 &&& (2147483647 : Int32)) (p2 &&& (2147483647 : Int32)) (((p3.toUInt32 >>> ((4 : Int32) &&& 31).toUInt32).toInt32) &&& (31 : Int32)) (p3 &&& (15 : Int32)) ((p4 &&& (1023 : Int32)) + (1 : Int32))) - ((((((p3.toUInt32 >>> ((4 : Int32) &&& 31).toUInt32).toInt32) &&& (31 : Int32)).toInt64) + (((p1 &&& (2147483647 : Int32)).toInt64) * ((p3 &&& (15 : Int32)).toInt64))) + ((p2 &&& (2147483647 : Int32)).toInt64))))])) t
        refine XS.lload X3.here hx rfl (hb hby at_117) rfl ?_
        show Steps p.tables e below (T3.setTop (mkF m 119 #[.val (.int p1), .val (.int p2), .val (.int p3), .val (.int p4), .val (.int (p1 &&& (2147483647 : Int32))), .val (.int (p2 &&& (2147483647 : Int32))), .val (.int (p3 &&& (15 : Int32))), .val (.int (((p3.toUInt32 >>> ((4 : Int32) &&& 31).toUInt32).toInt32) &&& (31 : Int32))), .val (.int (((p3.toUInt32 >>> ((9 : Int32) &&& 31).toUInt32).toInt32) &&& (31 : Int32))), .val (.int ((p4 &&& (1023 : Int32)) + (1 : Int32))), .val (.ref b1), .val (.long ((((((p3.toUInt32 >>> ((4 : Int32) &&& 31).toUInt32).toInt32) &&& (31 : Int32)).toInt64) + (((p1 &&& (2147483647 : Int32)).toInt64) * ((p3 &&& (15 : Int32)).toInt64))) + ((p2 &&& (2147483647 : Int32)).toInt64))), .second, .val (.long (F3_0 (p1 &&& (2147483647 : Int32)) (p2 &&& (2147483647 : Int32)) (((p3.toUInt32 >>> ((4 : Int32) &&& 31).toUInt32).toInt32) &&& (31 : Int32)) (p3 &&& (15 : Int32)) ((p4 &&& (1023 : Int32)) + (1 : Int32)))), .second, .val (.long (((p4 &&& (1023 : Int32)) + (1 : Int32)).toInt64)), .second] [(.long (((p4 &&& (1023 : Int32)) + (1 : Int32)).toInt64)), (.long ((F3_0 (p1 &&& (2147483647 : Int32)) (p2 &&& (2147483647 : Int32)) (((p3.toUInt32 >>> ((4 : Int32) &&& 31).toUInt32).toInt32) &&& (31 : Int32)) (p3 &&& (15 : Int32)) ((p4 &&& (1023 : Int32)) + (1 : Int32))) - ((((((p3.toUInt32 >>> ((4 : Int32) &&& 31).toUInt32).toInt32) &&& (31 : Int32)).toInt64) + (((p1 &&& (2147483647 : Int32)).toInt64) * ((p3 &&& (15 : Int32)).toInt64))) + ((p2 &&& (2147483647 : Int32)).toInt64))))])) t
        refine XS.lcmp X3.here hx rfl (hb hby at_119) rfl ?_
        exact k
      by_cases hc120_5 : ((F3_0 (p1 &&& (2147483647 : Int32)) (p2 &&& (2147483647 : Int32)) (((p3.toUInt32 >>> ((4 : Int32) &&& 31).toUInt32).toInt32) &&& (31 : Int32)) (p3 &&& (15 : Int32)) ((p4 &&& (1023 : Int32)) + (1 : Int32))) - ((((((p3.toUInt32 >>> ((4 : Int32) &&& 31).toUInt32).toInt32) &&& (31 : Int32)).toInt64) + (((p1 &&& (2147483647 : Int32)).toInt64) * ((p3 &&& (15 : Int32)).toInt64))) + ((p2 &&& (2147483647 : Int32)).toInt64))) < (((p4 &&& (1023 : Int32)) + (1 : Int32)).toInt64)
      · rw [if_pos hc120_5]
        refine Done.of (T' := T3) (g' := (mkF m 128 #[.val (.int p1), .val (.int p2), .val (.int p3), .val (.int p4), .val (.int (p1 &&& (2147483647 : Int32))), .val (.int (p2 &&& (2147483647 : Int32))), .val (.int (p3 &&& (15 : Int32))), .val (.int (((p3.toUInt32 >>> ((4 : Int32) &&& 31).toUInt32).toInt32) &&& (31 : Int32))), .val (.int (((p3.toUInt32 >>> ((9 : Int32) &&& 31).toUInt32).toInt32) &&& (31 : Int32))), .val (.int ((p4 &&& (1023 : Int32)) + (1 : Int32))), .val (.ref b1), .val (.long ((((((p3.toUInt32 >>> ((4 : Int32) &&& 31).toUInt32).toInt32) &&& (31 : Int32)).toInt64) + (((p1 &&& (2147483647 : Int32)).toInt64) * ((p3 &&& (15 : Int32)).toInt64))) + ((p2 &&& (2147483647 : Int32)).toInt64))), .second, .val (.long (F3_0 (p1 &&& (2147483647 : Int32)) (p2 &&& (2147483647 : Int32)) (((p3.toUInt32 >>> ((4 : Int32) &&& 31).toUInt32).toInt32) &&& (31 : Int32)) (p3 &&& (15 : Int32)) ((p4 &&& (1023 : Int32)) + (1 : Int32)))), .second, .val (.long (((p4 &&& (1023 : Int32)) + (1 : Int32)).toInt64)), .second] [(.int (1 : Int32))])) (fun t k => ?_) ?_
        · show Steps p.tables e below (T3.setTop (mkF m 120 #[.val (.int p1), .val (.int p2), .val (.int p3), .val (.int p4), .val (.int (p1 &&& (2147483647 : Int32))), .val (.int (p2 &&& (2147483647 : Int32))), .val (.int (p3 &&& (15 : Int32))), .val (.int (((p3.toUInt32 >>> ((4 : Int32) &&& 31).toUInt32).toInt32) &&& (31 : Int32))), .val (.int (((p3.toUInt32 >>> ((9 : Int32) &&& 31).toUInt32).toInt32) &&& (31 : Int32))), .val (.int ((p4 &&& (1023 : Int32)) + (1 : Int32))), .val (.ref b1), .val (.long ((((((p3.toUInt32 >>> ((4 : Int32) &&& 31).toUInt32).toInt32) &&& (31 : Int32)).toInt64) + (((p1 &&& (2147483647 : Int32)).toInt64) * ((p3 &&& (15 : Int32)).toInt64))) + ((p2 &&& (2147483647 : Int32)).toInt64))), .second, .val (.long (F3_0 (p1 &&& (2147483647 : Int32)) (p2 &&& (2147483647 : Int32)) (((p3.toUInt32 >>> ((4 : Int32) &&& 31).toUInt32).toInt32) &&& (31 : Int32)) (p3 &&& (15 : Int32)) ((p4 &&& (1023 : Int32)) + (1 : Int32)))), .second, .val (.long (((p4 &&& (1023 : Int32)) + (1 : Int32)).toInt64)), .second] [(.int (lcmpW ((F3_0 (p1 &&& (2147483647 : Int32)) (p2 &&& (2147483647 : Int32)) (((p3.toUInt32 >>> ((4 : Int32) &&& 31).toUInt32).toInt32) &&& (31 : Int32)) (p3 &&& (15 : Int32)) ((p4 &&& (1023 : Int32)) + (1 : Int32))) - ((((((p3.toUInt32 >>> ((4 : Int32) &&& 31).toUInt32).toInt32) &&& (31 : Int32)).toInt64) + (((p1 &&& (2147483647 : Int32)).toInt64) * ((p3 &&& (15 : Int32)).toInt64))) + ((p2 &&& (2147483647 : Int32)).toInt64))) (((p4 &&& (1023 : Int32)) + (1 : Int32)).toInt64)))])) t
          refine XS.ifNo X3.here hx rfl (hb hby at_120) rfl (lcLt_t hc120_5).2 ?_
          show Steps p.tables e below (T3.setTop (mkF m 123 #[.val (.int p1), .val (.int p2), .val (.int p3), .val (.int p4), .val (.int (p1 &&& (2147483647 : Int32))), .val (.int (p2 &&& (2147483647 : Int32))), .val (.int (p3 &&& (15 : Int32))), .val (.int (((p3.toUInt32 >>> ((4 : Int32) &&& 31).toUInt32).toInt32) &&& (31 : Int32))), .val (.int (((p3.toUInt32 >>> ((9 : Int32) &&& 31).toUInt32).toInt32) &&& (31 : Int32))), .val (.int ((p4 &&& (1023 : Int32)) + (1 : Int32))), .val (.ref b1), .val (.long ((((((p3.toUInt32 >>> ((4 : Int32) &&& 31).toUInt32).toInt32) &&& (31 : Int32)).toInt64) + (((p1 &&& (2147483647 : Int32)).toInt64) * ((p3 &&& (15 : Int32)).toInt64))) + ((p2 &&& (2147483647 : Int32)).toInt64))), .second, .val (.long (F3_0 (p1 &&& (2147483647 : Int32)) (p2 &&& (2147483647 : Int32)) (((p3.toUInt32 >>> ((4 : Int32) &&& 31).toUInt32).toInt32) &&& (31 : Int32)) (p3 &&& (15 : Int32)) ((p4 &&& (1023 : Int32)) + (1 : Int32)))), .second, .val (.long (((p4 &&& (1023 : Int32)) + (1 : Int32)).toInt64)), .second] [])) t
          refine XS.iconst X3.here hx rfl (hb hby at_123) ?_
          show Steps p.tables e below (T3.setTop (mkF m 124 #[.val (.int p1), .val (.int p2), .val (.int p3), .val (.int p4), .val (.int (p1 &&& (2147483647 : Int32))), .val (.int (p2 &&& (2147483647 : Int32))), .val (.int (p3 &&& (15 : Int32))), .val (.int (((p3.toUInt32 >>> ((4 : Int32) &&& 31).toUInt32).toInt32) &&& (31 : Int32))), .val (.int (((p3.toUInt32 >>> ((9 : Int32) &&& 31).toUInt32).toInt32) &&& (31 : Int32))), .val (.int ((p4 &&& (1023 : Int32)) + (1 : Int32))), .val (.ref b1), .val (.long ((((((p3.toUInt32 >>> ((4 : Int32) &&& 31).toUInt32).toInt32) &&& (31 : Int32)).toInt64) + (((p1 &&& (2147483647 : Int32)).toInt64) * ((p3 &&& (15 : Int32)).toInt64))) + ((p2 &&& (2147483647 : Int32)).toInt64))), .second, .val (.long (F3_0 (p1 &&& (2147483647 : Int32)) (p2 &&& (2147483647 : Int32)) (((p3.toUInt32 >>> ((4 : Int32) &&& 31).toUInt32).toInt32) &&& (31 : Int32)) (p3 &&& (15 : Int32)) ((p4 &&& (1023 : Int32)) + (1 : Int32)))), .second, .val (.long (((p4 &&& (1023 : Int32)) + (1 : Int32)).toInt64)), .second] [(.int (1 : Int32))])) t
          refine XS.goto X3.here hx rfl (pc0 := 124) (pc' := 128) rfl (hb hby at_124) (by decide) (by decide) ?_
          exact k
        exact doneN (t := .boolean) X3 (by simp) hx hret hlk (hb hby at_128) ⟨rfl, N3⟩ (by decide) (by decide)
      · rw [if_neg hc120_5]
        refine Done.of (T' := T3) (g' := (mkF m 128 #[.val (.int p1), .val (.int p2), .val (.int p3), .val (.int p4), .val (.int (p1 &&& (2147483647 : Int32))), .val (.int (p2 &&& (2147483647 : Int32))), .val (.int (p3 &&& (15 : Int32))), .val (.int (((p3.toUInt32 >>> ((4 : Int32) &&& 31).toUInt32).toInt32) &&& (31 : Int32))), .val (.int (((p3.toUInt32 >>> ((9 : Int32) &&& 31).toUInt32).toInt32) &&& (31 : Int32))), .val (.int ((p4 &&& (1023 : Int32)) + (1 : Int32))), .val (.ref b1), .val (.long ((((((p3.toUInt32 >>> ((4 : Int32) &&& 31).toUInt32).toInt32) &&& (31 : Int32)).toInt64) + (((p1 &&& (2147483647 : Int32)).toInt64) * ((p3 &&& (15 : Int32)).toInt64))) + ((p2 &&& (2147483647 : Int32)).toInt64))), .second, .val (.long (F3_0 (p1 &&& (2147483647 : Int32)) (p2 &&& (2147483647 : Int32)) (((p3.toUInt32 >>> ((4 : Int32) &&& 31).toUInt32).toInt32) &&& (31 : Int32)) (p3 &&& (15 : Int32)) ((p4 &&& (1023 : Int32)) + (1 : Int32)))), .second, .val (.long (((p4 &&& (1023 : Int32)) + (1 : Int32)).toInt64)), .second] [(.int (0 : Int32))])) (fun t k => ?_) ?_
        · show Steps p.tables e below (T3.setTop (mkF m 120 #[.val (.int p1), .val (.int p2), .val (.int p3), .val (.int p4), .val (.int (p1 &&& (2147483647 : Int32))), .val (.int (p2 &&& (2147483647 : Int32))), .val (.int (p3 &&& (15 : Int32))), .val (.int (((p3.toUInt32 >>> ((4 : Int32) &&& 31).toUInt32).toInt32) &&& (31 : Int32))), .val (.int (((p3.toUInt32 >>> ((9 : Int32) &&& 31).toUInt32).toInt32) &&& (31 : Int32))), .val (.int ((p4 &&& (1023 : Int32)) + (1 : Int32))), .val (.ref b1), .val (.long ((((((p3.toUInt32 >>> ((4 : Int32) &&& 31).toUInt32).toInt32) &&& (31 : Int32)).toInt64) + (((p1 &&& (2147483647 : Int32)).toInt64) * ((p3 &&& (15 : Int32)).toInt64))) + ((p2 &&& (2147483647 : Int32)).toInt64))), .second, .val (.long (F3_0 (p1 &&& (2147483647 : Int32)) (p2 &&& (2147483647 : Int32)) (((p3.toUInt32 >>> ((4 : Int32) &&& 31).toUInt32).toInt32) &&& (31 : Int32)) (p3 &&& (15 : Int32)) ((p4 &&& (1023 : Int32)) + (1 : Int32)))), .second, .val (.long (((p4 &&& (1023 : Int32)) + (1 : Int32)).toInt64)), .second] [(.int (lcmpW ((F3_0 (p1 &&& (2147483647 : Int32)) (p2 &&& (2147483647 : Int32)) (((p3.toUInt32 >>> ((4 : Int32) &&& 31).toUInt32).toInt32) &&& (31 : Int32)) (p3 &&& (15 : Int32)) ((p4 &&& (1023 : Int32)) + (1 : Int32))) - ((((((p3.toUInt32 >>> ((4 : Int32) &&& 31).toUInt32).toInt32) &&& (31 : Int32)).toInt64) + (((p1 &&& (2147483647 : Int32)).toInt64) * ((p3 &&& (15 : Int32)).toInt64))) + ((p2 &&& (2147483647 : Int32)).toInt64))) (((p4 &&& (1023 : Int32)) + (1 : Int32)).toInt64)))])) t
          refine XS.ifYes X3.here hx rfl (pc0 := 120) (pc' := 127) rfl (hb hby at_120) rfl (lcLt_f hc120_5).2 (by decide) (by decide) ?_
          show Steps p.tables e below (T3.setTop (mkF m 127 #[.val (.int p1), .val (.int p2), .val (.int p3), .val (.int p4), .val (.int (p1 &&& (2147483647 : Int32))), .val (.int (p2 &&& (2147483647 : Int32))), .val (.int (p3 &&& (15 : Int32))), .val (.int (((p3.toUInt32 >>> ((4 : Int32) &&& 31).toUInt32).toInt32) &&& (31 : Int32))), .val (.int (((p3.toUInt32 >>> ((9 : Int32) &&& 31).toUInt32).toInt32) &&& (31 : Int32))), .val (.int ((p4 &&& (1023 : Int32)) + (1 : Int32))), .val (.ref b1), .val (.long ((((((p3.toUInt32 >>> ((4 : Int32) &&& 31).toUInt32).toInt32) &&& (31 : Int32)).toInt64) + (((p1 &&& (2147483647 : Int32)).toInt64) * ((p3 &&& (15 : Int32)).toInt64))) + ((p2 &&& (2147483647 : Int32)).toInt64))), .second, .val (.long (F3_0 (p1 &&& (2147483647 : Int32)) (p2 &&& (2147483647 : Int32)) (((p3.toUInt32 >>> ((4 : Int32) &&& 31).toUInt32).toInt32) &&& (31 : Int32)) (p3 &&& (15 : Int32)) ((p4 &&& (1023 : Int32)) + (1 : Int32)))), .second, .val (.long (((p4 &&& (1023 : Int32)) + (1 : Int32)).toInt64)), .second] [])) t
          refine XS.iconst X3.here hx rfl (hb hby at_127) ?_
          exact k
        exact doneN (t := .boolean) X3 (by simp) hx hret hlk (hb hby at_128) ⟨rfl, N3⟩ (by decide) (by decide)
  · rw [if_neg hc101_3]
    refine Done.of (T' := T3) (g' := (mkF m 128 #[.val (.int p1), .val (.int p2), .val (.int p3), .val (.int p4), .val (.int (p1 &&& (2147483647 : Int32))), .val (.int (p2 &&& (2147483647 : Int32))), .val (.int (p3 &&& (15 : Int32))), .val (.int (((p3.toUInt32 >>> ((4 : Int32) &&& 31).toUInt32).toInt32) &&& (31 : Int32))), .val (.int (((p3.toUInt32 >>> ((9 : Int32) &&& 31).toUInt32).toInt32) &&& (31 : Int32))), .val (.int ((p4 &&& (1023 : Int32)) + (1 : Int32))), .val (.ref b1), .val (.long ((((((p3.toUInt32 >>> ((4 : Int32) &&& 31).toUInt32).toInt32) &&& (31 : Int32)).toInt64) + (((p1 &&& (2147483647 : Int32)).toInt64) * ((p3 &&& (15 : Int32)).toInt64))) + ((p2 &&& (2147483647 : Int32)).toInt64))), .second, .val (.long (F3_0 (p1 &&& (2147483647 : Int32)) (p2 &&& (2147483647 : Int32)) (((p3.toUInt32 >>> ((4 : Int32) &&& 31).toUInt32).toInt32) &&& (31 : Int32)) (p3 &&& (15 : Int32)) ((p4 &&& (1023 : Int32)) + (1 : Int32)))), .second, .val (.long (((p4 &&& (1023 : Int32)) + (1 : Int32)).toInt64)), .second] [(.int (0 : Int32))])) (fun t k => ?_) ?_
    · show Steps p.tables e below (T3.setTop (mkF m 101 #[.val (.int p1), .val (.int p2), .val (.int p3), .val (.int p4), .val (.int (p1 &&& (2147483647 : Int32))), .val (.int (p2 &&& (2147483647 : Int32))), .val (.int (p3 &&& (15 : Int32))), .val (.int (((p3.toUInt32 >>> ((4 : Int32) &&& 31).toUInt32).toInt32) &&& (31 : Int32))), .val (.int (((p3.toUInt32 >>> ((9 : Int32) &&& 31).toUInt32).toInt32) &&& (31 : Int32))), .val (.int ((p4 &&& (1023 : Int32)) + (1 : Int32))), .val (.ref b1), .val (.long ((((((p3.toUInt32 >>> ((4 : Int32) &&& 31).toUInt32).toInt32) &&& (31 : Int32)).toInt64) + (((p1 &&& (2147483647 : Int32)).toInt64) * ((p3 &&& (15 : Int32)).toInt64))) + ((p2 &&& (2147483647 : Int32)).toInt64))), .second, .val (.long (F3_0 (p1 &&& (2147483647 : Int32)) (p2 &&& (2147483647 : Int32)) (((p3.toUInt32 >>> ((4 : Int32) &&& 31).toUInt32).toInt32) &&& (31 : Int32)) (p3 &&& (15 : Int32)) ((p4 &&& (1023 : Int32)) + (1 : Int32)))), .second, .val (.long (((p4 &&& (1023 : Int32)) + (1 : Int32)).toInt64)), .second] [(.int (lcmpW ((F3_0 (p1 &&& (2147483647 : Int32)) (p2 &&& (2147483647 : Int32)) (((p3.toUInt32 >>> ((4 : Int32) &&& 31).toUInt32).toInt32) &&& (31 : Int32)) (p3 &&& (15 : Int32)) ((p4 &&& (1023 : Int32)) + (1 : Int32))) - ((F3_0 (p1 &&& (2147483647 : Int32)) (p2 &&& (2147483647 : Int32)) (((p3.toUInt32 >>> ((4 : Int32) &&& 31).toUInt32).toInt32) &&& (31 : Int32)) (p3 &&& (15 : Int32)) ((p4 &&& (1023 : Int32)) + (1 : Int32))) / (((p4 &&& (1023 : Int32)) + (1 : Int32)).toInt64)) * (((p4 &&& (1023 : Int32)) + (1 : Int32)).toInt64)) (0 : Int64)))])) t
      refine XS.ifYes X3.here hx rfl (pc0 := 101) (pc' := 127) rfl (hb hby at_101) rfl (lcEq_f hc101_3).2 (by decide) (by decide) ?_
      show Steps p.tables e below (T3.setTop (mkF m 127 #[.val (.int p1), .val (.int p2), .val (.int p3), .val (.int p4), .val (.int (p1 &&& (2147483647 : Int32))), .val (.int (p2 &&& (2147483647 : Int32))), .val (.int (p3 &&& (15 : Int32))), .val (.int (((p3.toUInt32 >>> ((4 : Int32) &&& 31).toUInt32).toInt32) &&& (31 : Int32))), .val (.int (((p3.toUInt32 >>> ((9 : Int32) &&& 31).toUInt32).toInt32) &&& (31 : Int32))), .val (.int ((p4 &&& (1023 : Int32)) + (1 : Int32))), .val (.ref b1), .val (.long ((((((p3.toUInt32 >>> ((4 : Int32) &&& 31).toUInt32).toInt32) &&& (31 : Int32)).toInt64) + (((p1 &&& (2147483647 : Int32)).toInt64) * ((p3 &&& (15 : Int32)).toInt64))) + ((p2 &&& (2147483647 : Int32)).toInt64))), .second, .val (.long (F3_0 (p1 &&& (2147483647 : Int32)) (p2 &&& (2147483647 : Int32)) (((p3.toUInt32 >>> ((4 : Int32) &&& 31).toUInt32).toInt32) &&& (31 : Int32)) (p3 &&& (15 : Int32)) ((p4 &&& (1023 : Int32)) + (1 : Int32)))), .second, .val (.long (((p4 &&& (1023 : Int32)) + (1 : Int32)).toInt64)), .second] [])) t
      refine XS.iconst X3.here hx rfl (hb hby at_127) ?_
      exact k
    exact doneN (t := .boolean) X3 (by simp) hx hret hlk (hb hby at_128) ⟨rfl, N3⟩ (by decide) (by decide)
theorem own_got (raw al : Int64) (h0 : 0 ≤ raw.toInt) (h1 : raw.toInt ≤ 40000000000) (h2 : 1 ≤ al.toInt) (h3 : al.toInt ≤ 1024) :
    (((((raw + al) - 1) / al) * al) - (((((raw + al) - 1) / al) * al) / al) * al) = (0 : Int64) ∧ raw.toInt ≤ ((((raw + al) - 1) / al) * al).toInt ∧ ((((raw + al) - 1) / al) * al).toInt < raw.toInt + al.toInt := by
  have a1 := c_ladd raw al
  have r1 := rng64 (raw + al)
  have l1 : (1 : Int64).toInt = 1 := rfl
  have a2 := c_lsub (raw + al) 1
  have r2 := rng64 ((raw + al) - 1)
  have e2 : ((raw + al) - 1).toInt = raw.toInt + al.toInt - 1 := by omega
  generalize (raw + al) - 1 = s at *
  have hm1 : al ≠ -1 := by rw [Ne, ← Int64.toInt_inj]; have : (-1 : Int64).toInt = -1 := rfl; omega
  have d := (c_ldiv s al al.toInt rfl hm1).1 (by omega)
  have rd := rng64 (s / al)
  generalize s / al = q at *
  have m := c_lmul q al
  have rm := rng64 (q * al)
  have k1 : q.toInt * al.toInt ≤ s.toInt := by rw [d]; exact Int.ediv_mul_le _ (by omega)
  have k2 : s.toInt < q.toInt * al.toInt + al.toInt := by
    rw [d]; have := Int.lt_ediv_add_one_mul_self s.toInt (show 0 < al.toInt by omega)
    rw [Int.add_mul, Int.one_mul] at this; exact this
  have eP : (q * al).toInt = q.toInt * al.toInt := by
    generalize q.toInt * al.toInt = P at *; omega
  have hr := (c_lrem (q * al) al al.toInt rfl).1 (by omega)
  refine ⟨?_, by omega, by omega⟩
  rw [← Int64.toInt_inj, hr, eP]
  exact Int.mul_emod_left _ _
theorem own_law (p1 p2 p3 p4 : Int32) : F0_0 p1 p2 p3 p4 = 1 := by
  have hal := own_al p4
  have m1 := c_and p1 2147483647 (by decide)
  have m2 := c_and p2 2147483647 (by decide)
  have m3 := c_mask (p3.toUInt32 >>> ((4 : Int32) &&& 31).toUInt32).toInt32 31 5 (by decide) (by decide)
  have m4 := c_mask p3 15 4 (by decide) (by decide)
  have L : (2147483647 : Int32).toInt = 2147483647 := rfl
  have i1 := c_i2l (p1 &&& 2147483647)
  have i2 := c_i2l (p2 &&& 2147483647)
  have i3 := c_i2l ((p3.toUInt32 >>> ((4 : Int32) &&& 31).toUInt32).toInt32 &&& 31)
  have i4 := c_i2l (p3 &&& 15)
  unfold F0_0 F3_0 F4_0
  generalize ((p1 &&& 2147483647)).toInt64 = x1 at *
  generalize ((p2 &&& 2147483647)).toInt64 = x2 at *
  generalize (((p3.toUInt32 >>> ((4 : Int32) &&& 31).toUInt32).toInt32 &&& 31)).toInt64 = x3 at *
  generalize ((p3 &&& 15)).toInt64 = x4 at *
  generalize (((p4 &&& (1023 : Int32)) + (1 : Int32))).toInt64 = al at *
  have b1 : 0 ≤ x1.toInt ∧ x1.toInt ≤ 2147483647 := by omega
  have b2 : 0 ≤ x2.toInt ∧ x2.toInt ≤ 2147483647 := by omega
  have b3 : 0 ≤ x3.toInt ∧ x3.toInt ≤ 31 := by omega
  have b4 : 0 ≤ x4.toInt ∧ x4.toInt ≤ 15 := by omega
  have p0 : 0 ≤ x1.toInt * x4.toInt := Int.mul_nonneg (by omega) (by omega)
  have p5 : x1.toInt * x4.toInt ≤ 2147483647 * 15 := Int.mul_le_mul (by omega) (by omega) (by omega) (by omega)
  have c1 := c_lmul x1 x4
  have r1 := rng64 (x1 * x4)
  have e1 : (x1 * x4).toInt = x1.toInt * x4.toInt := by generalize x1.toInt * x4.toInt = P at *; omega
  generalize x1.toInt * x4.toInt = P at *
  have c2 := c_ladd x3 (x1 * x4)
  have r2 := rng64 (x3 + x1 * x4)
  have c3 := c_ladd (x3 + x1 * x4) x2
  have r3 := rng64 (x3 + x1 * x4 + x2)
  have e3 : (x3 + x1 * x4 + x2).toInt = x3.toInt + P + x2.toInt := by omega
  generalize x3 + x1 * x4 + x2 = raw at *
  obtain ⟨g1, g2, g3⟩ := own_got raw al (by omega) (by omega) (by omega) (by omega)
  rw [if_pos g1]
  generalize (((raw + al) - 1) / al) * al = got at *
  have c4 := c_lsub got raw
  have r4 := rng64 (got - raw)
  rw [if_neg (by rw [Int64.lt_iff_toInt_lt]; omega), if_pos (by rw [Int64.lt_iff_toInt_lt]; omega)]
theorem ef_0 (m : MethodId) (p1 : Int32) (p2 : Int32) (p3 : Int32) (p4 : Int32) : entryFrame m #[(.int p1), (.int p2), (.int p3), (.int p4)] maxLocals = mkF m 0 #[.val (.int p1), .val (.int p2), .val (.int p3), .val (.int p4), .unset, .unset, .unset, .unset, .unset, .unset, .unset, .unset, .unset, .unset, .unset, .unset, .unset] [] := by first | (simp [entryFrame, mkF, argsToLocals, Value.category, maxLocals]; done) | rfl
theorem pn_0 : plainName "com/example/noreply/noreply/engine/HeapLayoutObjectBytesPinLaw" = true := by first | (simp [plainName, overriddenIn]; done) | decide +kernel
set_option maxRecDepth 65536 in
set_option maxHeartbeats 40000000 in
theorem rm0 (l : Launch) (Z : State) (a0 : Array Value) (hw : ∀ d ∈ tables_1, d.before a0 Z = true) (ws : List Jvm.Cond) (p1 : Int32) (p2 : Int32) (p3 : Int32) (p4 : Int32) (h0 : Heap) (n0 : Nat) (Z0 : n0 ≤ h0.size) :
    MetFree l x (head1 (Jvm.Cond.code x code maxLocals ret :: ws) room_1) (fun a U => a = #[(.int p1), (.int p2), (.int p3), (.int p4)] ∧ Z.Warmed39 U.vm ∧ U.heap = h0) (fun _ _ _ _ _ => True) (fun _ U o U' => ∃ v L, o = .returned v ∧ (Ql n0 (.int 1)) v U'.heap L ∧ FrameEnd U o U' L room_1.cells room_1.slots) := by
  refine MetFree.of_bodySF (plainFor_of_name pn_0) hisR ?_
  intro p e s m args below meth c s₁ Bd hml0 hP hK
  obtain ⟨rfl, hZ, hh⟩ := hP
  have hown : s.vm.findClass "com/example/noreply/noreply/engine/HeapLayoutObjectBytesPinLaw" = some m.cls := findClass_of_methodNamed Bd.named
  have hnm := (name_of_methodNamed Bd.named Bd.method).1
  have X0 : Stand p l e room_1 s m #[(.int p1), (.int p2), (.int p3), (.int p4)] below meth c s₁ [] 0 0 := Stand.of_body Bd
  have e0 : s₁.heap = h0 := by rw [← hh, Bd.state]; rfl
  have d := bk0_0 (n0 := n0) Bd.exec hZ hw Bd.bytes hml0 hown hnm Bd.returns (BodyLoose.notSynchronized Bd) X0 (Fr.nil n0) e0 p1 p2 p3 p4 Z0
  rw [own_law p1 p2 p3 p4] at d
  have d2 : Done p e below s room_1 (Ql n0 (.int 1)) s₁ (entryFrame m #[(.int p1), (.int p2), (.int p3), (.int p4)] maxLocals) := by rw [ef_0]; exact d
  exact d2
set_option maxRecDepth 65536 in
set_option maxHeartbeats 40000000 in
theorem comes_1 {Post : Tables → Env → Array Value → State → Outcome → State → Prop} (hpost : ∀ tb e args s v u, (limb_1_1.after args s (.returned v) u = true ∧ limb_1_2.after args s (.returned v) u = true ∧ True) → FrameEnd s (.returned v) u (Jvm.fieldLocs frame_1_writes args s ++ Jvm.arrayLocs frame_1_arrays args s ++ Jvm.staticLocs frame_1_statics s) 16 128 → Post tb e args s (.returned v) u) :
    ArmFor flags0 classFile x code maxLocals ret World_1 tables_1 room_1 Calls_1 rest_1 Pre_1 Post := by
  intro l hfl _ _ p e ha hc hk s m args below hf hA hF happ hP
  obtain ⟨hcalls, hrest, hpre⟩ := hP
  obtain ⟨-, -, -, hnamed, -, -, -, hat⟩ := (Spec.applies_iff hf).mp happ
  obtain ⟨hg, hn⟩ := and_e (Cond.before_iff.mp (show (Jvm.Cond.and given_1 narrow_1).before args s = true from hpre))
  obtain ⟨g0, r0⟩ := and_e hg
  obtain ⟨v0, r1⟩ := and_e r0
  obtain ⟨v1, r2⟩ := and_e r1
  obtain ⟨v2, r3⟩ := and_e r2
  obtain ⟨w0, w1, w2, w3, rfl⟩ : ∃ w0 w1 w2 w3 : Value, args = #[w0, w1, w2, w3] := by
    have hs : args.size = 4 := by simpa [Cond.value, given_1] using g0
    obtain ⟨L⟩ := args
    match L, hs with
    | [w0, w1, w2, w3], _ => exact ⟨w0, w1, w2, w3, rfl⟩
  have hw := fun d (hd : d ∈ tables_1) => atoms_spec (ws := Jvm.Cond.code x code maxLocals ret :: tables_1) hat d (List.mem_cons_of_mem _ hd)
  obtain ⟨i0, ei0⟩ := is_v v0
  obtain rfl : w0 = (.int i0) := Option.some.inj ei0
  obtain ⟨i1, ei1⟩ := is_v v1
  obtain rfl : w1 = (.int i1) := Option.some.inj ei1
  obtain ⟨i2, ei2⟩ := is_v v2
  obtain rfl : w2 = (.int i2) := Option.some.inj ei2
  obtain ⟨i3, ei3⟩ := is_v r3
  obtain rfl : w3 = (.int i3) := Option.some.inj ei3
  obtain ⟨n, o, h1, h2, h3, _, L, rfl, ⟨rfl, N⟩, hq⟩ := rm0 l s _ hw tables_1 i0 i1 i2 i3 s.heap s.heap.size (Nat.le_refl _) p e ha hc hk s m _ below hf ((Spec.applies_iff_loose hf).mp happ).1 ⟨rfl, State.Warmed39.refl s, rfl⟩ trivial
  refine ⟨n, _, h1, h2, h3, hpost _ _ _ _ _ _ ⟨Cond.after_iff.mpr rfl, Cond.after_iff.mpr (eq_i res_at (Term.int_eval (1)) rfl), trivial⟩ ⟨hq.1, hq.2.1, (hq.2.2.sift fun y hy => Or.inr (N y hy)).mono (by decide) (by decide)⟩⟩
theorem main_1_1 : Claimed_1_1 := comes_1 fun _ _ _ _ _ _ h hF => ⟨h.1, hF⟩
theorem main_1_2 : Claimed_1_2 := comes_1 fun _ _ _ _ _ _ h hF => ⟨h.2.1, hF⟩
end Jvm.Pilot.@@N@@
namespace Jvm.Pilot.@@N@@
open Jvm Jvm.ClassFile Sem Op Lib Jvm.Free Jvm.Stand Jvm.Pilot.@@N@@.Jvm.D
/-! MADE BY PROGRAM (witnessworld.py) out of the Statement's table words and the real class files: 9 classes; the members and pool entries that the words name. The judged class is class 1, her method 1. -/
namespace start1
open Jvm.ClassFile
def u (s : String) : CpInfo := .utf8 (stringToUtf16 s)
/-- a pool by its gaps: so many unusable entries, then the entry; so many at the end -/
def gap : Nat → List CpInfo → List CpInfo
  | 0, r => r
  | n + 1, r => .unusable :: gap n r
def poolList (es : List (Nat × CpInfo)) (last : Nat) : List CpInfo := es.foldr (fun e r => gap e.1 (e.2 :: r)) (gap last [])
def pool (es : List (Nat × CpInfo)) (last : Nat) : Array CpInfo := ⟨poolList es last⟩
def fileOf (pool : Array CpInfo) (this : Nat) (attrs : Array Attribute := #[]) (ms : Array MethodInfo := #[]) (fl : Nat := 33) (sup : Nat := 0) (ifs : Array Nat := #[]) (fds : Array FieldInfo := #[]) : ClassFile where
  minorVersion := 0
  majorVersion := 65
  constantPool := pool
  accessFlags := fl
  thisClass := this
  superClass := sup
  interfaces := ifs
  fields := fds
  methods := ms
  attributes := attrs
def plain (name : String) (sup : Option ClassId) : Class where
  name := name
  kind := .ordinary
  loader := none
  accessFlags := 33
  super := sup
  interfaces := #[]
  cf := none
  fields := #[]
  methods := #[]
  instanceTypes := #[]
  staticTypes := #[]
  resolved := #[]
  callSites := []
  init := .initialized
  statics := none
  mirror := none

def pool0 : Array CpInfo := pool [(5, u "<init>"), (0, u "()V"), (1, .class_ 10), (1, u "java/lang/Object")] 113

def k0c0 : Code := { maxStack := 0, maxLocals := 1, code := object_method_1_code, exceptionTable := #[], attributes := #[] }
def k0m0 : Method := { name := "<init>", desc := "()V", sig := { parameters := [], returnType := none }, accessFlags := 1, code := some k0c0 }
/-- java/lang/Object -/
def k0 : Class := { plain "java/lang/Object" none with
  accessFlags := 33
  interfaces := #[]
  cf := some (fileOf pool0 8 #[] #[{ accessFlags := 1, nameIndex := 5, descriptorIndex := 6, attributes := #[] }] 33 0 #[] #[])
  fields := #[]
  methods := #[k0m0]
  instanceTypes := #[]
  staticTypes := #[]
  resolved := Array.replicate 124 none
  statics := none }

def pool1 : Array CpInfo := pool [(2, .class_ 4), (1, u "java/lang/Object"), (0, u "<init>"), (0, u "()V"), (0, .integer 2147483647), (0, .class_ 9), (0, u "com/example/noreply/noreply/engine/HeapLayout"), (0, .methodref 8 11), (0, .nameAndType 5 12), (0, u "(IIII)V"), (0, .methodref 8 14), (0, .nameAndType 15 16), (0, u "objectBytes"), (0, u "(II)J"), (0, .class_ 18), (0, u "com/example/noreply/noreply/engine/HeapLayoutObjectBytesPinLaw"), (2, u "law"), (0, u "(IIII)Z")] 3

def k1m0 : Method := { name := "<init>", desc := "()V", sig := { parameters := [], returnType := none }, accessFlags := 1, code := none }
def k1c1 : Code := { maxStack := 6, maxLocals := 17, code := code, exceptionTable := #[], attributes := #[] }
def k1m1 : Method := { name := "law", desc := "(IIII)Z", sig := { parameters := [.int, .int, .int, .int], returnType := some .boolean }, accessFlags := 9, code := some k1c1 }
/-- com/example/noreply/noreply/engine/HeapLayoutObjectBytesPinLaw -/
def k1 : Class := { plain "com/example/noreply/noreply/engine/HeapLayoutObjectBytesPinLaw" (some 0) with
  accessFlags := 49
  interfaces := #[]
  cf := some (fileOf pool1 17 #[] #[{ accessFlags := 1, nameIndex := 5, descriptorIndex := 6, attributes := #[] }, { accessFlags := 9, nameIndex := 21, descriptorIndex := 22, attributes := #[] }] 49 2 #[] #[])
  fields := #[]
  methods := #[k1m0, k1m1]
  instanceTypes := #[]
  staticTypes := #[]
  resolved := Array.replicate 26 none
  statics := none }

def pool2 : Array CpInfo := pool [(1, .methodref 2 3), (0, .class_ 4), (0, .nameAndType 5 6), (0, u "java/lang/Object"), (0, u "<init>"), (0, u "()V"), (0, .fieldref 8 9), (0, .class_ 10), (0, .nameAndType 11 12), (0, u "com/example/noreply/noreply/engine/HeapLayout"), (0, u "referenceBytes"), (0, u "I"), (0, .fieldref 8 14), (0, .nameAndType 15 12), (0, u "headerBytes"), (0, .fieldref 8 17), (0, .nameAndType 18 12), (0, u "arrayHeaderBytes"), (0, .fieldref 8 20), (0, .nameAndType 21 12), (0, u "alignment"), (30, u "(IIII)V"), (0, .methodref 8 54), (0, .nameAndType 55 56), (0, u "aligned"), (0, u "(J)J"), (20, u "WIDE_REFERENCE_BYTES"), (2, u "NARROW_REFERENCE_BYTES"), (1, u "WIDE_HEADER_BYTES"), (1, u "NARROW_HEADER_BYTES"), (1, u "WIDE_ARRAY_HEADER_BYTES"), (1, u "NARROW_ARRAY_HEADER_BYTES"), (0, u "DEFAULT_ALIGNMENT"), (5, u "objectBytes"), (0, u "(II)J")] 3

def k2c0 : Code := { maxStack := 2, maxLocals := 5, code := prog_6_method_1_code, exceptionTable := #[], attributes := #[] }
def k2m0 : Method := { name := "<init>", desc := "(IIII)V", sig := { parameters := [.int, .int, .int, .int], returnType := none }, accessFlags := 1, code := some k2c0 }
def k2c1 : Code := { maxStack := 7, maxLocals := 3, code := prog_6_method_3_code, exceptionTable := #[], attributes := #[] }
def k2m1 : Method := { name := "objectBytes", desc := "(II)J", sig := { parameters := [.int, .int], returnType := some .long }, accessFlags := 0, code := some k2c1 }
def k2c2 : Code := { maxStack := 4, maxLocals := 3, code := prog_6_method_5_code, exceptionTable := #[], attributes := #[] }
def k2m2 : Method := { name := "aligned", desc := "(J)J", sig := { parameters := [.long], returnType := some .long }, accessFlags := 2, code := some k2c2 }
/-- com/example/noreply/noreply/engine/HeapLayout -/
def k2 : Class := { plain "com/example/noreply/noreply/engine/HeapLayout" (some 0) with
  accessFlags := 49
  interfaces := #[]
  cf := some (fileOf pool2 8 #[] #[{ accessFlags := 1, nameIndex := 5, descriptorIndex := 52, attributes := #[] }, { accessFlags := 0, nameIndex := 95, descriptorIndex := 96, attributes := #[] }, { accessFlags := 2, nameIndex := 55, descriptorIndex := 56, attributes := #[] }] 49 2 #[] #[{ accessFlags := 26, nameIndex := 77, descriptorIndex := 12, attributes := #[] }, { accessFlags := 26, nameIndex := 80, descriptorIndex := 12, attributes := #[] }, { accessFlags := 26, nameIndex := 82, descriptorIndex := 12, attributes := #[] }, { accessFlags := 26, nameIndex := 84, descriptorIndex := 12, attributes := #[] }, { accessFlags := 26, nameIndex := 86, descriptorIndex := 12, attributes := #[] }, { accessFlags := 26, nameIndex := 88, descriptorIndex := 12, attributes := #[] }, { accessFlags := 26, nameIndex := 89, descriptorIndex := 12, attributes := #[] }, { accessFlags := 18, nameIndex := 11, descriptorIndex := 12, attributes := #[] }, { accessFlags := 18, nameIndex := 15, descriptorIndex := 12, attributes := #[] }, { accessFlags := 18, nameIndex := 18, descriptorIndex := 12, attributes := #[] }, { accessFlags := 18, nameIndex := 21, descriptorIndex := 12, attributes := #[] }])
  fields := #[{ name := "WIDE_REFERENCE_BYTES", type := .int, accessFlags := 26, slot := 0, constantValue := 0 }, { name := "NARROW_REFERENCE_BYTES", type := .int, accessFlags := 26, slot := 1, constantValue := 0 }, { name := "WIDE_HEADER_BYTES", type := .int, accessFlags := 26, slot := 2, constantValue := 0 }, { name := "NARROW_HEADER_BYTES", type := .int, accessFlags := 26, slot := 3, constantValue := 0 }, { name := "WIDE_ARRAY_HEADER_BYTES", type := .int, accessFlags := 26, slot := 4, constantValue := 0 }, { name := "NARROW_ARRAY_HEADER_BYTES", type := .int, accessFlags := 26, slot := 5, constantValue := 0 }, { name := "DEFAULT_ALIGNMENT", type := .int, accessFlags := 26, slot := 6, constantValue := 0 }, { name := "referenceBytes", type := .int, accessFlags := 18, slot := 0, constantValue := 0 }, { name := "headerBytes", type := .int, accessFlags := 18, slot := 1, constantValue := 0 }, { name := "arrayHeaderBytes", type := .int, accessFlags := 18, slot := 2, constantValue := 0 }, { name := "alignment", type := .int, accessFlags := 18, slot := 3, constantValue := 0 }]
  methods := #[k2m0, k2m1, k2m2]
  instanceTypes := #[.int, .int, .int, .int]
  staticTypes := #[.int, .int, .int, .int, .int, .int, .int]
  resolved := Array.replicate 100 none
  statics := none }

def pool3 : Array CpInfo := pool [(1, u "java/lang/Cloneable"), (0, .class_ 1), (0, u "java/lang/Object"), (0, .class_ 3)] 3

/-- java/lang/Cloneable -/
def k3 : Class := { plain "java/lang/Cloneable" (some 0) with
  accessFlags := 1537
  interfaces := #[]
  cf := some (fileOf pool3 2 #[] #[] 1537 4 #[] #[])
  fields := #[]
  methods := #[]
  instanceTypes := #[]
  staticTypes := #[]
  resolved := Array.replicate 8 none
  statics := none }

def pool4 : Array CpInfo := pool [(1, u "java/io/Serializable"), (0, .class_ 1), (0, u "java/lang/Object"), (0, .class_ 3)] 3

/-- java/io/Serializable -/
def k4 : Class := { plain "java/io/Serializable" (some 0) with
  accessFlags := 1537
  interfaces := #[]
  cf := some (fileOf pool4 2 #[] #[] 1537 4 #[] #[])
  fields := #[]
  methods := #[]
  instanceTypes := #[]
  staticTypes := #[]
  resolved := Array.replicate 8 none
  statics := none }

/-- the primitive byte -/
def k5 : Class := { plain "byte" none with kind := .primitive 'B', accessFlags := 0x411 }
/-- [B -/
def k6 : Class := { plain "[B" (some 0) with kind := .array 5 .byte, interfaces := #[3, 4], accessFlags := 1041 }

/-- the primitive int -/
def k7 : Class := { plain "int" none with kind := .primitive 'I', accessFlags := 0x411 }
/-- [I -/
def k8 : Class := { plain "[I" (some 0) with kind := .array 7 .int, interfaces := #[3, 4], accessFlags := 1041 }

def heap : Heap := #[]
def classes : Array Class := #[k0, k1, k2, k3, k4, k5, k6, k7, k8]
def interned : List (Array UInt16 × Addr) := []
def slotsUsed : Nat := 0
def theMethod : MethodId := ⟨1, 1⟩
def args0 : Array Value := #[.int 5, .int 5, .int 5, .int 5]
def aboutOver (below : List Frame) : State where
  vm := { classes := classes, interned := interned.toArray }
  heap := heap
  slotsUsed := slotsUsed
  threads := #[{ frames := .invoking theMethod args0 :: below }]
def below0 : List Frame := [.native { method := ⟨0, 0⟩, args := #[] }]
def about1 : State := aboutOver below0
def p0 : Program := .bare "" "" ""
def e0 : Env := launch0.env 0 0 0
theorem w_frames : about1.frames = Frame.invoking theMethod args0 :: below0 := rfl
set_option maxRecDepth 65536 in
theorem w_args : argsFit about1.vm theMethod args0 = true := by decide +kernel
set_option maxRecDepth 65536 in
theorem w_heap : heapFits about1 = true := by decide +kernel
set_option maxRecDepth 65536 in
theorem w_runnable : about1.curStatus? = some .runnable := by decide +kernel
set_option maxRecDepth 65536 in
theorem w_alone : about1.alone = true := by decide +kernel
set_option maxRecDepth 65536 in
theorem w_named : about1.methodNamed? x = some theMethod := by decide +kernel
set_option maxRecDepth 65536 in
theorem w_hears : about1.hears theMethod below0 = true := by decide +kernel
set_option maxRecDepth 65536 in
theorem w_ripe : about1.ripe theMethod args0 below0 = true := by decide +kernel
theorem w_running : about1.status = .running := rfl
set_option maxRecDepth 65536 in
theorem w_room : about1.hasRoom e0.platform room_1 = true :=
  launch0.hasRoom_least _ room_1 (by decide +kernel) (by decide +kernel) (by decide +kernel) (by decide +kernel) (by decide +kernel) (by decide +kernel)
theorem allAtoms_all (ts : List Jvm.Cond) (a : Array Jvm.Value) (st : Jvm.State) : (allAtoms ts).before a st = ts.all (fun c => c.before a st) := by
  induction ts with
  | nil => rfl
  | cons c t ih =>
    show (Jvm.Cond.and c (allAtoms t)).before a st = _
    rw [Jvm.Cond.before_and, ih, List.all_cons]
def words1 : List Jvm.Cond := Jvm.Cond.code x code maxLocals ret :: tables_1
/-- a 'code' word, met by the world's own term for the bytes: nothing is compared byte by byte -/
theorem code_word {y : MethodName} {bytes : ByteArray} {mx : Nat} {rt : Option FieldType} {a : Array Value} {s : State} {m : MethodId} {meth : Method} {c : Code} (h1 : s.methodNamed? y = some m) (h2 : s.vm.method? m = some meth) (h3 : meth.code = some c) (h4 : c.code = bytes)
    (h5 : (c.maxLocals == mx && c.exceptionTable.isEmpty && decide (c.maxStack ≤ mostOperands) && decide (meth.sig.returnType = rt) && !meth.locks && decide (parseMethodDescriptor y.desc = some meth.sig)) = true) : (Jvm.Cond.code y bytes mx rt).before a s = true := by
  simp only [Bool.and_eq_true, beq_iff_eq, Bool.not_eq_true', decide_eq_true_eq] at h5
  obtain ⟨⟨⟨⟨⟨g1, g2⟩, g3⟩, g4⟩, g5⟩, g6⟩ := h5
  simp [Cond.before, Cond.holds, Cond.value, h1, h2, h3, h4, g1, g2, g3, g4, g5, g6]
def isCode : Jvm.Cond → Bool
  | .code _ _ _ _ => true
  | _ => false
theorem all_split {L : List Jvm.Cond} {P : Jvm.Cond → Bool} (h1 : L.all (fun c => isCode c || P c) = true) (h2 : ∀ c ∈ L.filter isCode, P c = true) : L.all P = true := by
  refine List.all_eq_true.mpr fun c hc => ?_
  have h := List.all_eq_true.mp h1 c hc
  rcases Bool.eq_false_or_eq_true (isCode c) with hi | hi
  · exact h2 c (List.mem_filter.mpr ⟨hc, hi⟩)
  · simpa [hi] using h
set_option maxRecDepth 65536 in
theorem w_c0 : (Jvm.Cond.code x code maxLocals ret).before args0 about1 = true := code_word (m := ⟨1, 1⟩) (meth := k1m1) (c := k1c1) (by decide +kernel) rfl rfl rfl (by decide +kernel)
set_option maxRecDepth 65536 in
theorem w_c1 : (Jvm.Cond.code ({ cls := "com/example/noreply/noreply/engine/HeapLayout", name := "<init>", desc := "(IIII)V" } : Jvm.MethodName) prog_6_method_1_code (5 : Nat) (Option.none : Option Jvm.ClassFile.FieldType)).before args0 about1 = true := code_word (m := ⟨2, 0⟩) (meth := k2m0) (c := k2c0) (by decide +kernel) rfl rfl rfl (by decide +kernel)
set_option maxRecDepth 65536 in
theorem w_c2 : (Jvm.Cond.code ({ cls := "java/lang/Object", name := "<init>", desc := "()V" } : Jvm.MethodName) object_method_1_code (1 : Nat) (Option.none : Option Jvm.ClassFile.FieldType)).before args0 about1 = true := code_word (m := ⟨0, 0⟩) (meth := k0m0) (c := k0c0) (by decide +kernel) rfl rfl rfl (by decide +kernel)
set_option maxRecDepth 65536 in
theorem w_c3 : (Jvm.Cond.code ({ cls := "com/example/noreply/noreply/engine/HeapLayout", name := "objectBytes", desc := "(II)J" } : Jvm.MethodName) prog_6_method_3_code (3 : Nat) (Option.some Jvm.ClassFile.FieldType.long)).before args0 about1 = true := code_word (m := ⟨2, 1⟩) (meth := k2m1) (c := k2c1) (by decide +kernel) rfl rfl rfl (by decide +kernel)
set_option maxRecDepth 65536 in
theorem w_c4 : (Jvm.Cond.code ({ cls := "com/example/noreply/noreply/engine/HeapLayout", name := "aligned", desc := "(J)J" } : Jvm.MethodName) prog_6_method_5_code (3 : Nat) (Option.some Jvm.ClassFile.FieldType.long)).before args0 about1 = true := code_word (m := ⟨2, 2⟩) (meth := k2m2) (c := k2c2) (by decide +kernel) rfl rfl rfl (by decide +kernel)
def codes1 : List Jvm.Cond := [Jvm.Cond.code x code maxLocals ret, Jvm.Cond.code ({ cls := "com/example/noreply/noreply/engine/HeapLayout", name := "<init>", desc := "(IIII)V" } : Jvm.MethodName) prog_6_method_1_code (5 : Nat) (Option.none : Option Jvm.ClassFile.FieldType), Jvm.Cond.code ({ cls := "java/lang/Object", name := "<init>", desc := "()V" } : Jvm.MethodName) object_method_1_code (1 : Nat) (Option.none : Option Jvm.ClassFile.FieldType), Jvm.Cond.code ({ cls := "com/example/noreply/noreply/engine/HeapLayout", name := "objectBytes", desc := "(II)J" } : Jvm.MethodName) prog_6_method_3_code (3 : Nat) (Option.some Jvm.ClassFile.FieldType.long), Jvm.Cond.code ({ cls := "com/example/noreply/noreply/engine/HeapLayout", name := "aligned", desc := "(J)J" } : Jvm.MethodName) prog_6_method_5_code (3 : Nat) (Option.some Jvm.ClassFile.FieldType.long)]
set_option maxRecDepth 65536 in
theorem codes_eq : words1.filter isCode = codes1 := rfl
theorem w_codes : ∀ c ∈ words1.filter isCode, c.before args0 about1 = true := by
  rw [codes_eq]
  intro c hc
  simp only [codes1, List.mem_cons, List.not_mem_nil, or_false] at hc
  rcases hc with rfl | rfl | rfl | rfl | rfl
  · exact w_c0
  · exact w_c1
  · exact w_c2
  · exact w_c3
  · exact w_c4
set_option maxRecDepth 65536 in
theorem w_t1 : (words1.take 24).all (fun c => isCode c || c.before args0 about1) = true := by decide +kernel
set_option maxRecDepth 65536 in
theorem w_t2 : (words1.drop 24).all (fun c => isCode c || c.before args0 about1) = true := by decide +kernel
theorem w_tables : (allAtoms (Jvm.Cond.code x code maxLocals ret :: tables_1)).before args0 about1 = true := by
  rw [allAtoms_all]
  show words1.all (fun c => c.before args0 about1) = true
  refine all_split ?_ w_codes
  rw [← List.take_append_drop 24 words1, List.all_append, w_t1, w_t2]
  rfl
set_option maxRecDepth 65536 in
theorem w_case : (Jvm.Cond.and given_1 narrow_1).before args0 about1 = true := by decide +kernel
theorem w_applies : (headSpec (Jvm.Cond.code x code maxLocals ret :: tables_1) room_1).applies x e0.platform about1 = true :=
  (Spec.applies_iff w_frames).mpr ⟨w_running, w_runnable, w_alone, w_named, w_hears, w_ripe, w_room, w_tables⟩
theorem atStart : AtStart classFile x code maxLocals ret World_1 tables_1 room_1 Calls_1 rest_1 Pre_1 launch0 p0 e0 about1 theMethod args0 below0 :=
  ⟨lists_1, trivial, launch0.admits_env _ _ _, launch0.least_env, fairChoices_fair.cas, fairChoices_fair.clock, w_frames, w_args, w_heap, w_applies, trivial, trivial, w_case⟩
end start1
theorem witness_1 : WitnessClaimed_1 := ⟨start1.p0, start1.e0, start1.about1, start1.theMethod, start1.args0, start1.below0, start1.atStart⟩
end Jvm.Pilot.@@N@@
