import JvmDerived
import JvmDerived.Pilot.@@N@@Statement
import JvmDerived.Pilot.@@N@@Code
set_option linter.unusedVariables false
set_option linter.unusedSimpArgs false
namespace Jvm.RoadKit
open Sem ClassFile Op Lib Jvm.Stand Jvm.Free Jvm.LawKit
section New
variable {p : Program} {l : Launch} {e : Env} {R : Room} {s : State} {m : MethodId} {args : Array Value} {below : List Frame} {meth : Method} {c : Code} {T : State} {locs : List Loc} {cells slots : Nat}
theorem retI (X : Stand p l e R s m args below meth c T locs cells slots) (hx : p.tables.exec = Jvm.exec) {pc : Nat} {Ls : Array Slot} {z : Int32} {rest : List Value} (hret : meth.sig.returnType = some .int) (hd : decode c.code pc = .ok (.ireturn, 1)) {fs : List Frame}
    (hl : ∀ (f : JFrame) (acts : List Action), f.method = m → f.locked = none → f.entered = [] → (doReturn e (T.setTop f) acts (some (.int z))).1 = T.setFrames fs) : Steps p.tables e below (T.setTop (mkF m pc Ls (.int z :: rest))) (T.setFrames fs) := by
  have hm' : T.vm.method? m = some meth := X.method'
  have hn : narrow .int (.int z) = .int z := rfl
  show Steps p.tables e below (T.setTop { method := m, pc := pc, locals := Ls, stack := _ :: rest, locked := none }) _
  jvm_step X.here [X.here.top, hx, hd, hm', hret, hn]
  first | (intro acts; rw [hl _ acts rfl rfl rfl]) | rw [hl _ _ rfl rfl rfl]
  exact Steps.refl _
theorem retA (X : Stand p l e R s m args below meth c T locs cells slots) (hx : p.tables.exec = Jvm.exec) {pc : Nat} {Ls : Array Slot} {z : Addr} {rest : List Value} {t : FieldType} (hret : meth.sig.returnType = some t) (ht : t.isReference = true) (hd : decode c.code pc = .ok (.areturn, 1)) {fs : List Frame}
    (hl : ∀ (f : JFrame) (acts : List Action), f.method = m → f.locked = none → f.entered = [] → (doReturn e (T.setTop f) acts (some (.ref z))).1 = T.setFrames fs) : Steps p.tables e below (T.setTop (mkF m pc Ls (.ref z :: rest))) (T.setFrames fs) := by
  have hm' : T.vm.method? m = some meth := X.method'
  show Steps p.tables e below (T.setTop { method := m, pc := pc, locals := Ls, stack := _ :: rest, locked := none }) _
  jvm_step X.here [X.here.top, hx, hd, hm', hret, ht, Value.isRef]
  first | (intro acts; rw [hl _ acts rfl rfl rfl]) | rw [hl _ _ rfl rfl rfl]
  exact Steps.refl _
theorem retJ (X : Stand p l e R s m args below meth c T locs cells slots) (hx : p.tables.exec = Jvm.exec) {pc : Nat} {Ls : Array Slot} {z : Int64} {rest : List Value} (hret : meth.sig.returnType = some .long) (hd : decode c.code pc = .ok (.lreturn, 1)) {fs : List Frame}
    (hl : ∀ (f : JFrame) (acts : List Action), f.method = m → f.locked = none → f.entered = [] → (doReturn e (T.setTop f) acts (some (.long z))).1 = T.setFrames fs) : Steps p.tables e below (T.setTop (mkF m pc Ls (.long z :: rest))) (T.setFrames fs) := by
  have hm' : T.vm.method? m = some meth := X.method'
  show Steps p.tables e below (T.setTop { method := m, pc := pc, locals := Ls, stack := _ :: rest, locked := none }) _
  jvm_step X.here [X.here.top, hx, hd, hm', hret]
  first | (intro acts; rw [hl _ acts rfl rfl rfl]) | rw [hl _ _ rfl rfl rfl]
  exact Steps.refl _
end New
end Jvm.RoadKit
namespace Jvm.Pilot.@@N@@
open Jvm Jvm.ClassFile Sem Op Lib Jvm.Free Jvm.Stand Jvm.LawKit Jvm.RoadKit Bundle Jvm.Pilot.@@N@@.Jvm.D
/-! My own frame of a walk: 'Done' says: from this frame the run ends, and Q holds of what came back, of the heap, and of the places written. -/
def Done (p : Program) (e : Env) (below : List Frame) (s : State) (R : Room) (Q : Option Value → Heap → List Loc → Prop) (T : State) (g : JFrame) : Prop :=
  ∃ s₂ o, Steps p.tables e below (T.setTop g) s₂ ∧ s₂.status = .running ∧ Ended s₂ below o ∧ ∃ v L, o = .returned v ∧ Q v s₂.heap L ∧ FrameEnd s o s₂ L R.cells R.slots
def Qp (h0 : Heap) (n0 : Nat) (z : Value) (v : Option Value) (h : Heap) (L : List Loc) : Prop := v = some z ∧ Fr n0 L ∧ h = h0
def Qv (h0 : Heap) (n0 : Nat) (v : Option Value) (h : Heap) (L : List Loc) : Prop := v = none ∧ Fr n0 L ∧ h = h0
def Ql (n0 : Nat) (z : Value) (v : Option Value) (h : Heap) (L : List Loc) : Prop := v = some z ∧ Fr n0 L
theorem Done.of {p : Program} {e : Env} {below : List Frame} {s : State} {R : Room} {Q : Option Value → Heap → List Loc → Prop} {T T' : State} {g g' : JFrame}
    (st : ∀ t, Steps p.tables e below (T'.setTop g') t → Steps p.tables e below (T.setTop g) t) (d : Done p e below s R Q T' g') : Done p e below s R Q T g := by
  obtain ⟨s₂, o, h1, h2⟩ := d
  exact ⟨s₂, o, st _ h1, h2⟩
section Ends
variable {p : Program} {l : Launch} {e : Env} {R : Room} {s : State} {m : MethodId} {args : Array Value} {below : List Frame} {meth : Method} {c : Code} {T : State} {locs : List Loc} {cells slots : Nat} {Q : Option Value → Heap → List Loc → Prop}
theorem doneI (X : Stand p l e R s m args below meth c T locs cells slots) (hx : p.tables.exec = Jvm.exec) {pc : Nat} {Ls : Array Slot} {z : Int32} {rest : List Value} (hret : meth.sig.returnType = some .int) (hlk : meth.locks = false) (hd : decode c.code pc = .ok (.ireturn, 1))
    (hQ : Q (some (.int z)) T.heap locs) (hc : cells ≤ R.cells) (hs : slots ≤ R.slots) : Done p e below s R Q T (mkF m pc Ls (.int z :: rest)) := by
  obtain ⟨fs, hr, hrun, hended, hW, hsame⟩ := X.leave (v := some (.int z)) (fun h => by rw [hret] at h; cases h) hlk
  exact ⟨_, _, retI X hx hret hd hr, hrun, hended, _, _, rfl, hQ, ⟨_, rfl⟩, hW, hsame.mono hc hs⟩
theorem doneN (t : FieldType) (X : Stand p l e R s m args below meth c T locs cells slots) (ht : t = .boolean ∨ t = .byte ∨ t = .char ∨ t = .short) (hx : p.tables.exec = Jvm.exec) {pc : Nat} {Ls : Array Slot} {z : Int32} {rest : List Value} (hret : meth.sig.returnType = some t) (hlk : meth.locks = false) (hd : decode c.code pc = .ok (.ireturn, 1))
    (hQ : Q (some (.int (nar t z))) T.heap locs) (hc : cells ≤ R.cells) (hs : slots ≤ R.slots) : Done p e below s R Q T (mkF m pc Ls (.int z :: rest)) := by
  obtain ⟨fs, hr, hrun, hended, hW, hsame⟩ := X.leave (v := some (.int (nar t z))) (fun h => by rw [hret] at h; cases h) hlk
  exact ⟨_, _, retN X hx hret ht hd hr, hrun, hended, _, _, rfl, hQ, ⟨_, rfl⟩, hW, hsame.mono hc hs⟩
theorem doneJ (X : Stand p l e R s m args below meth c T locs cells slots) (hx : p.tables.exec = Jvm.exec) {pc : Nat} {Ls : Array Slot} {z : Int64} {rest : List Value} (hret : meth.sig.returnType = some .long) (hlk : meth.locks = false) (hd : decode c.code pc = .ok (.lreturn, 1))
    (hQ : Q (some (.long z)) T.heap locs) (hc : cells ≤ R.cells) (hs : slots ≤ R.slots) : Done p e below s R Q T (mkF m pc Ls (.long z :: rest)) := by
  obtain ⟨fs, hr, hrun, hended, hW, hsame⟩ := X.leave (v := some (.long z)) (fun h => by rw [hret] at h; cases h) hlk
  exact ⟨_, _, retJ X hx hret hd hr, hrun, hended, _, _, rfl, hQ, ⟨_, rfl⟩, hW, hsame.mono hc hs⟩
theorem doneA (X : Stand p l e R s m args below meth c T locs cells slots) (hx : p.tables.exec = Jvm.exec) {pc : Nat} {Ls : Array Slot} {z : Addr} {rest : List Value} {t : FieldType} (hret : meth.sig.returnType = some t) (ht : t.isReference = true) (hlk : meth.locks = false) (hd : decode c.code pc = .ok (.areturn, 1))
    (hQ : Q (some (.ref z)) T.heap locs) (hc : cells ≤ R.cells) (hs : slots ≤ R.slots) : Done p e below s R Q T (mkF m pc Ls (.ref z :: rest)) := by
  obtain ⟨fs, hr, hrun, hended, hW, hsame⟩ := X.leave (v := some (.ref z)) (fun h => by rw [hret] at h; cases h) hlk
  exact ⟨_, _, retA X hx hret ht hd hr, hrun, hended, _, _, rfl, hQ, ⟨_, rfl⟩, hW, hsame.mono hc hs⟩
theorem doneV (X : Stand p l e R s m args below meth c T locs cells slots) (hx : p.tables.exec = Jvm.exec) {pc : Nat} {Ls : Array Slot} (hret : meth.sig.returnType = none) (hlk : meth.locks = false) (hd : decode c.code pc = .ok (.return_, 1))
    (hQ : Q none T.heap locs) (hc : cells ≤ R.cells) (hs : slots ≤ R.slots) : Done p e below s R Q T (mkF m pc Ls []) := by
  obtain ⟨fs, hr, hrun, hended, hW, hsame⟩ := X.leave (v := none) (fun _ => rfl) hlk
  exact ⟨_, _, X.returnOut hx hret hd hr, hrun, hended, _, _, rfl, hQ, ⟨_, rfl⟩, hW, hsame.mono hc hs⟩
end Ends
theorem lcLt_t {x y : Int64} (h : x < y) : ifCond.holds .lt (lcmpW x y) = true ∧ ifCond.holds .ge (lcmpW x y) = false := ⟨(if0 _ _).trans (tlt ((lw_lt x y).mpr h)).1, (if0 _ _).trans (tlt ((lw_lt x y).mpr h)).2.1⟩
theorem lcLt_f {x y : Int64} (h : ¬ x < y) : ifCond.holds .lt (lcmpW x y) = false ∧ ifCond.holds .ge (lcmpW x y) = true := ⟨(if0 _ _).trans (flt (fun q => h ((lw_lt x y).mp q))).1, (if0 _ _).trans (flt (fun q => h ((lw_lt x y).mp q))).2.1⟩
theorem lcGt_t {x y : Int64} (h : y < x) : ifCond.holds .gt (lcmpW x y) = true ∧ ifCond.holds .le (lcmpW x y) = false := ⟨(if0 _ _).trans (tlt ((lw_gt x y).mpr h)).2.2.1, (if0 _ _).trans (tlt ((lw_gt x y).mpr h)).2.2.2⟩
theorem lcGt_f {x y : Int64} (h : ¬ y < x) : ifCond.holds .gt (lcmpW x y) = false ∧ ifCond.holds .le (lcmpW x y) = true := ⟨(if0 _ _).trans (flt (fun q => h ((lw_gt x y).mp q))).2.2.1, (if0 _ _).trans (flt (fun q => h ((lw_gt x y).mp q))).2.2.2⟩
theorem lcEq_t {x y : Int64} (h : x = y) : ifCond.holds .eq (lcmpW x y) = true ∧ ifCond.holds .ne (lcmpW x y) = false := ⟨(if0 _ _).trans (teq ((lw_eq x y).mpr h)).1, (if0 _ _).trans (teq ((lw_eq x y).mpr h)).2⟩
theorem lcEq_f {x y : Int64} (h : ¬ x = y) : ifCond.holds .eq (lcmpW x y) = false ∧ ifCond.holds .ne (lcmpW x y) = true := ⟨(if0 _ _).trans (feq (fun q => h ((lw_eq x y).mp q))).1, (if0 _ _).trans (feq (fun q => h ((lw_eq x y).mp q))).2⟩
theorem own_selP {s : State} {args : Array Value} {y : MethodName} {n : Nat} (hins : (Cond.instantiable y.cls n).before args s = true) (hpriv : (Cond.privateMethod y).before args s = true) (hinst : (Cond.instanceMethod y).before args s = true) (hy : y.cls ≠ "java/lang/invoke/MethodHandle" ∧ y.cls ≠ "java/lang/invoke/VarHandle") :
    (Cond.selects y.cls y y).before args s = true := by
  obtain ⟨c, k, hc, hk, -, hniab, -, -⟩ := Cond.instantiable_spec hins
  exact selects_self_of_private hc hk (Bool.or_eq_false_iff.mp hniab).1 (Cond.privateMethod_at hpriv) hinst hy
theorem own_hat {c : Cell} {vs : List Int32} {j : Int32} (H : Has c (vs.map Value.int) (.int (0 : Int32))) (hin : ¬ (j < 0 ∨ c.slots.size ≤ j.toNatClampNeg)) : c.slots[j.toNatClampNeg]? = some (.int (vs.getD j.toNatClampNeg 0)) := by
  rw [H j.toNatClampNeg (Nat.lt_of_not_le fun q => hin (Or.inr q))]
  simp only [List.getD_eq_getElem?_getD, List.getElem?_map]
  cases vs[j.toNatClampNeg]? <;> rfl
theorem own_fin {n : Nat} (c : Int32) (h0 : 0 ≤ c.toInt) (h1 : c.toInt < n) : ∃ i : Fin n, c = Int32.ofInt (i.1 : Int) :=
  ⟨⟨c.toInt.toNat, by omega⟩, by show c = Int32.ofInt ((c.toInt.toNat : Nat) : Int); rw [Int.toNat_of_nonneg h0]; exact (Int32.ofInt_toInt c).symm⟩
theorem own_set (N i : Nat) (f : Nat → Int32) (v : Int32) : ((List.range N).map fun j => Value.int (f j)).set i (.int v) = (List.range N).map fun j => Value.int (if j = i then v else f j) := by
  apply List.ext_getElem
  · simp
  · intro k h1 h2
    rw [List.getElem_set]
    simp only [List.getElem_map, List.getElem_range]
    by_cases q : i = k
    · rw [if_pos q, if_pos q.symm]
    · rw [if_neg q, if_neg (Ne.symm q)]
theorem own_setA {Z : State} {h : Heap} {a : Addr} {k : ClassId} {ty : FieldType} {z : Int32} {N i : Nat} {f : Nat → Int32} {v : Int32} {dv : Value} (A : Arv Z h a k ty z (((List.range N).map fun j => Value.int (f j)).set i (.int v)) dv) :
    Arv Z h a k ty z ((List.range N).map fun j => Value.int (if j = i then v else f j)) dv := by rw [← own_set]; exact A
theorem own_hatF {c : Cell} {N : Nat} {f : Nat → Int32} {j : Int32} {d : Value} (H : Has c ((List.range N).map fun j => Value.int (f j)) d) (hN : c.slots.size = N) (hin : ¬ (j < 0 ∨ c.slots.size ≤ j.toNatClampNeg)) : c.slots[j.toNatClampNeg]? = some (.int (f j.toNatClampNeg)) := by
  have hl : j.toNatClampNeg < c.slots.size := Nat.lt_of_not_le fun q => hin (Or.inr q)
  rw [H j.toNatClampNeg hl, List.getD_eq_getElem?_getD, List.getElem?_map, List.getElem?_range (by omega)]
  rfl
theorem own_sz {c : Cell} {z : Int32} {N : Nat} (S : c.slots.size = z.toNatClampNeg) (h : z.toNatClampNeg = N := by decide) : c.slots.size = N := S.trans h
theorem own_len {c : Cell} {z j : Int32} {N : Nat} {f : Nat → Int32} (S : c.slots.size = z.toNatClampNeg) (hin : ¬ (j < 0 ∨ c.slots.size ≤ j.toNatClampNeg)) (h : z.toNatClampNeg = N := by decide) : j.toNatClampNeg < ((List.range N).map fun j => Value.int (f j)).length := by
  have : j.toNatClampNeg < c.slots.size := Nat.lt_of_not_le fun q => hin (Or.inr q)
  rw [List.length_map, List.length_range]; omega
theorem own_small (x : Int32) (h0 : 0 ≤ x.toInt) (h1 : x.toInt < 128) : (x &&& (-128 : Int32)) = (0 : Int32) := by
  obtain ⟨i, rfl⟩ := own_fin (n := 128) x h0 h1
  have : ∀ i : Fin 128, ((Int32.ofInt (i.1 : Int)) &&& (-128 : Int32)) = (0 : Int32) := by decide
  exact this i
theorem own_ix0 {p3 : Int32} (hat : 0 ≤ p3.toInt ∧ p3.toInt ≤ 3) : ¬ (p3 < 0) ∧ p3 < (8 : Int32) := by
  have l0 : (0 : Int32).toInt = 0 := rfl
  have l1 : (1 : Int32).toInt = 1 := rfl
  have ln : (8 : Int32).toInt = 8 := rfl
  rw [Int32.lt_iff_toInt_lt, Int32.lt_iff_toInt_lt]; omega
theorem own_ix1 {p3 : Int32} (hat : 0 ≤ p3.toInt ∧ p3.toInt ≤ 3) : ¬ ((p3 + (1 : Int32)) < 0) ∧ (p3 + (1 : Int32)) < (8 : Int32) := by
  have a0 := c_iadd p3 1
  have r0 := rng32 (p3 + (1 : Int32))
  have l0 : (0 : Int32).toInt = 0 := rfl
  have l1 : (1 : Int32).toInt = 1 := rfl
  have ln : (8 : Int32).toInt = 8 := rfl
  rw [Int32.lt_iff_toInt_lt, Int32.lt_iff_toInt_lt]; omega
theorem own_ix2 {p3 : Int32} (hat : 0 ≤ p3.toInt ∧ p3.toInt ≤ 3) : ¬ (((p3 + (1 : Int32)) + (1 : Int32)) < 0) ∧ ((p3 + (1 : Int32)) + (1 : Int32)) < (8 : Int32) := by
  have a0 := c_iadd p3 1
  have r0 := rng32 (p3 + (1 : Int32))
  have a1 := c_iadd (p3 + (1 : Int32)) 1
  have r1 := rng32 ((p3 + (1 : Int32)) + (1 : Int32))
  have l0 : (0 : Int32).toInt = 0 := rfl
  have l1 : (1 : Int32).toInt = 1 := rfl
  have ln : (8 : Int32).toInt = 8 := rfl
  rw [Int32.lt_iff_toInt_lt, Int32.lt_iff_toInt_lt]; omega
theorem own_ix3 {p3 : Int32} (hat : 0 ≤ p3.toInt ∧ p3.toInt ≤ 3) : ¬ ((((p3 + (1 : Int32)) + (1 : Int32)) + (1 : Int32)) < 0) ∧ (((p3 + (1 : Int32)) + (1 : Int32)) + (1 : Int32)) < (8 : Int32) := by
  have a0 := c_iadd p3 1
  have r0 := rng32 (p3 + (1 : Int32))
  have a1 := c_iadd (p3 + (1 : Int32)) 1
  have r1 := rng32 ((p3 + (1 : Int32)) + (1 : Int32))
  have a2 := c_iadd ((p3 + (1 : Int32)) + (1 : Int32)) 1
  have r2 := rng32 (((p3 + (1 : Int32)) + (1 : Int32)) + (1 : Int32))
  have l0 : (0 : Int32).toInt = 0 := rfl
  have l1 : (1 : Int32).toInt = 1 := rfl
  have ln : (8 : Int32).toInt = 8 := rfl
  rw [Int32.lt_iff_toInt_lt, Int32.lt_iff_toInt_lt]; omega
theorem own_ix4 {p3 : Int32} (hat : 0 ≤ p3.toInt ∧ p3.toInt ≤ 3) : ¬ (((((p3 + (1 : Int32)) + (1 : Int32)) + (1 : Int32)) + (1 : Int32)) < 0) ∧ ((((p3 + (1 : Int32)) + (1 : Int32)) + (1 : Int32)) + (1 : Int32)) < (8 : Int32) := by
  have a0 := c_iadd p3 1
  have r0 := rng32 (p3 + (1 : Int32))
  have a1 := c_iadd (p3 + (1 : Int32)) 1
  have r1 := rng32 ((p3 + (1 : Int32)) + (1 : Int32))
  have a2 := c_iadd ((p3 + (1 : Int32)) + (1 : Int32)) 1
  have r2 := rng32 (((p3 + (1 : Int32)) + (1 : Int32)) + (1 : Int32))
  have a3 := c_iadd (((p3 + (1 : Int32)) + (1 : Int32)) + (1 : Int32)) 1
  have r3 := rng32 ((((p3 + (1 : Int32)) + (1 : Int32)) + (1 : Int32)) + (1 : Int32))
  have l0 : (0 : Int32).toInt = 0 := rfl
  have l1 : (1 : Int32).toInt = 1 := rfl
  have ln : (8 : Int32).toInt = 8 := rfl
  rw [Int32.lt_iff_toInt_lt, Int32.lt_iff_toInt_lt]; omega
theorem own_last (p1 : Int32) : (((((((((p1.toUInt32 >>> ((7 : Int32) &&& 31).toUInt32).toInt32).toUInt32 >>> ((7 : Int32) &&& 31).toUInt32).toInt32).toUInt32 >>> ((7 : Int32) &&& 31).toUInt32).toInt32).toUInt32 >>> ((7 : Int32) &&& 31).toUInt32).toInt32) &&& (-128 : Int32)) = (0 : Int32) := by
  have u0 := c_iushr p1 7 7 (by decide) (by decide)
  have u1 := c_iushr ((p1.toUInt32 >>> ((7 : Int32) &&& 31).toUInt32).toInt32) 7 7 (by decide) (by decide)
  have u2 := c_iushr ((((p1.toUInt32 >>> ((7 : Int32) &&& 31).toUInt32).toInt32).toUInt32 >>> ((7 : Int32) &&& 31).toUInt32).toInt32) 7 7 (by decide) (by decide)
  have u3 := c_iushr ((((((p1.toUInt32 >>> ((7 : Int32) &&& 31).toUInt32).toInt32).toUInt32 >>> ((7 : Int32) &&& 31).toUInt32).toInt32).toUInt32 >>> ((7 : Int32) &&& 31).toUInt32).toInt32) 7 7 (by decide) (by decide)
  exact own_small _ (by omega) (by omega)
theorem d1_0 : decode prog_78_method_3_code 0 = .ok (.iload_n 0, 1) := by decide +kernel
theorem d1_1 : decode prog_78_method_3_code 1 = .ok (.istore_n 3, 1) := by decide +kernel
theorem d1_2 : decode prog_78_method_3_code 2 = .ok (.iload_n 2, 1) := by decide +kernel
theorem d1_3 : decode prog_78_method_3_code 3 = .ok (.istore 4, 2) := by decide +kernel
theorem d1_5 : decode prog_78_method_3_code 5 = .ok (.iload_n 3, 1) := by decide +kernel
theorem d1_6 : decode prog_78_method_3_code 6 = .ok (.bipush (-128), 2) := by decide +kernel
theorem d1_8 : decode prog_78_method_3_code 8 = .ok (.iand, 1) := by decide +kernel
theorem d1_9 : decode prog_78_method_3_code 9 = .ok (.ifCond .eq 27, 3) := by decide +kernel
theorem d1_12 : decode prog_78_method_3_code 12 = .ok (.aload_n 1, 1) := by decide +kernel
theorem d1_13 : decode prog_78_method_3_code 13 = .ok (.iload 4, 2) := by decide +kernel
theorem d1_15 : decode prog_78_method_3_code 15 = .ok (.iinc 4 1, 3) := by decide +kernel
theorem d1_18 : decode prog_78_method_3_code 18 = .ok (.iload_n 3, 1) := by decide +kernel
theorem d1_19 : decode prog_78_method_3_code 19 = .ok (.bipush 127, 2) := by decide +kernel
theorem d1_21 : decode prog_78_method_3_code 21 = .ok (.iand, 1) := by decide +kernel
theorem d1_22 : decode prog_78_method_3_code 22 = .ok (.sipush 128, 3) := by decide +kernel
theorem d1_25 : decode prog_78_method_3_code 25 = .ok (.ior, 1) := by decide +kernel
theorem d1_26 : decode prog_78_method_3_code 26 = .ok (.i2b, 1) := by decide +kernel
theorem d1_27 : decode prog_78_method_3_code 27 = .ok (.bastore, 1) := by decide +kernel
theorem d1_28 : decode prog_78_method_3_code 28 = .ok (.iload_n 3, 1) := by decide +kernel
theorem d1_29 : decode prog_78_method_3_code 29 = .ok (.bipush 7, 2) := by decide +kernel
theorem d1_31 : decode prog_78_method_3_code 31 = .ok (.iushr, 1) := by decide +kernel
theorem d1_32 : decode prog_78_method_3_code 32 = .ok (.istore_n 3, 1) := by decide +kernel
theorem d1_33 : decode prog_78_method_3_code 33 = .ok (.goto (-28), 3) := by decide +kernel
theorem d1_36 : decode prog_78_method_3_code 36 = .ok (.aload_n 1, 1) := by decide +kernel
theorem d1_37 : decode prog_78_method_3_code 37 = .ok (.iload 4, 2) := by decide +kernel
theorem d1_39 : decode prog_78_method_3_code 39 = .ok (.iinc 4 1, 3) := by decide +kernel
theorem d1_42 : decode prog_78_method_3_code 42 = .ok (.iload_n 3, 1) := by decide +kernel
theorem d1_43 : decode prog_78_method_3_code 43 = .ok (.i2b, 1) := by decide +kernel
theorem d1_44 : decode prog_78_method_3_code 44 = .ok (.bastore, 1) := by decide +kernel
theorem d1_45 : decode prog_78_method_3_code 45 = .ok (.iload 4, 2) := by decide +kernel
theorem d1_47 : decode prog_78_method_3_code 47 = .ok (.ireturn, 1) := by decide +kernel
def own_end (p1 p3 : Int32) : Int32 := (if (p1 &&& (-128 : Int32)) = (0 : Int32) then (p3 + (1 : Int32)) else (if (((p1.toUInt32 >>> ((7 : Int32) &&& 31).toUInt32).toInt32) &&& (-128 : Int32)) = (0 : Int32) then ((p3 + (1 : Int32)) + (1 : Int32)) else (if (((((p1.toUInt32 >>> ((7 : Int32) &&& 31).toUInt32).toInt32).toUInt32 >>> ((7 : Int32) &&& 31).toUInt32).toInt32) &&& (-128 : Int32)) = (0 : Int32) then (((p3 + (1 : Int32)) + (1 : Int32)) + (1 : Int32)) else (if (((((((p1.toUInt32 >>> ((7 : Int32) &&& 31).toUInt32).toInt32).toUInt32 >>> ((7 : Int32) &&& 31).toUInt32).toInt32).toUInt32 >>> ((7 : Int32) &&& 31).toUInt32).toInt32) &&& (-128 : Int32)) = (0 : Int32) then ((((p3 + (1 : Int32)) + (1 : Int32)) + (1 : Int32)) + (1 : Int32)) else (((((p3 + (1 : Int32)) + (1 : Int32)) + (1 : Int32)) + (1 : Int32)) + (1 : Int32))))))
def own_wr (p1 p3 : Int32) (f : Nat → Int32) (j : Nat) : Int32 := (if (p1 &&& (-128 : Int32)) = (0 : Int32) then ((fun j => if j = (p3).toNatClampNeg then ((p1.toInt8.toInt32).toInt8.toInt32) else (f j)) j) else (if (((p1.toUInt32 >>> ((7 : Int32) &&& 31).toUInt32).toInt32) &&& (-128 : Int32)) = (0 : Int32) then ((fun j => if j = ((p3 + (1 : Int32))).toNatClampNeg then ((((p1.toUInt32 >>> ((7 : Int32) &&& 31).toUInt32).toInt32).toInt8.toInt32).toInt8.toInt32) else ((fun j => if j = (p3).toNatClampNeg then ((((p1 &&& (127 : Int32)) ||| (128 : Int32)).toInt8.toInt32).toInt8.toInt32) else (f j)) j)) j) else (if (((((p1.toUInt32 >>> ((7 : Int32) &&& 31).toUInt32).toInt32).toUInt32 >>> ((7 : Int32) &&& 31).toUInt32).toInt32) &&& (-128 : Int32)) = (0 : Int32) then ((fun j => if j = (((p3 + (1 : Int32)) + (1 : Int32))).toNatClampNeg then ((((((p1.toUInt32 >>> ((7 : Int32) &&& 31).toUInt32).toInt32).toUInt32 >>> ((7 : Int32) &&& 31).toUInt32).toInt32).toInt8.toInt32).toInt8.toInt32) else ((fun j => if j = ((p3 + (1 : Int32))).toNatClampNeg then ((((((p1.toUInt32 >>> ((7 : Int32) &&& 31).toUInt32).toInt32) &&& (127 : Int32)) ||| (128 : Int32)).toInt8.toInt32).toInt8.toInt32) else ((fun j => if j = (p3).toNatClampNeg then ((((p1 &&& (127 : Int32)) ||| (128 : Int32)).toInt8.toInt32).toInt8.toInt32) else (f j)) j)) j)) j) else (if (((((((p1.toUInt32 >>> ((7 : Int32) &&& 31).toUInt32).toInt32).toUInt32 >>> ((7 : Int32) &&& 31).toUInt32).toInt32).toUInt32 >>> ((7 : Int32) &&& 31).toUInt32).toInt32) &&& (-128 : Int32)) = (0 : Int32) then ((fun j => if j = ((((p3 + (1 : Int32)) + (1 : Int32)) + (1 : Int32))).toNatClampNeg then ((((((((p1.toUInt32 >>> ((7 : Int32) &&& 31).toUInt32).toInt32).toUInt32 >>> ((7 : Int32) &&& 31).toUInt32).toInt32).toUInt32 >>> ((7 : Int32) &&& 31).toUInt32).toInt32).toInt8.toInt32).toInt8.toInt32) else ((fun j => if j = (((p3 + (1 : Int32)) + (1 : Int32))).toNatClampNeg then ((((((((p1.toUInt32 >>> ((7 : Int32) &&& 31).toUInt32).toInt32).toUInt32 >>> ((7 : Int32) &&& 31).toUInt32).toInt32) &&& (127 : Int32)) ||| (128 : Int32)).toInt8.toInt32).toInt8.toInt32) else ((fun j => if j = ((p3 + (1 : Int32))).toNatClampNeg then ((((((p1.toUInt32 >>> ((7 : Int32) &&& 31).toUInt32).toInt32) &&& (127 : Int32)) ||| (128 : Int32)).toInt8.toInt32).toInt8.toInt32) else ((fun j => if j = (p3).toNatClampNeg then ((((p1 &&& (127 : Int32)) ||| (128 : Int32)).toInt8.toInt32).toInt8.toInt32) else (f j)) j)) j)) j)) j) else ((fun j => if j = (((((p3 + (1 : Int32)) + (1 : Int32)) + (1 : Int32)) + (1 : Int32))).toNatClampNeg then ((((((((((p1.toUInt32 >>> ((7 : Int32) &&& 31).toUInt32).toInt32).toUInt32 >>> ((7 : Int32) &&& 31).toUInt32).toInt32).toUInt32 >>> ((7 : Int32) &&& 31).toUInt32).toInt32).toUInt32 >>> ((7 : Int32) &&& 31).toUInt32).toInt32).toInt8.toInt32).toInt8.toInt32) else ((fun j => if j = ((((p3 + (1 : Int32)) + (1 : Int32)) + (1 : Int32))).toNatClampNeg then ((((((((((p1.toUInt32 >>> ((7 : Int32) &&& 31).toUInt32).toInt32).toUInt32 >>> ((7 : Int32) &&& 31).toUInt32).toInt32).toUInt32 >>> ((7 : Int32) &&& 31).toUInt32).toInt32) &&& (127 : Int32)) ||| (128 : Int32)).toInt8.toInt32).toInt8.toInt32) else ((fun j => if j = (((p3 + (1 : Int32)) + (1 : Int32))).toNatClampNeg then ((((((((p1.toUInt32 >>> ((7 : Int32) &&& 31).toUInt32).toInt32).toUInt32 >>> ((7 : Int32) &&& 31).toUInt32).toInt32) &&& (127 : Int32)) ||| (128 : Int32)).toInt8.toInt32).toInt8.toInt32) else ((fun j => if j = ((p3 + (1 : Int32))).toNatClampNeg then ((((((p1.toUInt32 >>> ((7 : Int32) &&& 31).toUInt32).toInt32) &&& (127 : Int32)) ||| (128 : Int32)).toInt8.toInt32).toInt8.toInt32) else ((fun j => if j = (p3).toNatClampNeg then ((((p1 &&& (127 : Int32)) ||| (128 : Int32)).toInt8.toInt32).toInt8.toInt32) else (f j)) j)) j)) j)) j)) j)))))
set_option maxRecDepth 65536 in
set_option maxHeartbeats 40000000 in
theorem bk1_0 {p : Program} {l : Launch} {e : Env} {s : State} {m : MethodId} {args : Array Value} {below : List Frame} {meth : Method} {c : Code} {T0 : State} {locs : List Loc} {Z : State} {a0 : Array Value} {h0 : Heap} {n0 : Nat}
    (hx : p.tables.exec = Jvm.exec) (hZ : Z.Warmed39 s.vm) (hw : ∀ d ∈ tables_1, d.before a0 Z = true) (hby : c.code = prog_78_method_3_code) (hml : c.maxLocals = 5) (hown : s.vm.findClass "com/example/holdfast/holdfast/Varint" = some m.cls) (hnm : meth.name = "write") (hret : meth.sig.returnType = some .int) (hlk : meth.locks = false)
    (X0 : Stand p l e ({ frames := 0, cells := 0, slots := 0, locals := 0 } : Room) s m args below meth c T0 locs 0 0) (N0 : Fr n0 locs) (e0 : T0.heap = h0) (p1 : Int32) (a2 : Addr) (p3 : Int32) (kc : ClassId) (f : Nat → Int32) (V_a2 : Arv Z h0 a2 kc .byte (8 : Int32) ((List.range 8).map fun j => Value.int (f j)) (.int (0 : Int32))) (g_a2 : n0 ≤ a2) (hat : 0 ≤ p3.toInt ∧ p3.toInt ≤ 3) :
    Done p e below s ({ frames := 0, cells := 0, slots := 0, locals := 0 } : Room) (fun v h L => v = some (.int (own_end p1 p3)) ∧ Fr n0 L ∧ Keep h0 h [a2] ∧ Arv Z h a2 kc .byte (8 : Int32) ((List.range 8).map fun j => Value.int (own_wr p1 p3 f j)) (.int (0 : Int32))) T0 (mkF m 0 #[.val (.int p1), .val (.ref a2), .val (.int p3), .unset, .unset] []) := by
  simp only [own_end, own_wr]
  refine Done.of (T' := T0) (g' := (mkF m 9 #[.val (.int p1), .val (.ref a2), .val (.int p3), .val (.int p1), .val (.int p3)] [(.int (p1 &&& (-128 : Int32)))])) (fun t k => ?_) ?_
  · show Steps p.tables e below (T0.setTop (mkF m 0 #[.val (.int p1), .val (.ref a2), .val (.int p3), .unset, .unset] [])) t
    refine XS.iloadN X0.here hx rfl (hb hby d1_0) rfl ?_
    show Steps p.tables e below (T0.setTop (mkF m 1 #[.val (.int p1), .val (.ref a2), .val (.int p3), .unset, .unset] [(.int p1)])) t
    refine XS.istoreN X0.here hx rfl (hb hby d1_1) rfl (l' := #[.val (.int p1), .val (.ref a2), .val (.int p3), .val (.int p1), .unset]) rfl ?_
    show Steps p.tables e below (T0.setTop (mkF m 2 #[.val (.int p1), .val (.ref a2), .val (.int p3), .val (.int p1), .unset] [])) t
    refine XS.iloadN X0.here hx rfl (hb hby d1_2) rfl ?_
    show Steps p.tables e below (T0.setTop (mkF m 3 #[.val (.int p1), .val (.ref a2), .val (.int p3), .val (.int p1), .unset] [(.int p3)])) t
    refine XS.istore X0.here hx rfl (hb hby d1_3) rfl (l' := #[.val (.int p1), .val (.ref a2), .val (.int p3), .val (.int p1), .val (.int p3)]) rfl ?_
    show Steps p.tables e below (T0.setTop (mkF m 5 #[.val (.int p1), .val (.ref a2), .val (.int p3), .val (.int p1), .val (.int p3)] [])) t
    refine XS.iloadN X0.here hx rfl (hb hby d1_5) rfl ?_
    show Steps p.tables e below (T0.setTop (mkF m 6 #[.val (.int p1), .val (.ref a2), .val (.int p3), .val (.int p1), .val (.int p3)] [(.int p1)])) t
    refine XS.bipush X0.here hx rfl (hb hby d1_6) ?_
    show Steps p.tables e below (T0.setTop (mkF m 8 #[.val (.int p1), .val (.ref a2), .val (.int p3), .val (.int p1), .val (.int p3)] [(.int (-128 : Int32)), (.int p1)])) t
    refine XS.iand X0.here hx rfl (hb hby d1_8) rfl ?_
    exact k
  by_cases hc9_0 : (p1 &&& (-128 : Int32)) = (0 : Int32)
  · simp only [if_pos hc9_0]
    refine Done.of (T' := T0) (g' := (mkF m 44 #[.val (.int p1), .val (.ref a2), .val (.int p3), .val (.int p1), .val (.int (p3 + (1 : Int32)))] [(.int (p1.toInt8.toInt32)), (.int p3), (.ref a2)])) (fun t k => ?_) ?_
    · show Steps p.tables e below (T0.setTop (mkF m 9 #[.val (.int p1), .val (.ref a2), .val (.int p3), .val (.int p1), .val (.int p3)] [(.int (p1 &&& (-128 : Int32)))])) t
      refine XS.ifYes X0.here hx rfl (pc0 := 9) (pc' := 36) rfl (hb hby d1_9) rfl ((if0 _ _).trans (teq hc9_0).1) (by decide) (by decide) ?_
      show Steps p.tables e below (T0.setTop (mkF m 36 #[.val (.int p1), .val (.ref a2), .val (.int p3), .val (.int p1), .val (.int p3)] [])) t
      refine XS.aloadN X0.here hx rfl (hb hby d1_36) rfl rfl ?_
      show Steps p.tables e below (T0.setTop (mkF m 37 #[.val (.int p1), .val (.ref a2), .val (.int p3), .val (.int p1), .val (.int p3)] [(.ref a2)])) t
      refine XS.iload X0.here hx rfl (hb hby d1_37) rfl ?_
      show Steps p.tables e below (T0.setTop (mkF m 39 #[.val (.int p1), .val (.ref a2), .val (.int p3), .val (.int p1), .val (.int p3)] [(.int p3), (.ref a2)])) t
      refine XS.iinc X0.here hx rfl (hb hby d1_39) rfl (l' := #[.val (.int p1), .val (.ref a2), .val (.int p3), .val (.int p1), .val (.int (p3 + (1 : Int32)))]) rfl ?_
      show Steps p.tables e below (T0.setTop (mkF m 42 #[.val (.int p1), .val (.ref a2), .val (.int p3), .val (.int p1), .val (.int (p3 + (1 : Int32)))] [(.int p3), (.ref a2)])) t
      refine XS.iloadN X0.here hx rfl (hb hby d1_42) rfl ?_
      show Steps p.tables e below (T0.setTop (mkF m 43 #[.val (.int p1), .val (.ref a2), .val (.int p3), .val (.int p1), .val (.int (p3 + (1 : Int32)))] [(.int p1), (.int p3), (.ref a2)])) t
      refine XS.i2b X0.here hx rfl (hb hby d1_43) rfl ?_
      exact k
    obtain ⟨cl_o3, Ar_o3, q_o3, S_o3, Nn_o3, H_o3, G_o3⟩ := id V_a2
    have hin2 : ¬ (p3 < 0 ∨ cl_o3.slots.size ≤ (p3).toNatClampNeg) := inb_of S_o3 (own_ix0 hat)
    obtain ⟨T2, h2, X2, e2, W2, st2⟩ := stB X0 hx hZ e0 Ar_o3 (j := p3) hin2 (g := (mkF m 44 #[.val (.int p1), .val (.ref a2), .val (.int p3), .val (.int p1), .val (.int (p3 + (1 : Int32)))] [(.int (p1.toInt8.toInt32)), (.int p3), (.ref a2)])) rfl rfl (hb hby d1_44)
    have V2 : Arv Z h2 a2 kc .byte (8 : Int32) ((List.range 8).map fun j => Value.int ((fun j => if j = (p3).toNatClampNeg then ((p1.toInt8.toInt32).toInt8.toInt32) else (f j)) j)) (.int (0 : Int32)) := own_setA (Arv.set Ar_o3 q_o3 S_o3 Nn_o3 H_o3 G_o3 (fits_nar_byte _) W2 (p3).toNatClampNeg rfl (own_len S_o3 hin2))
    have N2 := Fr.snoc X2 N0 g_a2
    have K2 : Keep h0 h2 [a2] := (Keep.refl h0 [a2]).wr W2 (Or.inl (List.mem_of_getElem? (i := 0) rfl))
    refine Done.of (g' := (mkF m 45 #[.val (.int p1), .val (.ref a2), .val (.int p3), .val (.int p1), .val (.int (p3 + (1 : Int32)))] [])) st2 ?_
    refine Done.of (T' := T2) (g' := (mkF m 47 #[.val (.int p1), .val (.ref a2), .val (.int p3), .val (.int p1), .val (.int (p3 + (1 : Int32)))] [(.int (p3 + (1 : Int32)))])) (fun t k => ?_) ?_
    · show Steps p.tables e below (T2.setTop (mkF m 45 #[.val (.int p1), .val (.ref a2), .val (.int p3), .val (.int p1), .val (.int (p3 + (1 : Int32)))] [])) t
      refine XS.iload X2.here hx rfl (hb hby d1_45) rfl ?_
      exact k
    exact doneI X2 hx hret hlk (hb hby d1_47) (by show _ ∧ _; rw [e2]; exact ⟨rfl, N2, K2, V2⟩) (by decide) (by decide)
  · simp only [if_neg hc9_0]
    refine Done.of (T' := T0) (g' := (mkF m 27 #[.val (.int p1), .val (.ref a2), .val (.int p3), .val (.int p1), .val (.int (p3 + (1 : Int32)))] [(.int (((p1 &&& (127 : Int32)) ||| (128 : Int32)).toInt8.toInt32)), (.int p3), (.ref a2)])) (fun t k => ?_) ?_
    · show Steps p.tables e below (T0.setTop (mkF m 9 #[.val (.int p1), .val (.ref a2), .val (.int p3), .val (.int p1), .val (.int p3)] [(.int (p1 &&& (-128 : Int32)))])) t
      refine XS.ifNo X0.here hx rfl (hb hby d1_9) rfl ((if0 _ _).trans (feq hc9_0).1) ?_
      show Steps p.tables e below (T0.setTop (mkF m 12 #[.val (.int p1), .val (.ref a2), .val (.int p3), .val (.int p1), .val (.int p3)] [])) t
      refine XS.aloadN X0.here hx rfl (hb hby d1_12) rfl rfl ?_
      show Steps p.tables e below (T0.setTop (mkF m 13 #[.val (.int p1), .val (.ref a2), .val (.int p3), .val (.int p1), .val (.int p3)] [(.ref a2)])) t
      refine XS.iload X0.here hx rfl (hb hby d1_13) rfl ?_
      show Steps p.tables e below (T0.setTop (mkF m 15 #[.val (.int p1), .val (.ref a2), .val (.int p3), .val (.int p1), .val (.int p3)] [(.int p3), (.ref a2)])) t
      refine XS.iinc X0.here hx rfl (hb hby d1_15) rfl (l' := #[.val (.int p1), .val (.ref a2), .val (.int p3), .val (.int p1), .val (.int (p3 + (1 : Int32)))]) rfl ?_
      show Steps p.tables e below (T0.setTop (mkF m 18 #[.val (.int p1), .val (.ref a2), .val (.int p3), .val (.int p1), .val (.int (p3 + (1 : Int32)))] [(.int p3), (.ref a2)])) t
      refine XS.iloadN X0.here hx rfl (hb hby d1_18) rfl ?_
      show Steps p.tables e below (T0.setTop (mkF m 19 #[.val (.int p1), .val (.ref a2), .val (.int p3), .val (.int p1), .val (.int (p3 + (1 : Int32)))] [(.int p1), (.int p3), (.ref a2)])) t
      refine XS.bipush X0.here hx rfl (hb hby d1_19) ?_
      show Steps p.tables e below (T0.setTop (mkF m 21 #[.val (.int p1), .val (.ref a2), .val (.int p3), .val (.int p1), .val (.int (p3 + (1 : Int32)))] [(.int (127 : Int32)), (.int p1), (.int p3), (.ref a2)])) t
      refine XS.iand X0.here hx rfl (hb hby d1_21) rfl ?_
      show Steps p.tables e below (T0.setTop (mkF m 22 #[.val (.int p1), .val (.ref a2), .val (.int p3), .val (.int p1), .val (.int (p3 + (1 : Int32)))] [(.int (p1 &&& (127 : Int32))), (.int p3), (.ref a2)])) t
      refine XS.sipush X0.here hx rfl (hb hby d1_22) ?_
      show Steps p.tables e below (T0.setTop (mkF m 25 #[.val (.int p1), .val (.ref a2), .val (.int p3), .val (.int p1), .val (.int (p3 + (1 : Int32)))] [(.int (128 : Int32)), (.int (p1 &&& (127 : Int32))), (.int p3), (.ref a2)])) t
      refine XS.ior X0.here hx rfl (hb hby d1_25) rfl ?_
      show Steps p.tables e below (T0.setTop (mkF m 26 #[.val (.int p1), .val (.ref a2), .val (.int p3), .val (.int p1), .val (.int (p3 + (1 : Int32)))] [(.int ((p1 &&& (127 : Int32)) ||| (128 : Int32))), (.int p3), (.ref a2)])) t
      refine XS.i2b X0.here hx rfl (hb hby d1_26) rfl ?_
      exact k
    obtain ⟨cl_o5, Ar_o5, q_o5, S_o5, Nn_o5, H_o5, G_o5⟩ := id V_a2
    have hin4 : ¬ (p3 < 0 ∨ cl_o5.slots.size ≤ (p3).toNatClampNeg) := inb_of S_o5 (own_ix0 hat)
    obtain ⟨T4, h4, X4, e4, W4, st4⟩ := stB X0 hx hZ e0 Ar_o5 (j := p3) hin4 (g := (mkF m 27 #[.val (.int p1), .val (.ref a2), .val (.int p3), .val (.int p1), .val (.int (p3 + (1 : Int32)))] [(.int (((p1 &&& (127 : Int32)) ||| (128 : Int32)).toInt8.toInt32)), (.int p3), (.ref a2)])) rfl rfl (hb hby d1_27)
    have V4 : Arv Z h4 a2 kc .byte (8 : Int32) ((List.range 8).map fun j => Value.int ((fun j => if j = (p3).toNatClampNeg then ((((p1 &&& (127 : Int32)) ||| (128 : Int32)).toInt8.toInt32).toInt8.toInt32) else (f j)) j)) (.int (0 : Int32)) := own_setA (Arv.set Ar_o5 q_o5 S_o5 Nn_o5 H_o5 G_o5 (fits_nar_byte _) W4 (p3).toNatClampNeg rfl (own_len S_o5 hin4))
    have N4 := Fr.snoc X4 N0 g_a2
    have K4 : Keep h0 h4 [a2] := (Keep.refl h0 [a2]).wr W4 (Or.inl (List.mem_of_getElem? (i := 0) rfl))
    refine Done.of (g' := (mkF m 28 #[.val (.int p1), .val (.ref a2), .val (.int p3), .val (.int p1), .val (.int (p3 + (1 : Int32)))] [])) st4 ?_
    refine Done.of (T' := T4) (g' := (mkF m 9 #[.val (.int p1), .val (.ref a2), .val (.int p3), .val (.int ((p1.toUInt32 >>> ((7 : Int32) &&& 31).toUInt32).toInt32)), .val (.int (p3 + (1 : Int32)))] [(.int (((p1.toUInt32 >>> ((7 : Int32) &&& 31).toUInt32).toInt32) &&& (-128 : Int32)))])) (fun t k => ?_) ?_
    · show Steps p.tables e below (T4.setTop (mkF m 28 #[.val (.int p1), .val (.ref a2), .val (.int p3), .val (.int p1), .val (.int (p3 + (1 : Int32)))] [])) t
      refine XS.iloadN X4.here hx rfl (hb hby d1_28) rfl ?_
      show Steps p.tables e below (T4.setTop (mkF m 29 #[.val (.int p1), .val (.ref a2), .val (.int p3), .val (.int p1), .val (.int (p3 + (1 : Int32)))] [(.int p1)])) t
      refine XS.bipush X4.here hx rfl (hb hby d1_29) ?_
      show Steps p.tables e below (T4.setTop (mkF m 31 #[.val (.int p1), .val (.ref a2), .val (.int p3), .val (.int p1), .val (.int (p3 + (1 : Int32)))] [(.int (7 : Int32)), (.int p1)])) t
      refine XS.iushr X4.here hx rfl (hb hby d1_31) rfl ?_
      show Steps p.tables e below (T4.setTop (mkF m 32 #[.val (.int p1), .val (.ref a2), .val (.int p3), .val (.int p1), .val (.int (p3 + (1 : Int32)))] [(.int ((p1.toUInt32 >>> ((7 : Int32) &&& 31).toUInt32).toInt32))])) t
      refine XS.istoreN X4.here hx rfl (hb hby d1_32) rfl (l' := #[.val (.int p1), .val (.ref a2), .val (.int p3), .val (.int ((p1.toUInt32 >>> ((7 : Int32) &&& 31).toUInt32).toInt32)), .val (.int (p3 + (1 : Int32)))]) rfl ?_
      show Steps p.tables e below (T4.setTop (mkF m 33 #[.val (.int p1), .val (.ref a2), .val (.int p3), .val (.int ((p1.toUInt32 >>> ((7 : Int32) &&& 31).toUInt32).toInt32)), .val (.int (p3 + (1 : Int32)))] [])) t
      refine XS.goto X4.here hx rfl (pc0 := 33) (pc' := 5) rfl (hb hby d1_33) (by decide) (by decide) ?_
      show Steps p.tables e below (T4.setTop (mkF m 5 #[.val (.int p1), .val (.ref a2), .val (.int p3), .val (.int ((p1.toUInt32 >>> ((7 : Int32) &&& 31).toUInt32).toInt32)), .val (.int (p3 + (1 : Int32)))] [])) t
      refine XS.iloadN X4.here hx rfl (hb hby d1_5) rfl ?_
      show Steps p.tables e below (T4.setTop (mkF m 6 #[.val (.int p1), .val (.ref a2), .val (.int p3), .val (.int ((p1.toUInt32 >>> ((7 : Int32) &&& 31).toUInt32).toInt32)), .val (.int (p3 + (1 : Int32)))] [(.int ((p1.toUInt32 >>> ((7 : Int32) &&& 31).toUInt32).toInt32))])) t
      refine XS.bipush X4.here hx rfl (hb hby d1_6) ?_
      show Steps p.tables e below (T4.setTop (mkF m 8 #[.val (.int p1), .val (.ref a2), .val (.int p3), .val (.int ((p1.toUInt32 >>> ((7 : Int32) &&& 31).toUInt32).toInt32)), .val (.int (p3 + (1 : Int32)))] [(.int (-128 : Int32)), (.int ((p1.toUInt32 >>> ((7 : Int32) &&& 31).toUInt32).toInt32))])) t
      refine XS.iand X4.here hx rfl (hb hby d1_8) rfl ?_
      exact k
    by_cases hc9_5 : (((p1.toUInt32 >>> ((7 : Int32) &&& 31).toUInt32).toInt32) &&& (-128 : Int32)) = (0 : Int32)
    · simp only [if_pos hc9_5]
      refine Done.of (T' := T4) (g' := (mkF m 44 #[.val (.int p1), .val (.ref a2), .val (.int p3), .val (.int ((p1.toUInt32 >>> ((7 : Int32) &&& 31).toUInt32).toInt32)), .val (.int ((p3 + (1 : Int32)) + (1 : Int32)))] [(.int (((p1.toUInt32 >>> ((7 : Int32) &&& 31).toUInt32).toInt32).toInt8.toInt32)), (.int (p3 + (1 : Int32))), (.ref a2)])) (fun t k => ?_) ?_
      · show Steps p.tables e below (T4.setTop (mkF m 9 #[.val (.int p1), .val (.ref a2), .val (.int p3), .val (.int ((p1.toUInt32 >>> ((7 : Int32) &&& 31).toUInt32).toInt32)), .val (.int (p3 + (1 : Int32)))] [(.int (((p1.toUInt32 >>> ((7 : Int32) &&& 31).toUInt32).toInt32) &&& (-128 : Int32)))])) t
        refine XS.ifYes X4.here hx rfl (pc0 := 9) (pc' := 36) rfl (hb hby d1_9) rfl ((if0 _ _).trans (teq hc9_5).1) (by decide) (by decide) ?_
        show Steps p.tables e below (T4.setTop (mkF m 36 #[.val (.int p1), .val (.ref a2), .val (.int p3), .val (.int ((p1.toUInt32 >>> ((7 : Int32) &&& 31).toUInt32).toInt32)), .val (.int (p3 + (1 : Int32)))] [])) t
        refine XS.aloadN X4.here hx rfl (hb hby d1_36) rfl rfl ?_
        show Steps p.tables e below (T4.setTop (mkF m 37 #[.val (.int p1), .val (.ref a2), .val (.int p3), .val (.int ((p1.toUInt32 >>> ((7 : Int32) &&& 31).toUInt32).toInt32)), .val (.int (p3 + (1 : Int32)))] [(.ref a2)])) t
        refine XS.iload X4.here hx rfl (hb hby d1_37) rfl ?_
        show Steps p.tables e below (T4.setTop (mkF m 39 #[.val (.int p1), .val (.ref a2), .val (.int p3), .val (.int ((p1.toUInt32 >>> ((7 : Int32) &&& 31).toUInt32).toInt32)), .val (.int (p3 + (1 : Int32)))] [(.int (p3 + (1 : Int32))), (.ref a2)])) t
        refine XS.iinc X4.here hx rfl (hb hby d1_39) rfl (l' := #[.val (.int p1), .val (.ref a2), .val (.int p3), .val (.int ((p1.toUInt32 >>> ((7 : Int32) &&& 31).toUInt32).toInt32)), .val (.int ((p3 + (1 : Int32)) + (1 : Int32)))]) rfl ?_
        show Steps p.tables e below (T4.setTop (mkF m 42 #[.val (.int p1), .val (.ref a2), .val (.int p3), .val (.int ((p1.toUInt32 >>> ((7 : Int32) &&& 31).toUInt32).toInt32)), .val (.int ((p3 + (1 : Int32)) + (1 : Int32)))] [(.int (p3 + (1 : Int32))), (.ref a2)])) t
        refine XS.iloadN X4.here hx rfl (hb hby d1_42) rfl ?_
        show Steps p.tables e below (T4.setTop (mkF m 43 #[.val (.int p1), .val (.ref a2), .val (.int p3), .val (.int ((p1.toUInt32 >>> ((7 : Int32) &&& 31).toUInt32).toInt32)), .val (.int ((p3 + (1 : Int32)) + (1 : Int32)))] [(.int ((p1.toUInt32 >>> ((7 : Int32) &&& 31).toUInt32).toInt32)), (.int (p3 + (1 : Int32))), (.ref a2)])) t
        refine XS.i2b X4.here hx rfl (hb hby d1_43) rfl ?_
        exact k
      obtain ⟨cl_o8, Ar_o8, q_o8, S_o8, Nn_o8, H_o8, G_o8⟩ := id V4
      have hin7 : ¬ ((p3 + (1 : Int32)) < 0 ∨ cl_o8.slots.size ≤ ((p3 + (1 : Int32))).toNatClampNeg) := inb_of S_o8 (own_ix1 hat)
      obtain ⟨T7, h7, X7, e7, W7, st7⟩ := stB X4 hx hZ e4 Ar_o8 (j := (p3 + (1 : Int32))) hin7 (g := (mkF m 44 #[.val (.int p1), .val (.ref a2), .val (.int p3), .val (.int ((p1.toUInt32 >>> ((7 : Int32) &&& 31).toUInt32).toInt32)), .val (.int ((p3 + (1 : Int32)) + (1 : Int32)))] [(.int (((p1.toUInt32 >>> ((7 : Int32) &&& 31).toUInt32).toInt32).toInt8.toInt32)), (.int (p3 + (1 : Int32))), (.ref a2)])) rfl rfl (hb hby d1_44)
      have V7 : Arv Z h7 a2 kc .byte (8 : Int32) ((List.range 8).map fun j => Value.int ((fun j => if j = ((p3 + (1 : Int32))).toNatClampNeg then ((((p1.toUInt32 >>> ((7 : Int32) &&& 31).toUInt32).toInt32).toInt8.toInt32).toInt8.toInt32) else ((fun j => if j = (p3).toNatClampNeg then ((((p1 &&& (127 : Int32)) ||| (128 : Int32)).toInt8.toInt32).toInt8.toInt32) else (f j)) j)) j)) (.int (0 : Int32)) := own_setA (Arv.set Ar_o8 q_o8 S_o8 Nn_o8 H_o8 G_o8 (fits_nar_byte _) W7 ((p3 + (1 : Int32))).toNatClampNeg rfl (own_len S_o8 hin7))
      have N7 := Fr.snoc X7 N4 g_a2
      have K7 : Keep h0 h7 [a2] := K4.wr W7 (Or.inl (List.mem_of_getElem? (i := 0) rfl))
      refine Done.of (g' := (mkF m 45 #[.val (.int p1), .val (.ref a2), .val (.int p3), .val (.int ((p1.toUInt32 >>> ((7 : Int32) &&& 31).toUInt32).toInt32)), .val (.int ((p3 + (1 : Int32)) + (1 : Int32)))] [])) st7 ?_
      refine Done.of (T' := T7) (g' := (mkF m 47 #[.val (.int p1), .val (.ref a2), .val (.int p3), .val (.int ((p1.toUInt32 >>> ((7 : Int32) &&& 31).toUInt32).toInt32)), .val (.int ((p3 + (1 : Int32)) + (1 : Int32)))] [(.int ((p3 + (1 : Int32)) + (1 : Int32)))])) (fun t k => ?_) ?_
      · show Steps p.tables e below (T7.setTop (mkF m 45 #[.val (.int p1), .val (.ref a2), .val (.int p3), .val (.int ((p1.toUInt32 >>> ((7 : Int32) &&& 31).toUInt32).toInt32)), .val (.int ((p3 + (1 : Int32)) + (1 : Int32)))] [])) t
        refine XS.iload X7.here hx rfl (hb hby d1_45) rfl ?_
        exact k
      exact doneI X7 hx hret hlk (hb hby d1_47) (by show _ ∧ _; rw [e7]; exact ⟨rfl, N7, K7, V7⟩) (by decide) (by decide)
    · simp only [if_neg hc9_5]
      refine Done.of (T' := T4) (g' := (mkF m 27 #[.val (.int p1), .val (.ref a2), .val (.int p3), .val (.int ((p1.toUInt32 >>> ((7 : Int32) &&& 31).toUInt32).toInt32)), .val (.int ((p3 + (1 : Int32)) + (1 : Int32)))] [(.int (((((p1.toUInt32 >>> ((7 : Int32) &&& 31).toUInt32).toInt32) &&& (127 : Int32)) ||| (128 : Int32)).toInt8.toInt32)), (.int (p3 + (1 : Int32))), (.ref a2)])) (fun t k => ?_) ?_
      · show Steps p.tables e below (T4.setTop (mkF m 9 #[.val (.int p1), .val (.ref a2), .val (.int p3), .val (.int ((p1.toUInt32 >>> ((7 : Int32) &&& 31).toUInt32).toInt32)), .val (.int (p3 + (1 : Int32)))] [(.int (((p1.toUInt32 >>> ((7 : Int32) &&& 31).toUInt32).toInt32) &&& (-128 : Int32)))])) t
        refine XS.ifNo X4.here hx rfl (hb hby d1_9) rfl ((if0 _ _).trans (feq hc9_5).1) ?_
        show Steps p.tables e below (T4.setTop (mkF m 12 #[.val (.int p1), .val (.ref a2), .val (.int p3), .val (.int ((p1.toUInt32 >>> ((7 : Int32) &&& 31).toUInt32).toInt32)), .val (.int (p3 + (1 : Int32)))] [])) t
        refine XS.aloadN X4.here hx rfl (hb hby d1_12) rfl rfl ?_
        show Steps p.tables e below (T4.setTop (mkF m 13 #[.val (.int p1), .val (.ref a2), .val (.int p3), .val (.int ((p1.toUInt32 >>> ((7 : Int32) &&& 31).toUInt32).toInt32)), .val (.int (p3 + (1 : Int32)))] [(.ref a2)])) t
        refine XS.iload X4.here hx rfl (hb hby d1_13) rfl ?_
        show Steps p.tables e below (T4.setTop (mkF m 15 #[.val (.int p1), .val (.ref a2), .val (.int p3), .val (.int ((p1.toUInt32 >>> ((7 : Int32) &&& 31).toUInt32).toInt32)), .val (.int (p3 + (1 : Int32)))] [(.int (p3 + (1 : Int32))), (.ref a2)])) t
        refine XS.iinc X4.here hx rfl (hb hby d1_15) rfl (l' := #[.val (.int p1), .val (.ref a2), .val (.int p3), .val (.int ((p1.toUInt32 >>> ((7 : Int32) &&& 31).toUInt32).toInt32)), .val (.int ((p3 + (1 : Int32)) + (1 : Int32)))]) rfl ?_
        show Steps p.tables e below (T4.setTop (mkF m 18 #[.val (.int p1), .val (.ref a2), .val (.int p3), .val (.int ((p1.toUInt32 >>> ((7 : Int32) &&& 31).toUInt32).toInt32)), .val (.int ((p3 + (1 : Int32)) + (1 : Int32)))] [(.int (p3 + (1 : Int32))), (.ref a2)])) t
        refine XS.iloadN X4.here hx rfl (hb hby d1_18) rfl ?_
        show Steps p.tables e below (T4.setTop (mkF m 19 #[.val (.int p1), .val (.ref a2), .val (.int p3), .val (.int ((p1.toUInt32 >>> ((7 : Int32) &&& 31).toUInt32).toInt32)), .val (.int ((p3 + (1 : Int32)) + (1 : Int32)))] [(.int ((p1.toUInt32 >>> ((7 : Int32) &&& 31).toUInt32).toInt32)), (.int (p3 + (1 : Int32))), (.ref a2)])) t
        refine XS.bipush X4.here hx rfl (hb hby d1_19) ?_
        show Steps p.tables e below (T4.setTop (mkF m 21 #[.val (.int p1), .val (.ref a2), .val (.int p3), .val (.int ((p1.toUInt32 >>> ((7 : Int32) &&& 31).toUInt32).toInt32)), .val (.int ((p3 + (1 : Int32)) + (1 : Int32)))] [(.int (127 : Int32)), (.int ((p1.toUInt32 >>> ((7 : Int32) &&& 31).toUInt32).toInt32)), (.int (p3 + (1 : Int32))), (.ref a2)])) t
        refine XS.iand X4.here hx rfl (hb hby d1_21) rfl ?_
        show Steps p.tables e below (T4.setTop (mkF m 22 #[.val (.int p1), .val (.ref a2), .val (.int p3), .val (.int ((p1.toUInt32 >>> ((7 : Int32) &&& 31).toUInt32).toInt32)), .val (.int ((p3 + (1 : Int32)) + (1 : Int32)))] [(.int (((p1.toUInt32 >>> ((7 : Int32) &&& 31).toUInt32).toInt32) &&& (127 : Int32))), (.int (p3 + (1 : Int32))), (.ref a2)])) t
        refine XS.sipush X4.here hx rfl (hb hby d1_22) ?_
        show Steps p.tables e below (T4.setTop (mkF m 25 #[.val (.int p1), .val (.ref a2), .val (.int p3), .val (.int ((p1.toUInt32 >>> ((7 : Int32) &&& 31).toUInt32).toInt32)), .val (.int ((p3 + (1 : Int32)) + (1 : Int32)))] [(.int (128 : Int32)), (.int (((p1.toUInt32 >>> ((7 : Int32) &&& 31).toUInt32).toInt32) &&& (127 : Int32))), (.int (p3 + (1 : Int32))), (.ref a2)])) t
        refine XS.ior X4.here hx rfl (hb hby d1_25) rfl ?_
        show Steps p.tables e below (T4.setTop (mkF m 26 #[.val (.int p1), .val (.ref a2), .val (.int p3), .val (.int ((p1.toUInt32 >>> ((7 : Int32) &&& 31).toUInt32).toInt32)), .val (.int ((p3 + (1 : Int32)) + (1 : Int32)))] [(.int ((((p1.toUInt32 >>> ((7 : Int32) &&& 31).toUInt32).toInt32) &&& (127 : Int32)) ||| (128 : Int32))), (.int (p3 + (1 : Int32))), (.ref a2)])) t
        refine XS.i2b X4.here hx rfl (hb hby d1_26) rfl ?_
        exact k
      obtain ⟨cl_o10, Ar_o10, q_o10, S_o10, Nn_o10, H_o10, G_o10⟩ := id V4
      have hin9 : ¬ ((p3 + (1 : Int32)) < 0 ∨ cl_o10.slots.size ≤ ((p3 + (1 : Int32))).toNatClampNeg) := inb_of S_o10 (own_ix1 hat)
      obtain ⟨T9, h9, X9, e9, W9, st9⟩ := stB X4 hx hZ e4 Ar_o10 (j := (p3 + (1 : Int32))) hin9 (g := (mkF m 27 #[.val (.int p1), .val (.ref a2), .val (.int p3), .val (.int ((p1.toUInt32 >>> ((7 : Int32) &&& 31).toUInt32).toInt32)), .val (.int ((p3 + (1 : Int32)) + (1 : Int32)))] [(.int (((((p1.toUInt32 >>> ((7 : Int32) &&& 31).toUInt32).toInt32) &&& (127 : Int32)) ||| (128 : Int32)).toInt8.toInt32)), (.int (p3 + (1 : Int32))), (.ref a2)])) rfl rfl (hb hby d1_27)
      have V9 : Arv Z h9 a2 kc .byte (8 : Int32) ((List.range 8).map fun j => Value.int ((fun j => if j = ((p3 + (1 : Int32))).toNatClampNeg then ((((((p1.toUInt32 >>> ((7 : Int32) &&& 31).toUInt32).toInt32) &&& (127 : Int32)) ||| (128 : Int32)).toInt8.toInt32).toInt8.toInt32) else ((fun j => if j = (p3).toNatClampNeg then ((((p1 &&& (127 : Int32)) ||| (128 : Int32)).toInt8.toInt32).toInt8.toInt32) else (f j)) j)) j)) (.int (0 : Int32)) := own_setA (Arv.set Ar_o10 q_o10 S_o10 Nn_o10 H_o10 G_o10 (fits_nar_byte _) W9 ((p3 + (1 : Int32))).toNatClampNeg rfl (own_len S_o10 hin9))
      have N9 := Fr.snoc X9 N4 g_a2
      have K9 : Keep h0 h9 [a2] := K4.wr W9 (Or.inl (List.mem_of_getElem? (i := 0) rfl))
      refine Done.of (g' := (mkF m 28 #[.val (.int p1), .val (.ref a2), .val (.int p3), .val (.int ((p1.toUInt32 >>> ((7 : Int32) &&& 31).toUInt32).toInt32)), .val (.int ((p3 + (1 : Int32)) + (1 : Int32)))] [])) st9 ?_
      refine Done.of (T' := T9) (g' := (mkF m 9 #[.val (.int p1), .val (.ref a2), .val (.int p3), .val (.int ((((p1.toUInt32 >>> ((7 : Int32) &&& 31).toUInt32).toInt32).toUInt32 >>> ((7 : Int32) &&& 31).toUInt32).toInt32)), .val (.int ((p3 + (1 : Int32)) + (1 : Int32)))] [(.int (((((p1.toUInt32 >>> ((7 : Int32) &&& 31).toUInt32).toInt32).toUInt32 >>> ((7 : Int32) &&& 31).toUInt32).toInt32) &&& (-128 : Int32)))])) (fun t k => ?_) ?_
      · show Steps p.tables e below (T9.setTop (mkF m 28 #[.val (.int p1), .val (.ref a2), .val (.int p3), .val (.int ((p1.toUInt32 >>> ((7 : Int32) &&& 31).toUInt32).toInt32)), .val (.int ((p3 + (1 : Int32)) + (1 : Int32)))] [])) t
        refine XS.iloadN X9.here hx rfl (hb hby d1_28) rfl ?_
        show Steps p.tables e below (T9.setTop (mkF m 29 #[.val (.int p1), .val (.ref a2), .val (.int p3), .val (.int ((p1.toUInt32 >>> ((7 : Int32) &&& 31).toUInt32).toInt32)), .val (.int ((p3 + (1 : Int32)) + (1 : Int32)))] [(.int ((p1.toUInt32 >>> ((7 : Int32) &&& 31).toUInt32).toInt32))])) t
        refine XS.bipush X9.here hx rfl (hb hby d1_29) ?_
        show Steps p.tables e below (T9.setTop (mkF m 31 #[.val (.int p1), .val (.ref a2), .val (.int p3), .val (.int ((p1.toUInt32 >>> ((7 : Int32) &&& 31).toUInt32).toInt32)), .val (.int ((p3 + (1 : Int32)) + (1 : Int32)))] [(.int (7 : Int32)), (.int ((p1.toUInt32 >>> ((7 : Int32) &&& 31).toUInt32).toInt32))])) t
        refine XS.iushr X9.here hx rfl (hb hby d1_31) rfl ?_
        show Steps p.tables e below (T9.setTop (mkF m 32 #[.val (.int p1), .val (.ref a2), .val (.int p3), .val (.int ((p1.toUInt32 >>> ((7 : Int32) &&& 31).toUInt32).toInt32)), .val (.int ((p3 + (1 : Int32)) + (1 : Int32)))] [(.int ((((p1.toUInt32 >>> ((7 : Int32) &&& 31).toUInt32).toInt32).toUInt32 >>> ((7 : Int32) &&& 31).toUInt32).toInt32))])) t
        refine XS.istoreN X9.here hx rfl (hb hby d1_32) rfl (l' := #[.val (.int p1), .val (.ref a2), .val (.int p3), .val (.int ((((p1.toUInt32 >>> ((7 : Int32) &&& 31).toUInt32).toInt32).toUInt32 >>> ((7 : Int32) &&& 31).toUInt32).toInt32)), .val (.int ((p3 + (1 : Int32)) + (1 : Int32)))]) rfl ?_
        show Steps p.tables e below (T9.setTop (mkF m 33 #[.val (.int p1), .val (.ref a2), .val (.int p3), .val (.int ((((p1.toUInt32 >>> ((7 : Int32) &&& 31).toUInt32).toInt32).toUInt32 >>> ((7 : Int32) &&& 31).toUInt32).toInt32)), .val (.int ((p3 + (1 : Int32)) + (1 : Int32)))] [])) t
        refine XS.goto X9.here hx rfl (pc0 := 33) (pc' := 5) rfl (hb hby d1_33) (by decide) (by decide) ?_
        show Steps p.tables e below (T9.setTop (mkF m 5 #[.val (.int p1), .val (.ref a2), .val (.int p3), .val (.int ((((p1.toUInt32 >>> ((7 : Int32) &&& 31).toUInt32).toInt32).toUInt32 >>> ((7 : Int32) &&& 31).toUInt32).toInt32)), .val (.int ((p3 + (1 : Int32)) + (1 : Int32)))] [])) t
        refine XS.iloadN X9.here hx rfl (hb hby d1_5) rfl ?_
        show Steps p.tables e below (T9.setTop (mkF m 6 #[.val (.int p1), .val (.ref a2), .val (.int p3), .val (.int ((((p1.toUInt32 >>> ((7 : Int32) &&& 31).toUInt32).toInt32).toUInt32 >>> ((7 : Int32) &&& 31).toUInt32).toInt32)), .val (.int ((p3 + (1 : Int32)) + (1 : Int32)))] [(.int ((((p1.toUInt32 >>> ((7 : Int32) &&& 31).toUInt32).toInt32).toUInt32 >>> ((7 : Int32) &&& 31).toUInt32).toInt32))])) t
        refine XS.bipush X9.here hx rfl (hb hby d1_6) ?_
        show Steps p.tables e below (T9.setTop (mkF m 8 #[.val (.int p1), .val (.ref a2), .val (.int p3), .val (.int ((((p1.toUInt32 >>> ((7 : Int32) &&& 31).toUInt32).toInt32).toUInt32 >>> ((7 : Int32) &&& 31).toUInt32).toInt32)), .val (.int ((p3 + (1 : Int32)) + (1 : Int32)))] [(.int (-128 : Int32)), (.int ((((p1.toUInt32 >>> ((7 : Int32) &&& 31).toUInt32).toInt32).toUInt32 >>> ((7 : Int32) &&& 31).toUInt32).toInt32))])) t
        refine XS.iand X9.here hx rfl (hb hby d1_8) rfl ?_
        exact k
      by_cases hc9_10 : (((((p1.toUInt32 >>> ((7 : Int32) &&& 31).toUInt32).toInt32).toUInt32 >>> ((7 : Int32) &&& 31).toUInt32).toInt32) &&& (-128 : Int32)) = (0 : Int32)
      · simp only [if_pos hc9_10]
        refine Done.of (T' := T9) (g' := (mkF m 44 #[.val (.int p1), .val (.ref a2), .val (.int p3), .val (.int ((((p1.toUInt32 >>> ((7 : Int32) &&& 31).toUInt32).toInt32).toUInt32 >>> ((7 : Int32) &&& 31).toUInt32).toInt32)), .val (.int (((p3 + (1 : Int32)) + (1 : Int32)) + (1 : Int32)))] [(.int (((((p1.toUInt32 >>> ((7 : Int32) &&& 31).toUInt32).toInt32).toUInt32 >>> ((7 : Int32) &&& 31).toUInt32).toInt32).toInt8.toInt32)), (.int ((p3 + (1 : Int32)) + (1 : Int32))), (.ref a2)])) (fun t k => ?_) ?_
        · show Steps p.tables e below (T9.setTop (mkF m 9 #[.val (.int p1), .val (.ref a2), .val (.int p3), .val (.int ((((p1.toUInt32 >>> ((7 : Int32) &&& 31).toUInt32).toInt32).toUInt32 >>> ((7 : Int32) &&& 31).toUInt32).toInt32)), .val (.int ((p3 + (1 : Int32)) + (1 : Int32)))] [(.int (((((p1.toUInt32 >>> ((7 : Int32) &&& 31).toUInt32).toInt32).toUInt32 >>> ((7 : Int32) &&& 31).toUInt32).toInt32) &&& (-128 : Int32)))])) t
          refine XS.ifYes X9.here hx rfl (pc0 := 9) (pc' := 36) rfl (hb hby d1_9) rfl ((if0 _ _).trans (teq hc9_10).1) (by decide) (by decide) ?_
          show Steps p.tables e below (T9.setTop (mkF m 36 #[.val (.int p1), .val (.ref a2), .val (.int p3), .val (.int ((((p1.toUInt32 >>> ((7 : Int32) &&& 31).toUInt32).toInt32).toUInt32 >>> ((7 : Int32) &&& 31).toUInt32).toInt32)), .val (.int ((p3 + (1 : Int32)) + (1 : Int32)))] [])) t
          refine XS.aloadN X9.here hx rfl (hb hby d1_36) rfl rfl ?_
          show Steps p.tables e below (T9.setTop (mkF m 37 #[.val (.int p1), .val (.ref a2), .val (.int p3), .val (.int ((((p1.toUInt32 >>> ((7 : Int32) &&& 31).toUInt32).toInt32).toUInt32 >>> ((7 : Int32) &&& 31).toUInt32).toInt32)), .val (.int ((p3 + (1 : Int32)) + (1 : Int32)))] [(.ref a2)])) t
          refine XS.iload X9.here hx rfl (hb hby d1_37) rfl ?_
          show Steps p.tables e below (T9.setTop (mkF m 39 #[.val (.int p1), .val (.ref a2), .val (.int p3), .val (.int ((((p1.toUInt32 >>> ((7 : Int32) &&& 31).toUInt32).toInt32).toUInt32 >>> ((7 : Int32) &&& 31).toUInt32).toInt32)), .val (.int ((p3 + (1 : Int32)) + (1 : Int32)))] [(.int ((p3 + (1 : Int32)) + (1 : Int32))), (.ref a2)])) t
          refine XS.iinc X9.here hx rfl (hb hby d1_39) rfl (l' := #[.val (.int p1), .val (.ref a2), .val (.int p3), .val (.int ((((p1.toUInt32 >>> ((7 : Int32) &&& 31).toUInt32).toInt32).toUInt32 >>> ((7 : Int32) &&& 31).toUInt32).toInt32)), .val (.int (((p3 + (1 : Int32)) + (1 : Int32)) + (1 : Int32)))]) rfl ?_
          show Steps p.tables e below (T9.setTop (mkF m 42 #[.val (.int p1), .val (.ref a2), .val (.int p3), .val (.int ((((p1.toUInt32 >>> ((7 : Int32) &&& 31).toUInt32).toInt32).toUInt32 >>> ((7 : Int32) &&& 31).toUInt32).toInt32)), .val (.int (((p3 + (1 : Int32)) + (1 : Int32)) + (1 : Int32)))] [(.int ((p3 + (1 : Int32)) + (1 : Int32))), (.ref a2)])) t
          refine XS.iloadN X9.here hx rfl (hb hby d1_42) rfl ?_
          show Steps p.tables e below (T9.setTop (mkF m 43 #[.val (.int p1), .val (.ref a2), .val (.int p3), .val (.int ((((p1.toUInt32 >>> ((7 : Int32) &&& 31).toUInt32).toInt32).toUInt32 >>> ((7 : Int32) &&& 31).toUInt32).toInt32)), .val (.int (((p3 + (1 : Int32)) + (1 : Int32)) + (1 : Int32)))] [(.int ((((p1.toUInt32 >>> ((7 : Int32) &&& 31).toUInt32).toInt32).toUInt32 >>> ((7 : Int32) &&& 31).toUInt32).toInt32)), (.int ((p3 + (1 : Int32)) + (1 : Int32))), (.ref a2)])) t
          refine XS.i2b X9.here hx rfl (hb hby d1_43) rfl ?_
          exact k
        obtain ⟨cl_o13, Ar_o13, q_o13, S_o13, Nn_o13, H_o13, G_o13⟩ := id V9
        have hin12 : ¬ (((p3 + (1 : Int32)) + (1 : Int32)) < 0 ∨ cl_o13.slots.size ≤ (((p3 + (1 : Int32)) + (1 : Int32))).toNatClampNeg) := inb_of S_o13 (own_ix2 hat)
        obtain ⟨T12, h12, X12, e12, W12, st12⟩ := stB X9 hx hZ e9 Ar_o13 (j := ((p3 + (1 : Int32)) + (1 : Int32))) hin12 (g := (mkF m 44 #[.val (.int p1), .val (.ref a2), .val (.int p3), .val (.int ((((p1.toUInt32 >>> ((7 : Int32) &&& 31).toUInt32).toInt32).toUInt32 >>> ((7 : Int32) &&& 31).toUInt32).toInt32)), .val (.int (((p3 + (1 : Int32)) + (1 : Int32)) + (1 : Int32)))] [(.int (((((p1.toUInt32 >>> ((7 : Int32) &&& 31).toUInt32).toInt32).toUInt32 >>> ((7 : Int32) &&& 31).toUInt32).toInt32).toInt8.toInt32)), (.int ((p3 + (1 : Int32)) + (1 : Int32))), (.ref a2)])) rfl rfl (hb hby d1_44)
        have V12 : Arv Z h12 a2 kc .byte (8 : Int32) ((List.range 8).map fun j => Value.int ((fun j => if j = (((p3 + (1 : Int32)) + (1 : Int32))).toNatClampNeg then ((((((p1.toUInt32 >>> ((7 : Int32) &&& 31).toUInt32).toInt32).toUInt32 >>> ((7 : Int32) &&& 31).toUInt32).toInt32).toInt8.toInt32).toInt8.toInt32) else ((fun j => if j = ((p3 + (1 : Int32))).toNatClampNeg then ((((((p1.toUInt32 >>> ((7 : Int32) &&& 31).toUInt32).toInt32) &&& (127 : Int32)) ||| (128 : Int32)).toInt8.toInt32).toInt8.toInt32) else ((fun j => if j = (p3).toNatClampNeg then ((((p1 &&& (127 : Int32)) ||| (128 : Int32)).toInt8.toInt32).toInt8.toInt32) else (f j)) j)) j)) j)) (.int (0 : Int32)) := own_setA (Arv.set Ar_o13 q_o13 S_o13 Nn_o13 H_o13 G_o13 (fits_nar_byte _) W12 (((p3 + (1 : Int32)) + (1 : Int32))).toNatClampNeg rfl (own_len S_o13 hin12))
        have N12 := Fr.snoc X12 N9 g_a2
        have K12 : Keep h0 h12 [a2] := K9.wr W12 (Or.inl (List.mem_of_getElem? (i := 0) rfl))
        refine Done.of (g' := (mkF m 45 #[.val (.int p1), .val (.ref a2), .val (.int p3), .val (.int ((((p1.toUInt32 >>> ((7 : Int32) &&& 31).toUInt32).toInt32).toUInt32 >>> ((7 : Int32) &&& 31).toUInt32).toInt32)), .val (.int (((p3 + (1 : Int32)) + (1 : Int32)) + (1 : Int32)))] [])) st12 ?_
        refine Done.of (T' := T12) (g' := (mkF m 47 #[.val (.int p1), .val (.ref a2), .val (.int p3), .val (.int ((((p1.toUInt32 >>> ((7 : Int32) &&& 31).toUInt32).toInt32).toUInt32 >>> ((7 : Int32) &&& 31).toUInt32).toInt32)), .val (.int (((p3 + (1 : Int32)) + (1 : Int32)) + (1 : Int32)))] [(.int (((p3 + (1 : Int32)) + (1 : Int32)) + (1 : Int32)))])) (fun t k => ?_) ?_
        · show Steps p.tables e below (T12.setTop (mkF m 45 #[.val (.int p1), .val (.ref a2), .val (.int p3), .val (.int ((((p1.toUInt32 >>> ((7 : Int32) &&& 31).toUInt32).toInt32).toUInt32 >>> ((7 : Int32) &&& 31).toUInt32).toInt32)), .val (.int (((p3 + (1 : Int32)) + (1 : Int32)) + (1 : Int32)))] [])) t
          refine XS.iload X12.here hx rfl (hb hby d1_45) rfl ?_
          exact k
        exact doneI X12 hx hret hlk (hb hby d1_47) (by show _ ∧ _; rw [e12]; exact ⟨rfl, N12, K12, V12⟩) (by decide) (by decide)
      · simp only [if_neg hc9_10]
        refine Done.of (T' := T9) (g' := (mkF m 27 #[.val (.int p1), .val (.ref a2), .val (.int p3), .val (.int ((((p1.toUInt32 >>> ((7 : Int32) &&& 31).toUInt32).toInt32).toUInt32 >>> ((7 : Int32) &&& 31).toUInt32).toInt32)), .val (.int (((p3 + (1 : Int32)) + (1 : Int32)) + (1 : Int32)))] [(.int (((((((p1.toUInt32 >>> ((7 : Int32) &&& 31).toUInt32).toInt32).toUInt32 >>> ((7 : Int32) &&& 31).toUInt32).toInt32) &&& (127 : Int32)) ||| (128 : Int32)).toInt8.toInt32)), (.int ((p3 + (1 : Int32)) + (1 : Int32))), (.ref a2)])) (fun t k => ?_) ?_
        · show Steps p.tables e below (T9.setTop (mkF m 9 #[.val (.int p1), .val (.ref a2), .val (.int p3), .val (.int ((((p1.toUInt32 >>> ((7 : Int32) &&& 31).toUInt32).toInt32).toUInt32 >>> ((7 : Int32) &&& 31).toUInt32).toInt32)), .val (.int ((p3 + (1 : Int32)) + (1 : Int32)))] [(.int (((((p1.toUInt32 >>> ((7 : Int32) &&& 31).toUInt32).toInt32).toUInt32 >>> ((7 : Int32) &&& 31).toUInt32).toInt32) &&& (-128 : Int32)))])) t
          refine XS.ifNo X9.here hx rfl (hb hby d1_9) rfl ((if0 _ _).trans (feq hc9_10).1) ?_
          show Steps p.tables e below (T9.setTop (mkF m 12 #[.val (.int p1), .val (.ref a2), .val (.int p3), .val (.int ((((p1.toUInt32 >>> ((7 : Int32) &&& 31).toUInt32).toInt32).toUInt32 >>> ((7 : Int32) &&& 31).toUInt32).toInt32)), .val (.int ((p3 + (1 : Int32)) + (1 : Int32)))] [])) t
          refine XS.aloadN X9.here hx rfl (hb hby d1_12) rfl rfl ?_
          show Steps p.tables e below (T9.setTop (mkF m 13 #[.val (.int p1), .val (.ref a2), .val (.int p3), .val (.int ((((p1.toUInt32 >>> ((7 : Int32) &&& 31).toUInt32).toInt32).toUInt32 >>> ((7 : Int32) &&& 31).toUInt32).toInt32)), .val (.int ((p3 + (1 : Int32)) + (1 : Int32)))] [(.ref a2)])) t
          refine XS.iload X9.here hx rfl (hb hby d1_13) rfl ?_
          show Steps p.tables e below (T9.setTop (mkF m 15 #[.val (.int p1), .val (.ref a2), .val (.int p3), .val (.int ((((p1.toUInt32 >>> ((7 : Int32) &&& 31).toUInt32).toInt32).toUInt32 >>> ((7 : Int32) &&& 31).toUInt32).toInt32)), .val (.int ((p3 + (1 : Int32)) + (1 : Int32)))] [(.int ((p3 + (1 : Int32)) + (1 : Int32))), (.ref a2)])) t
          refine XS.iinc X9.here hx rfl (hb hby d1_15) rfl (l' := #[.val (.int p1), .val (.ref a2), .val (.int p3), .val (.int ((((p1.toUInt32 >>> ((7 : Int32) &&& 31).toUInt32).toInt32).toUInt32 >>> ((7 : Int32) &&& 31).toUInt32).toInt32)), .val (.int (((p3 + (1 : Int32)) + (1 : Int32)) + (1 : Int32)))]) rfl ?_
          show Steps p.tables e below (T9.setTop (mkF m 18 #[.val (.int p1), .val (.ref a2), .val (.int p3), .val (.int ((((p1.toUInt32 >>> ((7 : Int32) &&& 31).toUInt32).toInt32).toUInt32 >>> ((7 : Int32) &&& 31).toUInt32).toInt32)), .val (.int (((p3 + (1 : Int32)) + (1 : Int32)) + (1 : Int32)))] [(.int ((p3 + (1 : Int32)) + (1 : Int32))), (.ref a2)])) t
          refine XS.iloadN X9.here hx rfl (hb hby d1_18) rfl ?_
          show Steps p.tables e below (T9.setTop (mkF m 19 #[.val (.int p1), .val (.ref a2), .val (.int p3), .val (.int ((((p1.toUInt32 >>> ((7 : Int32) &&& 31).toUInt32).toInt32).toUInt32 >>> ((7 : Int32) &&& 31).toUInt32).toInt32)), .val (.int (((p3 + (1 : Int32)) + (1 : Int32)) + (1 : Int32)))] [(.int ((((p1.toUInt32 >>> ((7 : Int32) &&& 31).toUInt32).toInt32).toUInt32 >>> ((7 : Int32) &&& 31).toUInt32).toInt32)), (.int ((p3 + (1 : Int32)) + (1 : Int32))), (.ref a2)])) t
          refine XS.bipush X9.here hx rfl (hb hby d1_19) ?_
          show Steps p.tables e below (T9.setTop (mkF m 21 #[.val (.int p1), .val (.ref a2), .val (.int p3), .val (.int ((((p1.toUInt32 >>> ((7 : Int32) &&& 31).toUInt32).toInt32).toUInt32 >>> ((7 : Int32) &&& 31).toUInt32).toInt32)), .val (.int (((p3 + (1 : Int32)) + (1 : Int32)) + (1 : Int32)))] [(.int (127 : Int32)), (.int ((((p1.toUInt32 >>> ((7 : Int32) &&& 31).toUInt32).toInt32).toUInt32 >>> ((7 : Int32) &&& 31).toUInt32).toInt32)), (.int ((p3 + (1 : Int32)) + (1 : Int32))), (.ref a2)])) t
          refine XS.iand X9.here hx rfl (hb hby d1_21) rfl ?_
          show Steps p.tables e below (T9.setTop (mkF m 22 #[.val (.int p1), .val (.ref a2), .val (.int p3), .val (.int ((((p1.toUInt32 >>> ((7 : Int32) &&& 31).toUInt32).toInt32).toUInt32 >>> ((7 : Int32) &&& 31).toUInt32).toInt32)), .val (.int (((p3 + (1 : Int32)) + (1 : Int32)) + (1 : Int32)))] [(.int (((((p1.toUInt32 >>> ((7 : Int32) &&& 31).toUInt32).toInt32).toUInt32 >>> ((7 : Int32) &&& 31).toUInt32).toInt32) &&& (127 : Int32))), (.int ((p3 + (1 : Int32)) + (1 : Int32))), (.ref a2)])) t
          refine XS.sipush X9.here hx rfl (hb hby d1_22) ?_
          show Steps p.tables e below (T9.setTop (mkF m 25 #[.val (.int p1), .val (.ref a2), .val (.int p3), .val (.int ((((p1.toUInt32 >>> ((7 : Int32) &&& 31).toUInt32).toInt32).toUInt32 >>> ((7 : Int32) &&& 31).toUInt32).toInt32)), .val (.int (((p3 + (1 : Int32)) + (1 : Int32)) + (1 : Int32)))] [(.int (128 : Int32)), (.int (((((p1.toUInt32 >>> ((7 : Int32) &&& 31).toUInt32).toInt32).toUInt32 >>> ((7 : Int32) &&& 31).toUInt32).toInt32) &&& (127 : Int32))), (.int ((p3 + (1 : Int32)) + (1 : Int32))), (.ref a2)])) t
          refine XS.ior X9.here hx rfl (hb hby d1_25) rfl ?_
          show Steps p.tables e below (T9.setTop (mkF m 26 #[.val (.int p1), .val (.ref a2), .val (.int p3), .val (.int ((((p1.toUInt32 >>> ((7 : Int32) &&& 31).toUInt32).toInt32).toUInt32 >>> ((7 : Int32) &&& 31).toUInt32).toInt32)), .val (.int (((p3 + (1 : Int32)) + (1 : Int32)) + (1 : Int32)))] [(.int ((((((p1.toUInt32 >>> ((7 : Int32) &&& 31).toUInt32).toInt32).toUInt32 >>> ((7 : Int32) &&& 31).toUInt32).toInt32) &&& (127 : Int32)) ||| (128 : Int32))), (.int ((p3 + (1 : Int32)) + (1 : Int32))), (.ref a2)])) t
          refine XS.i2b X9.here hx rfl (hb hby d1_26) rfl ?_
          exact k
        obtain ⟨cl_o15, Ar_o15, q_o15, S_o15, Nn_o15, H_o15, G_o15⟩ := id V9
        have hin14 : ¬ (((p3 + (1 : Int32)) + (1 : Int32)) < 0 ∨ cl_o15.slots.size ≤ (((p3 + (1 : Int32)) + (1 : Int32))).toNatClampNeg) := inb_of S_o15 (own_ix2 hat)
        obtain ⟨T14, h14, X14, e14, W14, st14⟩ := stB X9 hx hZ e9 Ar_o15 (j := ((p3 + (1 : Int32)) + (1 : Int32))) hin14 (g := (mkF m 27 #[.val (.int p1), .val (.ref a2), .val (.int p3), .val (.int ((((p1.toUInt32 >>> ((7 : Int32) &&& 31).toUInt32).toInt32).toUInt32 >>> ((7 : Int32) &&& 31).toUInt32).toInt32)), .val (.int (((p3 + (1 : Int32)) + (1 : Int32)) + (1 : Int32)))] [(.int (((((((p1.toUInt32 >>> ((7 : Int32) &&& 31).toUInt32).toInt32).toUInt32 >>> ((7 : Int32) &&& 31).toUInt32).toInt32) &&& (127 : Int32)) ||| (128 : Int32)).toInt8.toInt32)), (.int ((p3 + (1 : Int32)) + (1 : Int32))), (.ref a2)])) rfl rfl (hb hby d1_27)
        have V14 : Arv Z h14 a2 kc .byte (8 : Int32) ((List.range 8).map fun j => Value.int ((fun j => if j = (((p3 + (1 : Int32)) + (1 : Int32))).toNatClampNeg then ((((((((p1.toUInt32 >>> ((7 : Int32) &&& 31).toUInt32).toInt32).toUInt32 >>> ((7 : Int32) &&& 31).toUInt32).toInt32) &&& (127 : Int32)) ||| (128 : Int32)).toInt8.toInt32).toInt8.toInt32) else ((fun j => if j = ((p3 + (1 : Int32))).toNatClampNeg then ((((((p1.toUInt32 >>> ((7 : Int32) &&& 31).toUInt32).toInt32) &&& (127 : Int32)) ||| (128 : Int32)).toInt8.toInt32).toInt8.toInt32) else ((fun j => if j = (p3).toNatClampNeg then ((((p1 &&& (127 : Int32)) ||| (128 : Int32)).toInt8.toInt32).toInt8.toInt32) else (f j)) j)) j)) j)) (.int (0 : Int32)) := own_setA (Arv.set Ar_o15 q_o15 S_o15 Nn_o15 H_o15 G_o15 (fits_nar_byte _) W14 (((p3 + (1 : Int32)) + (1 : Int32))).toNatClampNeg rfl (own_len S_o15 hin14))
        have N14 := Fr.snoc X14 N9 g_a2
        have K14 : Keep h0 h14 [a2] := K9.wr W14 (Or.inl (List.mem_of_getElem? (i := 0) rfl))
        refine Done.of (g' := (mkF m 28 #[.val (.int p1), .val (.ref a2), .val (.int p3), .val (.int ((((p1.toUInt32 >>> ((7 : Int32) &&& 31).toUInt32).toInt32).toUInt32 >>> ((7 : Int32) &&& 31).toUInt32).toInt32)), .val (.int (((p3 + (1 : Int32)) + (1 : Int32)) + (1 : Int32)))] [])) st14 ?_
        refine Done.of (T' := T14) (g' := (mkF m 9 #[.val (.int p1), .val (.ref a2), .val (.int p3), .val (.int ((((((p1.toUInt32 >>> ((7 : Int32) &&& 31).toUInt32).toInt32).toUInt32 >>> ((7 : Int32) &&& 31).toUInt32).toInt32).toUInt32 >>> ((7 : Int32) &&& 31).toUInt32).toInt32)), .val (.int (((p3 + (1 : Int32)) + (1 : Int32)) + (1 : Int32)))] [(.int (((((((p1.toUInt32 >>> ((7 : Int32) &&& 31).toUInt32).toInt32).toUInt32 >>> ((7 : Int32) &&& 31).toUInt32).toInt32).toUInt32 >>> ((7 : Int32) &&& 31).toUInt32).toInt32) &&& (-128 : Int32)))])) (fun t k => ?_) ?_
        · show Steps p.tables e below (T14.setTop (mkF m 28 #[.val (.int p1), .val (.ref a2), .val (.int p3), .val (.int ((((p1.toUInt32 >>> ((7 : Int32) &&& 31).toUInt32).toInt32).toUInt32 >>> ((7 : Int32) &&& 31).toUInt32).toInt32)), .val (.int (((p3 + (1 : Int32)) + (1 : Int32)) + (1 : Int32)))] [])) t
          refine XS.iloadN X14.here hx rfl (hb hby d1_28) rfl ?_
          show Steps p.tables e below (T14.setTop (mkF m 29 #[.val (.int p1), .val (.ref a2), .val (.int p3), .val (.int ((((p1.toUInt32 >>> ((7 : Int32) &&& 31).toUInt32).toInt32).toUInt32 >>> ((7 : Int32) &&& 31).toUInt32).toInt32)), .val (.int (((p3 + (1 : Int32)) + (1 : Int32)) + (1 : Int32)))] [(.int ((((p1.toUInt32 >>> ((7 : Int32) &&& 31).toUInt32).toInt32).toUInt32 >>> ((7 : Int32) &&& 31).toUInt32).toInt32))])) t
          refine XS.bipush X14.here hx rfl (hb hby d1_29) ?_
          show Steps p.tables e below (T14.setTop (mkF m 31 #[.val (.int p1), .val (.ref a2), .val (.int p3), .val (.int ((((p1.toUInt32 >>> ((7 : Int32) &&& 31).toUInt32).toInt32).toUInt32 >>> ((7 : Int32) &&& 31).toUInt32).toInt32)), .val (.int (((p3 + (1 : Int32)) + (1 : Int32)) + (1 : Int32)))] [(.int (7 : Int32)), (.int ((((p1.toUInt32 >>> ((7 : Int32) &&& 31).toUInt32).toInt32).toUInt32 >>> ((7 : Int32) &&& 31).toUInt32).toInt32))])) t
          refine XS.iushr X14.here hx rfl (hb hby d1_31) rfl ?_
          show Steps p.tables e below (T14.setTop (mkF m 32 #[.val (.int p1), .val (.ref a2), .val (.int p3), .val (.int ((((p1.toUInt32 >>> ((7 : Int32) &&& 31).toUInt32).toInt32).toUInt32 >>> ((7 : Int32) &&& 31).toUInt32).toInt32)), .val (.int (((p3 + (1 : Int32)) + (1 : Int32)) + (1 : Int32)))] [(.int ((((((p1.toUInt32 >>> ((7 : Int32) &&& 31).toUInt32).toInt32).toUInt32 >>> ((7 : Int32) &&& 31).toUInt32).toInt32).toUInt32 >>> ((7 : Int32) &&& 31).toUInt32).toInt32))])) t
          refine XS.istoreN X14.here hx rfl (hb hby d1_32) rfl (l' := #[.val (.int p1), .val (.ref a2), .val (.int p3), .val (.int ((((((p1.toUInt32 >>> ((7 : Int32) &&& 31).toUInt32).toInt32).toUInt32 >>> ((7 : Int32) &&& 31).toUInt32).toInt32).toUInt32 >>> ((7 : Int32) &&& 31).toUInt32).toInt32)), .val (.int (((p3 + (1 : Int32)) + (1 : Int32)) + (1 : Int32)))]) rfl ?_
          show Steps p.tables e below (T14.setTop (mkF m 33 #[.val (.int p1), .val (.ref a2), .val (.int p3), .val (.int ((((((p1.toUInt32 >>> ((7 : Int32) &&& 31).toUInt32).toInt32).toUInt32 >>> ((7 : Int32) &&& 31).toUInt32).toInt32).toUInt32 >>> ((7 : Int32) &&& 31).toUInt32).toInt32)), .val (.int (((p3 + (1 : Int32)) + (1 : Int32)) + (1 : Int32)))] [])) t
          refine XS.goto X14.here hx rfl (pc0 := 33) (pc' := 5) rfl (hb hby d1_33) (by decide) (by decide) ?_
          show Steps p.tables e below (T14.setTop (mkF m 5 #[.val (.int p1), .val (.ref a2), .val (.int p3), .val (.int ((((((p1.toUInt32 >>> ((7 : Int32) &&& 31).toUInt32).toInt32).toUInt32 >>> ((7 : Int32) &&& 31).toUInt32).toInt32).toUInt32 >>> ((7 : Int32) &&& 31).toUInt32).toInt32)), .val (.int (((p3 + (1 : Int32)) + (1 : Int32)) + (1 : Int32)))] [])) t
          refine XS.iloadN X14.here hx rfl (hb hby d1_5) rfl ?_
          show Steps p.tables e below (T14.setTop (mkF m 6 #[.val (.int p1), .val (.ref a2), .val (.int p3), .val (.int ((((((p1.toUInt32 >>> ((7 : Int32) &&& 31).toUInt32).toInt32).toUInt32 >>> ((7 : Int32) &&& 31).toUInt32).toInt32).toUInt32 >>> ((7 : Int32) &&& 31).toUInt32).toInt32)), .val (.int (((p3 + (1 : Int32)) + (1 : Int32)) + (1 : Int32)))] [(.int ((((((p1.toUInt32 >>> ((7 : Int32) &&& 31).toUInt32).toInt32).toUInt32 >>> ((7 : Int32) &&& 31).toUInt32).toInt32).toUInt32 >>> ((7 : Int32) &&& 31).toUInt32).toInt32))])) t
          refine XS.bipush X14.here hx rfl (hb hby d1_6) ?_
          show Steps p.tables e below (T14.setTop (mkF m 8 #[.val (.int p1), .val (.ref a2), .val (.int p3), .val (.int ((((((p1.toUInt32 >>> ((7 : Int32) &&& 31).toUInt32).toInt32).toUInt32 >>> ((7 : Int32) &&& 31).toUInt32).toInt32).toUInt32 >>> ((7 : Int32) &&& 31).toUInt32).toInt32)), .val (.int (((p3 + (1 : Int32)) + (1 : Int32)) + (1 : Int32)))] [(.int (-128 : Int32)), (.int ((((((p1.toUInt32 >>> ((7 : Int32) &&& 31).toUInt32).toInt32).toUInt32 >>> ((7 : Int32) &&& 31).toUInt32).toInt32).toUInt32 >>> ((7 : Int32) &&& 31).toUInt32).toInt32))])) t
          refine XS.iand X14.here hx rfl (hb hby d1_8) rfl ?_
          exact k
        by_cases hc9_15 : (((((((p1.toUInt32 >>> ((7 : Int32) &&& 31).toUInt32).toInt32).toUInt32 >>> ((7 : Int32) &&& 31).toUInt32).toInt32).toUInt32 >>> ((7 : Int32) &&& 31).toUInt32).toInt32) &&& (-128 : Int32)) = (0 : Int32)
        · simp only [if_pos hc9_15]
          refine Done.of (T' := T14) (g' := (mkF m 44 #[.val (.int p1), .val (.ref a2), .val (.int p3), .val (.int ((((((p1.toUInt32 >>> ((7 : Int32) &&& 31).toUInt32).toInt32).toUInt32 >>> ((7 : Int32) &&& 31).toUInt32).toInt32).toUInt32 >>> ((7 : Int32) &&& 31).toUInt32).toInt32)), .val (.int ((((p3 + (1 : Int32)) + (1 : Int32)) + (1 : Int32)) + (1 : Int32)))] [(.int (((((((p1.toUInt32 >>> ((7 : Int32) &&& 31).toUInt32).toInt32).toUInt32 >>> ((7 : Int32) &&& 31).toUInt32).toInt32).toUInt32 >>> ((7 : Int32) &&& 31).toUInt32).toInt32).toInt8.toInt32)), (.int (((p3 + (1 : Int32)) + (1 : Int32)) + (1 : Int32))), (.ref a2)])) (fun t k => ?_) ?_
          · show Steps p.tables e below (T14.setTop (mkF m 9 #[.val (.int p1), .val (.ref a2), .val (.int p3), .val (.int ((((((p1.toUInt32 >>> ((7 : Int32) &&& 31).toUInt32).toInt32).toUInt32 >>> ((7 : Int32) &&& 31).toUInt32).toInt32).toUInt32 >>> ((7 : Int32) &&& 31).toUInt32).toInt32)), .val (.int (((p3 + (1 : Int32)) + (1 : Int32)) + (1 : Int32)))] [(.int (((((((p1.toUInt32 >>> ((7 : Int32) &&& 31).toUInt32).toInt32).toUInt32 >>> ((7 : Int32) &&& 31).toUInt32).toInt32).toUInt32 >>> ((7 : Int32) &&& 31).toUInt32).toInt32) &&& (-128 : Int32)))])) t
            refine XS.ifYes X14.here hx rfl (pc0 := 9) (pc' := 36) rfl (hb hby d1_9) rfl ((if0 _ _).trans (teq hc9_15).1) (by decide) (by decide) ?_
            show Steps p.tables e below (T14.setTop (mkF m 36 #[.val (.int p1), .val (.ref a2), .val (.int p3), .val (.int ((((((p1.toUInt32 >>> ((7 : Int32) &&& 31).toUInt32).toInt32).toUInt32 >>> ((7 : Int32) &&& 31).toUInt32).toInt32).toUInt32 >>> ((7 : Int32) &&& 31).toUInt32).toInt32)), .val (.int (((p3 + (1 : Int32)) + (1 : Int32)) + (1 : Int32)))] [])) t
            refine XS.aloadN X14.here hx rfl (hb hby d1_36) rfl rfl ?_
            show Steps p.tables e below (T14.setTop (mkF m 37 #[.val (.int p1), .val (.ref a2), .val (.int p3), .val (.int ((((((p1.toUInt32 >>> ((7 : Int32) &&& 31).toUInt32).toInt32).toUInt32 >>> ((7 : Int32) &&& 31).toUInt32).toInt32).toUInt32 >>> ((7 : Int32) &&& 31).toUInt32).toInt32)), .val (.int (((p3 + (1 : Int32)) + (1 : Int32)) + (1 : Int32)))] [(.ref a2)])) t
            refine XS.iload X14.here hx rfl (hb hby d1_37) rfl ?_
            show Steps p.tables e below (T14.setTop (mkF m 39 #[.val (.int p1), .val (.ref a2), .val (.int p3), .val (.int ((((((p1.toUInt32 >>> ((7 : Int32) &&& 31).toUInt32).toInt32).toUInt32 >>> ((7 : Int32) &&& 31).toUInt32).toInt32).toUInt32 >>> ((7 : Int32) &&& 31).toUInt32).toInt32)), .val (.int (((p3 + (1 : Int32)) + (1 : Int32)) + (1 : Int32)))] [(.int (((p3 + (1 : Int32)) + (1 : Int32)) + (1 : Int32))), (.ref a2)])) t
            refine XS.iinc X14.here hx rfl (hb hby d1_39) rfl (l' := #[.val (.int p1), .val (.ref a2), .val (.int p3), .val (.int ((((((p1.toUInt32 >>> ((7 : Int32) &&& 31).toUInt32).toInt32).toUInt32 >>> ((7 : Int32) &&& 31).toUInt32).toInt32).toUInt32 >>> ((7 : Int32) &&& 31).toUInt32).toInt32)), .val (.int ((((p3 + (1 : Int32)) + (1 : Int32)) + (1 : Int32)) + (1 : Int32)))]) rfl ?_
            show Steps p.tables e below (T14.setTop (mkF m 42 #[.val (.int p1), .val (.ref a2), .val (.int p3), .val (.int ((((((p1.toUInt32 >>> ((7 : Int32) &&& 31).toUInt32).toInt32).toUInt32 >>> ((7 : Int32) &&& 31).toUInt32).toInt32).toUInt32 >>> ((7 : Int32) &&& 31).toUInt32).toInt32)), .val (.int ((((p3 + (1 : Int32)) + (1 : Int32)) + (1 : Int32)) + (1 : Int32)))] [(.int (((p3 + (1 : Int32)) + (1 : Int32)) + (1 : Int32))), (.ref a2)])) t
            refine XS.iloadN X14.here hx rfl (hb hby d1_42) rfl ?_
            show Steps p.tables e below (T14.setTop (mkF m 43 #[.val (.int p1), .val (.ref a2), .val (.int p3), .val (.int ((((((p1.toUInt32 >>> ((7 : Int32) &&& 31).toUInt32).toInt32).toUInt32 >>> ((7 : Int32) &&& 31).toUInt32).toInt32).toUInt32 >>> ((7 : Int32) &&& 31).toUInt32).toInt32)), .val (.int ((((p3 + (1 : Int32)) + (1 : Int32)) + (1 : Int32)) + (1 : Int32)))] [(.int ((((((p1.toUInt32 >>> ((7 : Int32) &&& 31).toUInt32).toInt32).toUInt32 >>> ((7 : Int32) &&& 31).toUInt32).toInt32).toUInt32 >>> ((7 : Int32) &&& 31).toUInt32).toInt32)), (.int (((p3 + (1 : Int32)) + (1 : Int32)) + (1 : Int32))), (.ref a2)])) t
            refine XS.i2b X14.here hx rfl (hb hby d1_43) rfl ?_
            exact k
          obtain ⟨cl_o18, Ar_o18, q_o18, S_o18, Nn_o18, H_o18, G_o18⟩ := id V14
          have hin17 : ¬ ((((p3 + (1 : Int32)) + (1 : Int32)) + (1 : Int32)) < 0 ∨ cl_o18.slots.size ≤ ((((p3 + (1 : Int32)) + (1 : Int32)) + (1 : Int32))).toNatClampNeg) := inb_of S_o18 (own_ix3 hat)
          obtain ⟨T17, h17, X17, e17, W17, st17⟩ := stB X14 hx hZ e14 Ar_o18 (j := (((p3 + (1 : Int32)) + (1 : Int32)) + (1 : Int32))) hin17 (g := (mkF m 44 #[.val (.int p1), .val (.ref a2), .val (.int p3), .val (.int ((((((p1.toUInt32 >>> ((7 : Int32) &&& 31).toUInt32).toInt32).toUInt32 >>> ((7 : Int32) &&& 31).toUInt32).toInt32).toUInt32 >>> ((7 : Int32) &&& 31).toUInt32).toInt32)), .val (.int ((((p3 + (1 : Int32)) + (1 : Int32)) + (1 : Int32)) + (1 : Int32)))] [(.int (((((((p1.toUInt32 >>> ((7 : Int32) &&& 31).toUInt32).toInt32).toUInt32 >>> ((7 : Int32) &&& 31).toUInt32).toInt32).toUInt32 >>> ((7 : Int32) &&& 31).toUInt32).toInt32).toInt8.toInt32)), (.int (((p3 + (1 : Int32)) + (1 : Int32)) + (1 : Int32))), (.ref a2)])) rfl rfl (hb hby d1_44)
          have V17 : Arv Z h17 a2 kc .byte (8 : Int32) ((List.range 8).map fun j => Value.int ((fun j => if j = ((((p3 + (1 : Int32)) + (1 : Int32)) + (1 : Int32))).toNatClampNeg then ((((((((p1.toUInt32 >>> ((7 : Int32) &&& 31).toUInt32).toInt32).toUInt32 >>> ((7 : Int32) &&& 31).toUInt32).toInt32).toUInt32 >>> ((7 : Int32) &&& 31).toUInt32).toInt32).toInt8.toInt32).toInt8.toInt32) else ((fun j => if j = (((p3 + (1 : Int32)) + (1 : Int32))).toNatClampNeg then ((((((((p1.toUInt32 >>> ((7 : Int32) &&& 31).toUInt32).toInt32).toUInt32 >>> ((7 : Int32) &&& 31).toUInt32).toInt32) &&& (127 : Int32)) ||| (128 : Int32)).toInt8.toInt32).toInt8.toInt32) else ((fun j => if j = ((p3 + (1 : Int32))).toNatClampNeg then ((((((p1.toUInt32 >>> ((7 : Int32) &&& 31).toUInt32).toInt32) &&& (127 : Int32)) ||| (128 : Int32)).toInt8.toInt32).toInt8.toInt32) else ((fun j => if j = (p3).toNatClampNeg then ((((p1 &&& (127 : Int32)) ||| (128 : Int32)).toInt8.toInt32).toInt8.toInt32) else (f j)) j)) j)) j)) j)) (.int (0 : Int32)) := own_setA (Arv.set Ar_o18 q_o18 S_o18 Nn_o18 H_o18 G_o18 (fits_nar_byte _) W17 ((((p3 + (1 : Int32)) + (1 : Int32)) + (1 : Int32))).toNatClampNeg rfl (own_len S_o18 hin17))
          have N17 := Fr.snoc X17 N14 g_a2
          have K17 : Keep h0 h17 [a2] := K14.wr W17 (Or.inl (List.mem_of_getElem? (i := 0) rfl))
          refine Done.of (g' := (mkF m 45 #[.val (.int p1), .val (.ref a2), .val (.int p3), .val (.int ((((((p1.toUInt32 >>> ((7 : Int32) &&& 31).toUInt32).toInt32).toUInt32 >>> ((7 : Int32) &&& 31).toUInt32).toInt32).toUInt32 >>> ((7 : Int32) &&& 31).toUInt32).toInt32)), .val (.int ((((p3 + (1 : Int32)) + (1 : Int32)) + (1 : Int32)) + (1 : Int32)))] [])) st17 ?_
          refine Done.of (T' := T17) (g' := (mkF m 47 #[.val (.int p1), .val (.ref a2), .val (.int p3), .val (.int ((((((p1.toUInt32 >>> ((7 : Int32) &&& 31).toUInt32).toInt32).toUInt32 >>> ((7 : Int32) &&& 31).toUInt32).toInt32).toUInt32 >>> ((7 : Int32) &&& 31).toUInt32).toInt32)), .val (.int ((((p3 + (1 : Int32)) + (1 : Int32)) + (1 : Int32)) + (1 : Int32)))] [(.int ((((p3 + (1 : Int32)) + (1 : Int32)) + (1 : Int32)) + (1 : Int32)))])) (fun t k => ?_) ?_
          · show Steps p.tables e below (T17.setTop (mkF m 45 #[.val (.int p1), .val (.ref a2), .val (.int p3), .val (.int ((((((p1.toUInt32 >>> ((7 : Int32) &&& 31).toUInt32).toInt32).toUInt32 >>> ((7 : Int32) &&& 31).toUInt32).toInt32).toUInt32 >>> ((7 : Int32) &&& 31).toUInt32).toInt32)), .val (.int ((((p3 + (1 : Int32)) + (1 : Int32)) + (1 : Int32)) + (1 : Int32)))] [])) t
            refine XS.iload X17.here hx rfl (hb hby d1_45) rfl ?_
            exact k
          exact doneI X17 hx hret hlk (hb hby d1_47) (by show _ ∧ _; rw [e17]; exact ⟨rfl, N17, K17, V17⟩) (by decide) (by decide)
        · simp only [if_neg hc9_15]
          refine Done.of (T' := T14) (g' := (mkF m 27 #[.val (.int p1), .val (.ref a2), .val (.int p3), .val (.int ((((((p1.toUInt32 >>> ((7 : Int32) &&& 31).toUInt32).toInt32).toUInt32 >>> ((7 : Int32) &&& 31).toUInt32).toInt32).toUInt32 >>> ((7 : Int32) &&& 31).toUInt32).toInt32)), .val (.int ((((p3 + (1 : Int32)) + (1 : Int32)) + (1 : Int32)) + (1 : Int32)))] [(.int (((((((((p1.toUInt32 >>> ((7 : Int32) &&& 31).toUInt32).toInt32).toUInt32 >>> ((7 : Int32) &&& 31).toUInt32).toInt32).toUInt32 >>> ((7 : Int32) &&& 31).toUInt32).toInt32) &&& (127 : Int32)) ||| (128 : Int32)).toInt8.toInt32)), (.int (((p3 + (1 : Int32)) + (1 : Int32)) + (1 : Int32))), (.ref a2)])) (fun t k => ?_) ?_
          · show Steps p.tables e below (T14.setTop (mkF m 9 #[.val (.int p1), .val (.ref a2), .val (.int p3), .val (.int ((((((p1.toUInt32 >>> ((7 : Int32) &&& 31).toUInt32).toInt32).toUInt32 >>> ((7 : Int32) &&& 31).toUInt32).toInt32).toUInt32 >>> ((7 : Int32) &&& 31).toUInt32).toInt32)), .val (.int (((p3 + (1 : Int32)) + (1 : Int32)) + (1 : Int32)))] [(.int (((((((p1.toUInt32 >>> ((7 : Int32) &&& 31).toUInt32).toInt32).toUInt32 >>> ((7 : Int32) &&& 31).toUInt32).toInt32).toUInt32 >>> ((7 : Int32) &&& 31).toUInt32).toInt32) &&& (-128 : Int32)))])) t
            refine XS.ifNo X14.here hx rfl (hb hby d1_9) rfl ((if0 _ _).trans (feq hc9_15).1) ?_
            show Steps p.tables e below (T14.setTop (mkF m 12 #[.val (.int p1), .val (.ref a2), .val (.int p3), .val (.int ((((((p1.toUInt32 >>> ((7 : Int32) &&& 31).toUInt32).toInt32).toUInt32 >>> ((7 : Int32) &&& 31).toUInt32).toInt32).toUInt32 >>> ((7 : Int32) &&& 31).toUInt32).toInt32)), .val (.int (((p3 + (1 : Int32)) + (1 : Int32)) + (1 : Int32)))] [])) t
            refine XS.aloadN X14.here hx rfl (hb hby d1_12) rfl rfl ?_
            show Steps p.tables e below (T14.setTop (mkF m 13 #[.val (.int p1), .val (.ref a2), .val (.int p3), .val (.int ((((((p1.toUInt32 >>> ((7 : Int32) &&& 31).toUInt32).toInt32).toUInt32 >>> ((7 : Int32) &&& 31).toUInt32).toInt32).toUInt32 >>> ((7 : Int32) &&& 31).toUInt32).toInt32)), .val (.int (((p3 + (1 : Int32)) + (1 : Int32)) + (1 : Int32)))] [(.ref a2)])) t
            refine XS.iload X14.here hx rfl (hb hby d1_13) rfl ?_
            show Steps p.tables e below (T14.setTop (mkF m 15 #[.val (.int p1), .val (.ref a2), .val (.int p3), .val (.int ((((((p1.toUInt32 >>> ((7 : Int32) &&& 31).toUInt32).toInt32).toUInt32 >>> ((7 : Int32) &&& 31).toUInt32).toInt32).toUInt32 >>> ((7 : Int32) &&& 31).toUInt32).toInt32)), .val (.int (((p3 + (1 : Int32)) + (1 : Int32)) + (1 : Int32)))] [(.int (((p3 + (1 : Int32)) + (1 : Int32)) + (1 : Int32))), (.ref a2)])) t
            refine XS.iinc X14.here hx rfl (hb hby d1_15) rfl (l' := #[.val (.int p1), .val (.ref a2), .val (.int p3), .val (.int ((((((p1.toUInt32 >>> ((7 : Int32) &&& 31).toUInt32).toInt32).toUInt32 >>> ((7 : Int32) &&& 31).toUInt32).toInt32).toUInt32 >>> ((7 : Int32) &&& 31).toUInt32).toInt32)), .val (.int ((((p3 + (1 : Int32)) + (1 : Int32)) + (1 : Int32)) + (1 : Int32)))]) rfl ?_
            show Steps p.tables e below (T14.setTop (mkF m 18 #[.val (.int p1), .val (.ref a2), .val (.int p3), .val (.int ((((((p1.toUInt32 >>> ((7 : Int32) &&& 31).toUInt32).toInt32).toUInt32 >>> ((7 : Int32) &&& 31).toUInt32).toInt32).toUInt32 >>> ((7 : Int32) &&& 31).toUInt32).toInt32)), .val (.int ((((p3 + (1 : Int32)) + (1 : Int32)) + (1 : Int32)) + (1 : Int32)))] [(.int (((p3 + (1 : Int32)) + (1 : Int32)) + (1 : Int32))), (.ref a2)])) t
            refine XS.iloadN X14.here hx rfl (hb hby d1_18) rfl ?_
            show Steps p.tables e below (T14.setTop (mkF m 19 #[.val (.int p1), .val (.ref a2), .val (.int p3), .val (.int ((((((p1.toUInt32 >>> ((7 : Int32) &&& 31).toUInt32).toInt32).toUInt32 >>> ((7 : Int32) &&& 31).toUInt32).toInt32).toUInt32 >>> ((7 : Int32) &&& 31).toUInt32).toInt32)), .val (.int ((((p3 + (1 : Int32)) + (1 : Int32)) + (1 : Int32)) + (1 : Int32)))] [(.int ((((((p1.toUInt32 >>> ((7 : Int32) &&& 31).toUInt32).toInt32).toUInt32 >>> ((7 : Int32) &&& 31).toUInt32).toInt32).toUInt32 >>> ((7 : Int32) &&& 31).toUInt32).toInt32)), (.int (((p3 + (1 : Int32)) + (1 : Int32)) + (1 : Int32))), (.ref a2)])) t
            refine XS.bipush X14.here hx rfl (hb hby d1_19) ?_
            show Steps p.tables e below (T14.setTop (mkF m 21 #[.val (.int p1), .val (.ref a2), .val (.int p3), .val (.int ((((((p1.toUInt32 >>> ((7 : Int32) &&& 31).toUInt32).toInt32).toUInt32 >>> ((7 : Int32) &&& 31).toUInt32).toInt32).toUInt32 >>> ((7 : Int32) &&& 31).toUInt32).toInt32)), .val (.int ((((p3 + (1 : Int32)) + (1 : Int32)) + (1 : Int32)) + (1 : Int32)))] [(.int (127 : Int32)), (.int ((((((p1.toUInt32 >>> ((7 : Int32) &&& 31).toUInt32).toInt32).toUInt32 >>> ((7 : Int32) &&& 31).toUInt32).toInt32).toUInt32 >>> ((7 : Int32) &&& 31).toUInt32).toInt32)), (.int (((p3 + (1 : Int32)) + (1 : Int32)) + (1 : Int32))), (.ref a2)])) t
            refine XS.iand X14.here hx rfl (hb hby d1_21) rfl ?_
            show Steps p.tables e below (T14.setTop (mkF m 22 #[.val (.int p1), .val (.ref a2), .val (.int p3), .val (.int ((((((p1.toUInt32 >>> ((7 : Int32) &&& 31).toUInt32).toInt32).toUInt32 >>> ((7 : Int32) &&& 31).toUInt32).toInt32).toUInt32 >>> ((7 : Int32) &&& 31).toUInt32).toInt32)), .val (.int ((((p3 + (1 : Int32)) + (1 : Int32)) + (1 : Int32)) + (1 : Int32)))] [(.int (((((((p1.toUInt32 >>> ((7 : Int32) &&& 31).toUInt32).toInt32).toUInt32 >>> ((7 : Int32) &&& 31).toUInt32).toInt32).toUInt32 >>> ((7 : Int32) &&& 31).toUInt32).toInt32) &&& (127 : Int32))), (.int (((p3 + (1 : Int32)) + (1 : Int32)) + (1 : Int32))), (.ref a2)])) t
            refine XS.sipush X14.here hx rfl (hb hby d1_22) ?_
            show Steps p.tables e below (T14.setTop (mkF m 25 #[.val (.int p1), .val (.ref a2), .val (.int p3), .val (.int ((((((p1.toUInt32 >>> ((7 : Int32) &&& 31).toUInt32).toInt32).toUInt32 >>> ((7 : Int32) &&& 31).toUInt32).toInt32).toUInt32 >>> ((7 : Int32) &&& 31).toUInt32).toInt32)), .val (.int ((((p3 + (1 : Int32)) + (1 : Int32)) + (1 : Int32)) + (1 : Int32)))] [(.int (128 : Int32)), (.int (((((((p1.toUInt32 >>> ((7 : Int32) &&& 31).toUInt32).toInt32).toUInt32 >>> ((7 : Int32) &&& 31).toUInt32).toInt32).toUInt32 >>> ((7 : Int32) &&& 31).toUInt32).toInt32) &&& (127 : Int32))), (.int (((p3 + (1 : Int32)) + (1 : Int32)) + (1 : Int32))), (.ref a2)])) t
            refine XS.ior X14.here hx rfl (hb hby d1_25) rfl ?_
            show Steps p.tables e below (T14.setTop (mkF m 26 #[.val (.int p1), .val (.ref a2), .val (.int p3), .val (.int ((((((p1.toUInt32 >>> ((7 : Int32) &&& 31).toUInt32).toInt32).toUInt32 >>> ((7 : Int32) &&& 31).toUInt32).toInt32).toUInt32 >>> ((7 : Int32) &&& 31).toUInt32).toInt32)), .val (.int ((((p3 + (1 : Int32)) + (1 : Int32)) + (1 : Int32)) + (1 : Int32)))] [(.int ((((((((p1.toUInt32 >>> ((7 : Int32) &&& 31).toUInt32).toInt32).toUInt32 >>> ((7 : Int32) &&& 31).toUInt32).toInt32).toUInt32 >>> ((7 : Int32) &&& 31).toUInt32).toInt32) &&& (127 : Int32)) ||| (128 : Int32))), (.int (((p3 + (1 : Int32)) + (1 : Int32)) + (1 : Int32))), (.ref a2)])) t
            refine XS.i2b X14.here hx rfl (hb hby d1_26) rfl ?_
            exact k
          obtain ⟨cl_o20, Ar_o20, q_o20, S_o20, Nn_o20, H_o20, G_o20⟩ := id V14
          have hin19 : ¬ ((((p3 + (1 : Int32)) + (1 : Int32)) + (1 : Int32)) < 0 ∨ cl_o20.slots.size ≤ ((((p3 + (1 : Int32)) + (1 : Int32)) + (1 : Int32))).toNatClampNeg) := inb_of S_o20 (own_ix3 hat)
          obtain ⟨T19, h19, X19, e19, W19, st19⟩ := stB X14 hx hZ e14 Ar_o20 (j := (((p3 + (1 : Int32)) + (1 : Int32)) + (1 : Int32))) hin19 (g := (mkF m 27 #[.val (.int p1), .val (.ref a2), .val (.int p3), .val (.int ((((((p1.toUInt32 >>> ((7 : Int32) &&& 31).toUInt32).toInt32).toUInt32 >>> ((7 : Int32) &&& 31).toUInt32).toInt32).toUInt32 >>> ((7 : Int32) &&& 31).toUInt32).toInt32)), .val (.int ((((p3 + (1 : Int32)) + (1 : Int32)) + (1 : Int32)) + (1 : Int32)))] [(.int (((((((((p1.toUInt32 >>> ((7 : Int32) &&& 31).toUInt32).toInt32).toUInt32 >>> ((7 : Int32) &&& 31).toUInt32).toInt32).toUInt32 >>> ((7 : Int32) &&& 31).toUInt32).toInt32) &&& (127 : Int32)) ||| (128 : Int32)).toInt8.toInt32)), (.int (((p3 + (1 : Int32)) + (1 : Int32)) + (1 : Int32))), (.ref a2)])) rfl rfl (hb hby d1_27)
          have V19 : Arv Z h19 a2 kc .byte (8 : Int32) ((List.range 8).map fun j => Value.int ((fun j => if j = ((((p3 + (1 : Int32)) + (1 : Int32)) + (1 : Int32))).toNatClampNeg then ((((((((((p1.toUInt32 >>> ((7 : Int32) &&& 31).toUInt32).toInt32).toUInt32 >>> ((7 : Int32) &&& 31).toUInt32).toInt32).toUInt32 >>> ((7 : Int32) &&& 31).toUInt32).toInt32) &&& (127 : Int32)) ||| (128 : Int32)).toInt8.toInt32).toInt8.toInt32) else ((fun j => if j = (((p3 + (1 : Int32)) + (1 : Int32))).toNatClampNeg then ((((((((p1.toUInt32 >>> ((7 : Int32) &&& 31).toUInt32).toInt32).toUInt32 >>> ((7 : Int32) &&& 31).toUInt32).toInt32) &&& (127 : Int32)) ||| (128 : Int32)).toInt8.toInt32).toInt8.toInt32) else ((fun j => if j = ((p3 + (1 : Int32))).toNatClampNeg then ((((((p1.toUInt32 >>> ((7 : Int32) &&& 31).toUInt32).toInt32) &&& (127 : Int32)) ||| (128 : Int32)).toInt8.toInt32).toInt8.toInt32) else ((fun j => if j = (p3).toNatClampNeg then ((((p1 &&& (127 : Int32)) ||| (128 : Int32)).toInt8.toInt32).toInt8.toInt32) else (f j)) j)) j)) j)) j)) (.int (0 : Int32)) := own_setA (Arv.set Ar_o20 q_o20 S_o20 Nn_o20 H_o20 G_o20 (fits_nar_byte _) W19 ((((p3 + (1 : Int32)) + (1 : Int32)) + (1 : Int32))).toNatClampNeg rfl (own_len S_o20 hin19))
          have N19 := Fr.snoc X19 N14 g_a2
          have K19 : Keep h0 h19 [a2] := K14.wr W19 (Or.inl (List.mem_of_getElem? (i := 0) rfl))
          refine Done.of (g' := (mkF m 28 #[.val (.int p1), .val (.ref a2), .val (.int p3), .val (.int ((((((p1.toUInt32 >>> ((7 : Int32) &&& 31).toUInt32).toInt32).toUInt32 >>> ((7 : Int32) &&& 31).toUInt32).toInt32).toUInt32 >>> ((7 : Int32) &&& 31).toUInt32).toInt32)), .val (.int ((((p3 + (1 : Int32)) + (1 : Int32)) + (1 : Int32)) + (1 : Int32)))] [])) st19 ?_
          refine Done.of (T' := T19) (g' := (mkF m 44 #[.val (.int p1), .val (.ref a2), .val (.int p3), .val (.int ((((((((p1.toUInt32 >>> ((7 : Int32) &&& 31).toUInt32).toInt32).toUInt32 >>> ((7 : Int32) &&& 31).toUInt32).toInt32).toUInt32 >>> ((7 : Int32) &&& 31).toUInt32).toInt32).toUInt32 >>> ((7 : Int32) &&& 31).toUInt32).toInt32)), .val (.int (((((p3 + (1 : Int32)) + (1 : Int32)) + (1 : Int32)) + (1 : Int32)) + (1 : Int32)))] [(.int (((((((((p1.toUInt32 >>> ((7 : Int32) &&& 31).toUInt32).toInt32).toUInt32 >>> ((7 : Int32) &&& 31).toUInt32).toInt32).toUInt32 >>> ((7 : Int32) &&& 31).toUInt32).toInt32).toUInt32 >>> ((7 : Int32) &&& 31).toUInt32).toInt32).toInt8.toInt32)), (.int ((((p3 + (1 : Int32)) + (1 : Int32)) + (1 : Int32)) + (1 : Int32))), (.ref a2)])) (fun t k => ?_) ?_
          · show Steps p.tables e below (T19.setTop (mkF m 28 #[.val (.int p1), .val (.ref a2), .val (.int p3), .val (.int ((((((p1.toUInt32 >>> ((7 : Int32) &&& 31).toUInt32).toInt32).toUInt32 >>> ((7 : Int32) &&& 31).toUInt32).toInt32).toUInt32 >>> ((7 : Int32) &&& 31).toUInt32).toInt32)), .val (.int ((((p3 + (1 : Int32)) + (1 : Int32)) + (1 : Int32)) + (1 : Int32)))] [])) t
            refine XS.iloadN X19.here hx rfl (hb hby d1_28) rfl ?_
            show Steps p.tables e below (T19.setTop (mkF m 29 #[.val (.int p1), .val (.ref a2), .val (.int p3), .val (.int ((((((p1.toUInt32 >>> ((7 : Int32) &&& 31).toUInt32).toInt32).toUInt32 >>> ((7 : Int32) &&& 31).toUInt32).toInt32).toUInt32 >>> ((7 : Int32) &&& 31).toUInt32).toInt32)), .val (.int ((((p3 + (1 : Int32)) + (1 : Int32)) + (1 : Int32)) + (1 : Int32)))] [(.int ((((((p1.toUInt32 >>> ((7 : Int32) &&& 31).toUInt32).toInt32).toUInt32 >>> ((7 : Int32) &&& 31).toUInt32).toInt32).toUInt32 >>> ((7 : Int32) &&& 31).toUInt32).toInt32))])) t
            refine XS.bipush X19.here hx rfl (hb hby d1_29) ?_
            show Steps p.tables e below (T19.setTop (mkF m 31 #[.val (.int p1), .val (.ref a2), .val (.int p3), .val (.int ((((((p1.toUInt32 >>> ((7 : Int32) &&& 31).toUInt32).toInt32).toUInt32 >>> ((7 : Int32) &&& 31).toUInt32).toInt32).toUInt32 >>> ((7 : Int32) &&& 31).toUInt32).toInt32)), .val (.int ((((p3 + (1 : Int32)) + (1 : Int32)) + (1 : Int32)) + (1 : Int32)))] [(.int (7 : Int32)), (.int ((((((p1.toUInt32 >>> ((7 : Int32) &&& 31).toUInt32).toInt32).toUInt32 >>> ((7 : Int32) &&& 31).toUInt32).toInt32).toUInt32 >>> ((7 : Int32) &&& 31).toUInt32).toInt32))])) t
            refine XS.iushr X19.here hx rfl (hb hby d1_31) rfl ?_
            show Steps p.tables e below (T19.setTop (mkF m 32 #[.val (.int p1), .val (.ref a2), .val (.int p3), .val (.int ((((((p1.toUInt32 >>> ((7 : Int32) &&& 31).toUInt32).toInt32).toUInt32 >>> ((7 : Int32) &&& 31).toUInt32).toInt32).toUInt32 >>> ((7 : Int32) &&& 31).toUInt32).toInt32)), .val (.int ((((p3 + (1 : Int32)) + (1 : Int32)) + (1 : Int32)) + (1 : Int32)))] [(.int ((((((((p1.toUInt32 >>> ((7 : Int32) &&& 31).toUInt32).toInt32).toUInt32 >>> ((7 : Int32) &&& 31).toUInt32).toInt32).toUInt32 >>> ((7 : Int32) &&& 31).toUInt32).toInt32).toUInt32 >>> ((7 : Int32) &&& 31).toUInt32).toInt32))])) t
            refine XS.istoreN X19.here hx rfl (hb hby d1_32) rfl (l' := #[.val (.int p1), .val (.ref a2), .val (.int p3), .val (.int ((((((((p1.toUInt32 >>> ((7 : Int32) &&& 31).toUInt32).toInt32).toUInt32 >>> ((7 : Int32) &&& 31).toUInt32).toInt32).toUInt32 >>> ((7 : Int32) &&& 31).toUInt32).toInt32).toUInt32 >>> ((7 : Int32) &&& 31).toUInt32).toInt32)), .val (.int ((((p3 + (1 : Int32)) + (1 : Int32)) + (1 : Int32)) + (1 : Int32)))]) rfl ?_
            show Steps p.tables e below (T19.setTop (mkF m 33 #[.val (.int p1), .val (.ref a2), .val (.int p3), .val (.int ((((((((p1.toUInt32 >>> ((7 : Int32) &&& 31).toUInt32).toInt32).toUInt32 >>> ((7 : Int32) &&& 31).toUInt32).toInt32).toUInt32 >>> ((7 : Int32) &&& 31).toUInt32).toInt32).toUInt32 >>> ((7 : Int32) &&& 31).toUInt32).toInt32)), .val (.int ((((p3 + (1 : Int32)) + (1 : Int32)) + (1 : Int32)) + (1 : Int32)))] [])) t
            refine XS.goto X19.here hx rfl (pc0 := 33) (pc' := 5) rfl (hb hby d1_33) (by decide) (by decide) ?_
            show Steps p.tables e below (T19.setTop (mkF m 5 #[.val (.int p1), .val (.ref a2), .val (.int p3), .val (.int ((((((((p1.toUInt32 >>> ((7 : Int32) &&& 31).toUInt32).toInt32).toUInt32 >>> ((7 : Int32) &&& 31).toUInt32).toInt32).toUInt32 >>> ((7 : Int32) &&& 31).toUInt32).toInt32).toUInt32 >>> ((7 : Int32) &&& 31).toUInt32).toInt32)), .val (.int ((((p3 + (1 : Int32)) + (1 : Int32)) + (1 : Int32)) + (1 : Int32)))] [])) t
            refine XS.iloadN X19.here hx rfl (hb hby d1_5) rfl ?_
            show Steps p.tables e below (T19.setTop (mkF m 6 #[.val (.int p1), .val (.ref a2), .val (.int p3), .val (.int ((((((((p1.toUInt32 >>> ((7 : Int32) &&& 31).toUInt32).toInt32).toUInt32 >>> ((7 : Int32) &&& 31).toUInt32).toInt32).toUInt32 >>> ((7 : Int32) &&& 31).toUInt32).toInt32).toUInt32 >>> ((7 : Int32) &&& 31).toUInt32).toInt32)), .val (.int ((((p3 + (1 : Int32)) + (1 : Int32)) + (1 : Int32)) + (1 : Int32)))] [(.int ((((((((p1.toUInt32 >>> ((7 : Int32) &&& 31).toUInt32).toInt32).toUInt32 >>> ((7 : Int32) &&& 31).toUInt32).toInt32).toUInt32 >>> ((7 : Int32) &&& 31).toUInt32).toInt32).toUInt32 >>> ((7 : Int32) &&& 31).toUInt32).toInt32))])) t
            refine XS.bipush X19.here hx rfl (hb hby d1_6) ?_
            show Steps p.tables e below (T19.setTop (mkF m 8 #[.val (.int p1), .val (.ref a2), .val (.int p3), .val (.int ((((((((p1.toUInt32 >>> ((7 : Int32) &&& 31).toUInt32).toInt32).toUInt32 >>> ((7 : Int32) &&& 31).toUInt32).toInt32).toUInt32 >>> ((7 : Int32) &&& 31).toUInt32).toInt32).toUInt32 >>> ((7 : Int32) &&& 31).toUInt32).toInt32)), .val (.int ((((p3 + (1 : Int32)) + (1 : Int32)) + (1 : Int32)) + (1 : Int32)))] [(.int (-128 : Int32)), (.int ((((((((p1.toUInt32 >>> ((7 : Int32) &&& 31).toUInt32).toInt32).toUInt32 >>> ((7 : Int32) &&& 31).toUInt32).toInt32).toUInt32 >>> ((7 : Int32) &&& 31).toUInt32).toInt32).toUInt32 >>> ((7 : Int32) &&& 31).toUInt32).toInt32))])) t
            refine XS.iand X19.here hx rfl (hb hby d1_8) rfl ?_
            show Steps p.tables e below (T19.setTop (mkF m 9 #[.val (.int p1), .val (.ref a2), .val (.int p3), .val (.int ((((((((p1.toUInt32 >>> ((7 : Int32) &&& 31).toUInt32).toInt32).toUInt32 >>> ((7 : Int32) &&& 31).toUInt32).toInt32).toUInt32 >>> ((7 : Int32) &&& 31).toUInt32).toInt32).toUInt32 >>> ((7 : Int32) &&& 31).toUInt32).toInt32)), .val (.int ((((p3 + (1 : Int32)) + (1 : Int32)) + (1 : Int32)) + (1 : Int32)))] [(.int (((((((((p1.toUInt32 >>> ((7 : Int32) &&& 31).toUInt32).toInt32).toUInt32 >>> ((7 : Int32) &&& 31).toUInt32).toInt32).toUInt32 >>> ((7 : Int32) &&& 31).toUInt32).toInt32).toUInt32 >>> ((7 : Int32) &&& 31).toUInt32).toInt32) &&& (-128 : Int32)))])) t
            refine XS.ifYes X19.here hx rfl (pc0 := 9) (pc' := 36) rfl (hb hby d1_9) rfl ((if0 _ _).trans (teq (show (((((((((p1.toUInt32 >>> ((7 : Int32) &&& 31).toUInt32).toInt32).toUInt32 >>> ((7 : Int32) &&& 31).toUInt32).toInt32).toUInt32 >>> ((7 : Int32) &&& 31).toUInt32).toInt32).toUInt32 >>> ((7 : Int32) &&& 31).toUInt32).toInt32) &&& (-128 : Int32)) = (0 : Int32) from (own_last p1))).1) (by decide) (by decide) ?_
            show Steps p.tables e below (T19.setTop (mkF m 36 #[.val (.int p1), .val (.ref a2), .val (.int p3), .val (.int ((((((((p1.toUInt32 >>> ((7 : Int32) &&& 31).toUInt32).toInt32).toUInt32 >>> ((7 : Int32) &&& 31).toUInt32).toInt32).toUInt32 >>> ((7 : Int32) &&& 31).toUInt32).toInt32).toUInt32 >>> ((7 : Int32) &&& 31).toUInt32).toInt32)), .val (.int ((((p3 + (1 : Int32)) + (1 : Int32)) + (1 : Int32)) + (1 : Int32)))] [])) t
            refine XS.aloadN X19.here hx rfl (hb hby d1_36) rfl rfl ?_
            show Steps p.tables e below (T19.setTop (mkF m 37 #[.val (.int p1), .val (.ref a2), .val (.int p3), .val (.int ((((((((p1.toUInt32 >>> ((7 : Int32) &&& 31).toUInt32).toInt32).toUInt32 >>> ((7 : Int32) &&& 31).toUInt32).toInt32).toUInt32 >>> ((7 : Int32) &&& 31).toUInt32).toInt32).toUInt32 >>> ((7 : Int32) &&& 31).toUInt32).toInt32)), .val (.int ((((p3 + (1 : Int32)) + (1 : Int32)) + (1 : Int32)) + (1 : Int32)))] [(.ref a2)])) t
            refine XS.iload X19.here hx rfl (hb hby d1_37) rfl ?_
            show Steps p.tables e below (T19.setTop (mkF m 39 #[.val (.int p1), .val (.ref a2), .val (.int p3), .val (.int ((((((((p1.toUInt32 >>> ((7 : Int32) &&& 31).toUInt32).toInt32).toUInt32 >>> ((7 : Int32) &&& 31).toUInt32).toInt32).toUInt32 >>> ((7 : Int32) &&& 31).toUInt32).toInt32).toUInt32 >>> ((7 : Int32) &&& 31).toUInt32).toInt32)), .val (.int ((((p3 + (1 : Int32)) + (1 : Int32)) + (1 : Int32)) + (1 : Int32)))] [(.int ((((p3 + (1 : Int32)) + (1 : Int32)) + (1 : Int32)) + (1 : Int32))), (.ref a2)])) t
            refine XS.iinc X19.here hx rfl (hb hby d1_39) rfl (l' := #[.val (.int p1), .val (.ref a2), .val (.int p3), .val (.int ((((((((p1.toUInt32 >>> ((7 : Int32) &&& 31).toUInt32).toInt32).toUInt32 >>> ((7 : Int32) &&& 31).toUInt32).toInt32).toUInt32 >>> ((7 : Int32) &&& 31).toUInt32).toInt32).toUInt32 >>> ((7 : Int32) &&& 31).toUInt32).toInt32)), .val (.int (((((p3 + (1 : Int32)) + (1 : Int32)) + (1 : Int32)) + (1 : Int32)) + (1 : Int32)))]) rfl ?_
            show Steps p.tables e below (T19.setTop (mkF m 42 #[.val (.int p1), .val (.ref a2), .val (.int p3), .val (.int ((((((((p1.toUInt32 >>> ((7 : Int32) &&& 31).toUInt32).toInt32).toUInt32 >>> ((7 : Int32) &&& 31).toUInt32).toInt32).toUInt32 >>> ((7 : Int32) &&& 31).toUInt32).toInt32).toUInt32 >>> ((7 : Int32) &&& 31).toUInt32).toInt32)), .val (.int (((((p3 + (1 : Int32)) + (1 : Int32)) + (1 : Int32)) + (1 : Int32)) + (1 : Int32)))] [(.int ((((p3 + (1 : Int32)) + (1 : Int32)) + (1 : Int32)) + (1 : Int32))), (.ref a2)])) t
            refine XS.iloadN X19.here hx rfl (hb hby d1_42) rfl ?_
            show Steps p.tables e below (T19.setTop (mkF m 43 #[.val (.int p1), .val (.ref a2), .val (.int p3), .val (.int ((((((((p1.toUInt32 >>> ((7 : Int32) &&& 31).toUInt32).toInt32).toUInt32 >>> ((7 : Int32) &&& 31).toUInt32).toInt32).toUInt32 >>> ((7 : Int32) &&& 31).toUInt32).toInt32).toUInt32 >>> ((7 : Int32) &&& 31).toUInt32).toInt32)), .val (.int (((((p3 + (1 : Int32)) + (1 : Int32)) + (1 : Int32)) + (1 : Int32)) + (1 : Int32)))] [(.int ((((((((p1.toUInt32 >>> ((7 : Int32) &&& 31).toUInt32).toInt32).toUInt32 >>> ((7 : Int32) &&& 31).toUInt32).toInt32).toUInt32 >>> ((7 : Int32) &&& 31).toUInt32).toInt32).toUInt32 >>> ((7 : Int32) &&& 31).toUInt32).toInt32)), (.int ((((p3 + (1 : Int32)) + (1 : Int32)) + (1 : Int32)) + (1 : Int32))), (.ref a2)])) t
            refine XS.i2b X19.here hx rfl (hb hby d1_43) rfl ?_
            exact k
          obtain ⟨cl_o22, Ar_o22, q_o22, S_o22, Nn_o22, H_o22, G_o22⟩ := id V19
          have hin21 : ¬ (((((p3 + (1 : Int32)) + (1 : Int32)) + (1 : Int32)) + (1 : Int32)) < 0 ∨ cl_o22.slots.size ≤ (((((p3 + (1 : Int32)) + (1 : Int32)) + (1 : Int32)) + (1 : Int32))).toNatClampNeg) := inb_of S_o22 (own_ix4 hat)
          obtain ⟨T21, h21, X21, e21, W21, st21⟩ := stB X19 hx hZ e19 Ar_o22 (j := ((((p3 + (1 : Int32)) + (1 : Int32)) + (1 : Int32)) + (1 : Int32))) hin21 (g := (mkF m 44 #[.val (.int p1), .val (.ref a2), .val (.int p3), .val (.int ((((((((p1.toUInt32 >>> ((7 : Int32) &&& 31).toUInt32).toInt32).toUInt32 >>> ((7 : Int32) &&& 31).toUInt32).toInt32).toUInt32 >>> ((7 : Int32) &&& 31).toUInt32).toInt32).toUInt32 >>> ((7 : Int32) &&& 31).toUInt32).toInt32)), .val (.int (((((p3 + (1 : Int32)) + (1 : Int32)) + (1 : Int32)) + (1 : Int32)) + (1 : Int32)))] [(.int (((((((((p1.toUInt32 >>> ((7 : Int32) &&& 31).toUInt32).toInt32).toUInt32 >>> ((7 : Int32) &&& 31).toUInt32).toInt32).toUInt32 >>> ((7 : Int32) &&& 31).toUInt32).toInt32).toUInt32 >>> ((7 : Int32) &&& 31).toUInt32).toInt32).toInt8.toInt32)), (.int ((((p3 + (1 : Int32)) + (1 : Int32)) + (1 : Int32)) + (1 : Int32))), (.ref a2)])) rfl rfl (hb hby d1_44)
          have V21 : Arv Z h21 a2 kc .byte (8 : Int32) ((List.range 8).map fun j => Value.int ((fun j => if j = (((((p3 + (1 : Int32)) + (1 : Int32)) + (1 : Int32)) + (1 : Int32))).toNatClampNeg then ((((((((((p1.toUInt32 >>> ((7 : Int32) &&& 31).toUInt32).toInt32).toUInt32 >>> ((7 : Int32) &&& 31).toUInt32).toInt32).toUInt32 >>> ((7 : Int32) &&& 31).toUInt32).toInt32).toUInt32 >>> ((7 : Int32) &&& 31).toUInt32).toInt32).toInt8.toInt32).toInt8.toInt32) else ((fun j => if j = ((((p3 + (1 : Int32)) + (1 : Int32)) + (1 : Int32))).toNatClampNeg then ((((((((((p1.toUInt32 >>> ((7 : Int32) &&& 31).toUInt32).toInt32).toUInt32 >>> ((7 : Int32) &&& 31).toUInt32).toInt32).toUInt32 >>> ((7 : Int32) &&& 31).toUInt32).toInt32) &&& (127 : Int32)) ||| (128 : Int32)).toInt8.toInt32).toInt8.toInt32) else ((fun j => if j = (((p3 + (1 : Int32)) + (1 : Int32))).toNatClampNeg then ((((((((p1.toUInt32 >>> ((7 : Int32) &&& 31).toUInt32).toInt32).toUInt32 >>> ((7 : Int32) &&& 31).toUInt32).toInt32) &&& (127 : Int32)) ||| (128 : Int32)).toInt8.toInt32).toInt8.toInt32) else ((fun j => if j = ((p3 + (1 : Int32))).toNatClampNeg then ((((((p1.toUInt32 >>> ((7 : Int32) &&& 31).toUInt32).toInt32) &&& (127 : Int32)) ||| (128 : Int32)).toInt8.toInt32).toInt8.toInt32) else ((fun j => if j = (p3).toNatClampNeg then ((((p1 &&& (127 : Int32)) ||| (128 : Int32)).toInt8.toInt32).toInt8.toInt32) else (f j)) j)) j)) j)) j)) j)) (.int (0 : Int32)) := own_setA (Arv.set Ar_o22 q_o22 S_o22 Nn_o22 H_o22 G_o22 (fits_nar_byte _) W21 (((((p3 + (1 : Int32)) + (1 : Int32)) + (1 : Int32)) + (1 : Int32))).toNatClampNeg rfl (own_len S_o22 hin21))
          have N21 := Fr.snoc X21 N19 g_a2
          have K21 : Keep h0 h21 [a2] := K19.wr W21 (Or.inl (List.mem_of_getElem? (i := 0) rfl))
          refine Done.of (g' := (mkF m 45 #[.val (.int p1), .val (.ref a2), .val (.int p3), .val (.int ((((((((p1.toUInt32 >>> ((7 : Int32) &&& 31).toUInt32).toInt32).toUInt32 >>> ((7 : Int32) &&& 31).toUInt32).toInt32).toUInt32 >>> ((7 : Int32) &&& 31).toUInt32).toInt32).toUInt32 >>> ((7 : Int32) &&& 31).toUInt32).toInt32)), .val (.int (((((p3 + (1 : Int32)) + (1 : Int32)) + (1 : Int32)) + (1 : Int32)) + (1 : Int32)))] [])) st21 ?_
          refine Done.of (T' := T21) (g' := (mkF m 47 #[.val (.int p1), .val (.ref a2), .val (.int p3), .val (.int ((((((((p1.toUInt32 >>> ((7 : Int32) &&& 31).toUInt32).toInt32).toUInt32 >>> ((7 : Int32) &&& 31).toUInt32).toInt32).toUInt32 >>> ((7 : Int32) &&& 31).toUInt32).toInt32).toUInt32 >>> ((7 : Int32) &&& 31).toUInt32).toInt32)), .val (.int (((((p3 + (1 : Int32)) + (1 : Int32)) + (1 : Int32)) + (1 : Int32)) + (1 : Int32)))] [(.int (((((p3 + (1 : Int32)) + (1 : Int32)) + (1 : Int32)) + (1 : Int32)) + (1 : Int32)))])) (fun t k => ?_) ?_
          · show Steps p.tables e below (T21.setTop (mkF m 45 #[.val (.int p1), .val (.ref a2), .val (.int p3), .val (.int ((((((((p1.toUInt32 >>> ((7 : Int32) &&& 31).toUInt32).toInt32).toUInt32 >>> ((7 : Int32) &&& 31).toUInt32).toInt32).toUInt32 >>> ((7 : Int32) &&& 31).toUInt32).toInt32).toUInt32 >>> ((7 : Int32) &&& 31).toUInt32).toInt32)), .val (.int (((((p3 + (1 : Int32)) + (1 : Int32)) + (1 : Int32)) + (1 : Int32)) + (1 : Int32)))] [])) t
            refine XS.iload X21.here hx rfl (hb hby d1_45) rfl ?_
            exact k
          exact doneI X21 hx hret hlk (hb hby d1_47) (by show _ ∧ _; rw [e21]; exact ⟨rfl, N21, K21, V21⟩) (by decide) (by decide)
theorem ef_1 (m : MethodId) (p1 : Int32) (a2 : Addr) (p3 : Int32) : entryFrame m #[(.int p1), (.ref a2), (.int p3)] 5 = mkF m 0 #[.val (.int p1), .val (.ref a2), .val (.int p3), .unset, .unset] [] := by first | (simp [entryFrame, mkF, argsToLocals, Value.category, maxLocals]; done) | rfl
theorem pn_1 : plainName "com/example/holdfast/holdfast/Varint" = true := by first | (simp [plainName, overriddenIn]; done) | decide +kernel
def Q1 (Z : State) (p1 : Int32) (a2 : Addr) (p3 : Int32) (h0 : Heap) (n0 : Nat) (kc : ClassId) (f : Nat → Int32) (v : Option Value) (h : Heap) (L : List Loc) : Prop := v = some (.int (own_end p1 p3)) ∧ Fr n0 L ∧ Keep h0 h [a2] ∧ Arv Z h a2 kc .byte (8 : Int32) ((List.range 8).map fun j => Value.int (own_wr p1 p3 f j)) (.int (0 : Int32))
set_option maxRecDepth 65536 in
set_option maxHeartbeats 40000000 in
theorem rm1 (l : Launch) (Z : State) (a0 : Array Value) (hw : ∀ d ∈ tables_1, d.before a0 Z = true) (ws : List Jvm.Cond) (p1 : Int32) (a2 : Addr) (p3 : Int32) (h0 : Heap) (n0 : Nat) (kc : ClassId) (f : Nat → Int32) (V_a2 : Arv Z h0 a2 kc .byte (8 : Int32) ((List.range 8).map fun j => Value.int (f j)) (.int (0 : Int32))) (g_a2 : n0 ≤ a2) (hat : 0 ≤ p3.toInt ∧ p3.toInt ≤ 3) :
    MetFree l (⟨"com/example/holdfast/holdfast/Varint", "write", "(I[BI)I"⟩ : MethodName) (head1 (Jvm.Cond.code (⟨"com/example/holdfast/holdfast/Varint", "write", "(I[BI)I"⟩ : MethodName) prog_78_method_3_code 5 (some .int) :: ws) ({ frames := 0, cells := 0, slots := 0, locals := 0 } : Room)) (fun a U => a = #[(.int p1), (.ref a2), (.int p3)] ∧ Z.Warmed39 U.vm ∧ U.heap = h0) (fun _ _ _ _ _ => True) (fun _ U o U' => ∃ v L, o = .returned v ∧ (Q1 Z p1 a2 p3 h0 n0 kc f) v U'.heap L ∧ FrameEnd U o U' L ({ frames := 0, cells := 0, slots := 0, locals := 0 } : Room).cells ({ frames := 0, cells := 0, slots := 0, locals := 0 } : Room).slots) := by
  refine MetFree.of_bodySF (plainFor_of_name pn_1) hisR ?_
  intro p e s m args below meth c s₁ Bd hml0 hP hK
  obtain ⟨rfl, hZ, hh⟩ := hP
  have hown : s.vm.findClass "com/example/holdfast/holdfast/Varint" = some m.cls := findClass_of_methodNamed Bd.named
  have hnm := (name_of_methodNamed Bd.named Bd.method).1
  have X0 : Stand p l e ({ frames := 0, cells := 0, slots := 0, locals := 0 } : Room) s m #[(.int p1), (.ref a2), (.int p3)] below meth c s₁ [] 0 0 := Stand.of_body Bd
  have e0 : s₁.heap = h0 := by rw [← hh, Bd.state]; rfl
  have d := bk1_0 (n0 := n0) Bd.exec hZ hw Bd.bytes hml0 hown hnm Bd.returns (BodyLoose.notSynchronized Bd) X0 (Fr.nil n0) e0 p1 a2 p3 kc f V_a2 g_a2 hat
  have d2 : Done p e below s ({ frames := 0, cells := 0, slots := 0, locals := 0 } : Room) (Q1 Z p1 a2 p3 h0 n0 kc f) s₁ (entryFrame m #[(.int p1), (.ref a2), (.int p3)] 5) := by rw [ef_1]; exact d
  exact d2
theorem d2_0 : decode prog_78_method_4_code 0 = .ok (.iconst 0, 1) := by decide +kernel
theorem d2_1 : decode prog_78_method_4_code 1 = .ok (.istore_n 2, 1) := by decide +kernel
theorem d2_2 : decode prog_78_method_4_code 2 = .ok (.iconst 0, 1) := by decide +kernel
theorem d2_3 : decode prog_78_method_4_code 3 = .ok (.istore_n 3, 1) := by decide +kernel
theorem d2_4 : decode prog_78_method_4_code 4 = .ok (.iload_n 1, 1) := by decide +kernel
theorem d2_5 : decode prog_78_method_4_code 5 = .ok (.istore 4, 2) := by decide +kernel
theorem d2_7 : decode prog_78_method_4_code 7 = .ok (.aload_n 0, 1) := by decide +kernel
theorem d2_8 : decode prog_78_method_4_code 8 = .ok (.iload 4, 2) := by decide +kernel
theorem d2_10 : decode prog_78_method_4_code 10 = .ok (.baload, 1) := by decide +kernel
theorem d2_11 : decode prog_78_method_4_code 11 = .ok (.istore 5, 2) := by decide +kernel
theorem d2_13 : decode prog_78_method_4_code 13 = .ok (.iload 5, 2) := by decide +kernel
theorem d2_15 : decode prog_78_method_4_code 15 = .ok (.ifCond .ge 28, 3) := by decide +kernel
theorem d2_18 : decode prog_78_method_4_code 18 = .ok (.iload_n 2, 1) := by decide +kernel
theorem d2_19 : decode prog_78_method_4_code 19 = .ok (.iload 5, 2) := by decide +kernel
theorem d2_21 : decode prog_78_method_4_code 21 = .ok (.bipush 127, 2) := by decide +kernel
theorem d2_23 : decode prog_78_method_4_code 23 = .ok (.iand, 1) := by decide +kernel
theorem d2_24 : decode prog_78_method_4_code 24 = .ok (.iload_n 3, 1) := by decide +kernel
theorem d2_25 : decode prog_78_method_4_code 25 = .ok (.ishl, 1) := by decide +kernel
theorem d2_26 : decode prog_78_method_4_code 26 = .ok (.ior, 1) := by decide +kernel
theorem d2_27 : decode prog_78_method_4_code 27 = .ok (.istore_n 2, 1) := by decide +kernel
theorem d2_28 : decode prog_78_method_4_code 28 = .ok (.iinc 3 7, 3) := by decide +kernel
theorem d2_31 : decode prog_78_method_4_code 31 = .ok (.aload_n 0, 1) := by decide +kernel
theorem d2_32 : decode prog_78_method_4_code 32 = .ok (.iinc 4 1, 3) := by decide +kernel
theorem d2_35 : decode prog_78_method_4_code 35 = .ok (.iload 4, 2) := by decide +kernel
theorem d2_37 : decode prog_78_method_4_code 37 = .ok (.baload, 1) := by decide +kernel
theorem d2_38 : decode prog_78_method_4_code 38 = .ok (.istore 5, 2) := by decide +kernel
theorem d2_40 : decode prog_78_method_4_code 40 = .ok (.goto (-27), 3) := by decide +kernel
theorem d2_43 : decode prog_78_method_4_code 43 = .ok (.iload_n 2, 1) := by decide +kernel
theorem d2_44 : decode prog_78_method_4_code 44 = .ok (.iload 5, 2) := by decide +kernel
theorem d2_46 : decode prog_78_method_4_code 46 = .ok (.iload_n 3, 1) := by decide +kernel
theorem d2_47 : decode prog_78_method_4_code 47 = .ok (.ishl, 1) := by decide +kernel
theorem d2_48 : decode prog_78_method_4_code 48 = .ok (.ior, 1) := by decide +kernel
theorem d2_49 : decode prog_78_method_4_code 49 = .ok (.ireturn, 1) := by decide +kernel
def F2_0 (p2 : Int32) (f : Nat → Int32) : Int32 := (if (f (p2).toNatClampNeg) < (0 : Int32) then (if (f ((p2 + (1 : Int32))).toNatClampNeg) < (0 : Int32) then (if (f (((p2 + (1 : Int32)) + (1 : Int32))).toNatClampNeg) < (0 : Int32) then (if (f ((((p2 + (1 : Int32)) + (1 : Int32)) + (1 : Int32))).toNatClampNeg) < (0 : Int32) then ((((((0 : Int32) ||| (((f (p2).toNatClampNeg) &&& (127 : Int32)) <<< ((0 : Int32) &&& 31))) ||| (((f ((p2 + (1 : Int32))).toNatClampNeg) &&& (127 : Int32)) <<< ((7 : Int32) &&& 31))) ||| (((f (((p2 + (1 : Int32)) + (1 : Int32))).toNatClampNeg) &&& (127 : Int32)) <<< ((14 : Int32) &&& 31))) ||| (((f ((((p2 + (1 : Int32)) + (1 : Int32)) + (1 : Int32))).toNatClampNeg) &&& (127 : Int32)) <<< ((21 : Int32) &&& 31))) ||| ((f (((((p2 + (1 : Int32)) + (1 : Int32)) + (1 : Int32)) + (1 : Int32))).toNatClampNeg) <<< ((28 : Int32) &&& 31))) else (((((0 : Int32) ||| (((f (p2).toNatClampNeg) &&& (127 : Int32)) <<< ((0 : Int32) &&& 31))) ||| (((f ((p2 + (1 : Int32))).toNatClampNeg) &&& (127 : Int32)) <<< ((7 : Int32) &&& 31))) ||| (((f (((p2 + (1 : Int32)) + (1 : Int32))).toNatClampNeg) &&& (127 : Int32)) <<< ((14 : Int32) &&& 31))) ||| ((f ((((p2 + (1 : Int32)) + (1 : Int32)) + (1 : Int32))).toNatClampNeg) <<< ((21 : Int32) &&& 31)))) else ((((0 : Int32) ||| (((f (p2).toNatClampNeg) &&& (127 : Int32)) <<< ((0 : Int32) &&& 31))) ||| (((f ((p2 + (1 : Int32))).toNatClampNeg) &&& (127 : Int32)) <<< ((7 : Int32) &&& 31))) ||| ((f (((p2 + (1 : Int32)) + (1 : Int32))).toNatClampNeg) <<< ((14 : Int32) &&& 31)))) else (((0 : Int32) ||| (((f (p2).toNatClampNeg) &&& (127 : Int32)) <<< ((0 : Int32) &&& 31))) ||| ((f ((p2 + (1 : Int32))).toNatClampNeg) <<< ((7 : Int32) &&& 31)))) else ((0 : Int32) ||| ((f (p2).toNatClampNeg) <<< ((0 : Int32) &&& 31))))
set_option maxRecDepth 65536 in
set_option maxHeartbeats 40000000 in
theorem bk2_0 {p : Program} {l : Launch} {e : Env} {s : State} {m : MethodId} {args : Array Value} {below : List Frame} {meth : Method} {c : Code} {T0 : State} {locs : List Loc} {Z : State} {a0 : Array Value} {h0 : Heap} {n0 : Nat}
    (hx : p.tables.exec = Jvm.exec) (hZ : Z.Warmed39 s.vm) (hw : ∀ d ∈ tables_1, d.before a0 Z = true) (hby : c.code = prog_78_method_4_code) (hml : c.maxLocals = 6) (hown : s.vm.findClass "com/example/holdfast/holdfast/Varint" = some m.cls) (hnm : meth.name = "read") (hret : meth.sig.returnType = some .int) (hlk : meth.locks = false)
    (X0 : Stand p l e ({ frames := 0, cells := 0, slots := 0, locals := 0 } : Room) s m args below meth c T0 locs 0 0) (N0 : Fr n0 locs) (e0 : T0.heap = h0) (a1 : Addr) (p2 : Int32) (kc : ClassId) (f : Nat → Int32) (V_a1 : Arv Z h0 a1 kc .byte (8 : Int32) ((List.range 8).map fun j => Value.int (f j)) (.int (0 : Int32))) (hat : 0 ≤ p2.toInt ∧ p2.toInt ≤ 3) (hend : (f (p2).toNatClampNeg) < (0 : Int32) → (f ((p2 + (1 : Int32))).toNatClampNeg) < (0 : Int32) → (f (((p2 + (1 : Int32)) + (1 : Int32))).toNatClampNeg) < (0 : Int32) → (f ((((p2 + (1 : Int32)) + (1 : Int32)) + (1 : Int32))).toNatClampNeg) < (0 : Int32) → ¬ (f (((((p2 + (1 : Int32)) + (1 : Int32)) + (1 : Int32)) + (1 : Int32))).toNatClampNeg) < (0 : Int32)) :
    Done p e below s ({ frames := 0, cells := 0, slots := 0, locals := 0 } : Room) (Qp h0 n0 (.int (F2_0 p2 f))) T0 (mkF m 0 #[.val (.ref a1), .val (.int p2), .unset, .unset, .unset, .unset] []) := by
  unfold F2_0
  refine Done.of (T' := T0) (g' := (mkF m 10 #[.val (.ref a1), .val (.int p2), .val (.int (0 : Int32)), .val (.int (0 : Int32)), .val (.int p2), .unset] [(.int p2), (.ref a1)])) (fun t k => ?_) ?_
  · show Steps p.tables e below (T0.setTop (mkF m 0 #[.val (.ref a1), .val (.int p2), .unset, .unset, .unset, .unset] [])) t
    refine XS.iconst X0.here hx rfl (hb hby d2_0) ?_
    show Steps p.tables e below (T0.setTop (mkF m 1 #[.val (.ref a1), .val (.int p2), .unset, .unset, .unset, .unset] [(.int (0 : Int32))])) t
    refine XS.istoreN X0.here hx rfl (hb hby d2_1) rfl (l' := #[.val (.ref a1), .val (.int p2), .val (.int (0 : Int32)), .unset, .unset, .unset]) rfl ?_
    show Steps p.tables e below (T0.setTop (mkF m 2 #[.val (.ref a1), .val (.int p2), .val (.int (0 : Int32)), .unset, .unset, .unset] [])) t
    refine XS.iconst X0.here hx rfl (hb hby d2_2) ?_
    show Steps p.tables e below (T0.setTop (mkF m 3 #[.val (.ref a1), .val (.int p2), .val (.int (0 : Int32)), .unset, .unset, .unset] [(.int (0 : Int32))])) t
    refine XS.istoreN X0.here hx rfl (hb hby d2_3) rfl (l' := #[.val (.ref a1), .val (.int p2), .val (.int (0 : Int32)), .val (.int (0 : Int32)), .unset, .unset]) rfl ?_
    show Steps p.tables e below (T0.setTop (mkF m 4 #[.val (.ref a1), .val (.int p2), .val (.int (0 : Int32)), .val (.int (0 : Int32)), .unset, .unset] [])) t
    refine XS.iloadN X0.here hx rfl (hb hby d2_4) rfl ?_
    show Steps p.tables e below (T0.setTop (mkF m 5 #[.val (.ref a1), .val (.int p2), .val (.int (0 : Int32)), .val (.int (0 : Int32)), .unset, .unset] [(.int p2)])) t
    refine XS.istore X0.here hx rfl (hb hby d2_5) rfl (l' := #[.val (.ref a1), .val (.int p2), .val (.int (0 : Int32)), .val (.int (0 : Int32)), .val (.int p2), .unset]) rfl ?_
    show Steps p.tables e below (T0.setTop (mkF m 7 #[.val (.ref a1), .val (.int p2), .val (.int (0 : Int32)), .val (.int (0 : Int32)), .val (.int p2), .unset] [])) t
    refine XS.aloadN X0.here hx rfl (hb hby d2_7) rfl rfl ?_
    show Steps p.tables e below (T0.setTop (mkF m 8 #[.val (.ref a1), .val (.int p2), .val (.int (0 : Int32)), .val (.int (0 : Int32)), .val (.int p2), .unset] [(.ref a1)])) t
    refine XS.iload X0.here hx rfl (hb hby d2_8) rfl ?_
    exact k
  obtain ⟨cl_o2, Ar_o2, q_o2, S_o2, Nn_o2, H_o2, G_o2⟩ := id V_a1
  have hin1 : ¬ (p2 < 0 ∨ cl_o2.slots.size ≤ (p2).toNatClampNeg) := inb_of S_o2 (own_ix0 hat)
  have hat1 : cl_o2.slots[(p2).toNatClampNeg]? = some (.int (f (p2).toNatClampNeg)) := own_hatF H_o2 (own_sz S_o2) hin1
  refine Done.of (g' := (mkF m 11 #[.val (.ref a1), .val (.int p2), .val (.int (0 : Int32)), .val (.int (0 : Int32)), .val (.int p2), .unset] [(.int (f (p2).toNatClampNeg))])) (X0.baloadBytes hx (j := p2) (v := (.int (f (p2).toNatClampNeg))) (by rw [e0]; exact Ar_o2.1) (State.isArrayOf_alike hZ.alike Ar_o2.2.1) Ar_o2.2.2 hin1 hat1 (g := (mkF m 10 #[.val (.ref a1), .val (.int p2), .val (.int (0 : Int32)), .val (.int (0 : Int32)), .val (.int p2), .unset] [(.int p2), (.ref a1)])) rfl rfl (hb hby d2_10)) ?_
  refine Done.of (T' := T0) (g' := (mkF m 15 #[.val (.ref a1), .val (.int p2), .val (.int (0 : Int32)), .val (.int (0 : Int32)), .val (.int p2), .val (.int (f (p2).toNatClampNeg))] [(.int (f (p2).toNatClampNeg))])) (fun t k => ?_) ?_
  · show Steps p.tables e below (T0.setTop (mkF m 11 #[.val (.ref a1), .val (.int p2), .val (.int (0 : Int32)), .val (.int (0 : Int32)), .val (.int p2), .unset] [(.int (f (p2).toNatClampNeg))])) t
    refine XS.istore X0.here hx rfl (hb hby d2_11) rfl (l' := #[.val (.ref a1), .val (.int p2), .val (.int (0 : Int32)), .val (.int (0 : Int32)), .val (.int p2), .val (.int (f (p2).toNatClampNeg))]) rfl ?_
    show Steps p.tables e below (T0.setTop (mkF m 13 #[.val (.ref a1), .val (.int p2), .val (.int (0 : Int32)), .val (.int (0 : Int32)), .val (.int p2), .val (.int (f (p2).toNatClampNeg))] [])) t
    refine XS.iload X0.here hx rfl (hb hby d2_13) rfl ?_
    exact k
  by_cases hc15_2 : (f (p2).toNatClampNeg) < (0 : Int32)
  · rw [if_pos hc15_2]
    refine Done.of (T' := T0) (g' := (mkF m 37 #[.val (.ref a1), .val (.int p2), .val (.int ((0 : Int32) ||| (((f (p2).toNatClampNeg) &&& (127 : Int32)) <<< ((0 : Int32) &&& 31)))), .val (.int (7 : Int32)), .val (.int (p2 + (1 : Int32))), .val (.int (f (p2).toNatClampNeg))] [(.int (p2 + (1 : Int32))), (.ref a1)])) (fun t k => ?_) ?_
    · show Steps p.tables e below (T0.setTop (mkF m 15 #[.val (.ref a1), .val (.int p2), .val (.int (0 : Int32)), .val (.int (0 : Int32)), .val (.int p2), .val (.int (f (p2).toNatClampNeg))] [(.int (f (p2).toNatClampNeg))])) t
      refine XS.ifNo X0.here hx rfl (hb hby d2_15) rfl ((if0 _ _).trans (tlt hc15_2).2.1) ?_
      show Steps p.tables e below (T0.setTop (mkF m 18 #[.val (.ref a1), .val (.int p2), .val (.int (0 : Int32)), .val (.int (0 : Int32)), .val (.int p2), .val (.int (f (p2).toNatClampNeg))] [])) t
      refine XS.iloadN X0.here hx rfl (hb hby d2_18) rfl ?_
      show Steps p.tables e below (T0.setTop (mkF m 19 #[.val (.ref a1), .val (.int p2), .val (.int (0 : Int32)), .val (.int (0 : Int32)), .val (.int p2), .val (.int (f (p2).toNatClampNeg))] [(.int (0 : Int32))])) t
      refine XS.iload X0.here hx rfl (hb hby d2_19) rfl ?_
      show Steps p.tables e below (T0.setTop (mkF m 21 #[.val (.ref a1), .val (.int p2), .val (.int (0 : Int32)), .val (.int (0 : Int32)), .val (.int p2), .val (.int (f (p2).toNatClampNeg))] [(.int (f (p2).toNatClampNeg)), (.int (0 : Int32))])) t
      refine XS.bipush X0.here hx rfl (hb hby d2_21) ?_
      show Steps p.tables e below (T0.setTop (mkF m 23 #[.val (.ref a1), .val (.int p2), .val (.int (0 : Int32)), .val (.int (0 : Int32)), .val (.int p2), .val (.int (f (p2).toNatClampNeg))] [(.int (127 : Int32)), (.int (f (p2).toNatClampNeg)), (.int (0 : Int32))])) t
      refine XS.iand X0.here hx rfl (hb hby d2_23) rfl ?_
      show Steps p.tables e below (T0.setTop (mkF m 24 #[.val (.ref a1), .val (.int p2), .val (.int (0 : Int32)), .val (.int (0 : Int32)), .val (.int p2), .val (.int (f (p2).toNatClampNeg))] [(.int ((f (p2).toNatClampNeg) &&& (127 : Int32))), (.int (0 : Int32))])) t
      refine XS.iloadN X0.here hx rfl (hb hby d2_24) rfl ?_
      show Steps p.tables e below (T0.setTop (mkF m 25 #[.val (.ref a1), .val (.int p2), .val (.int (0 : Int32)), .val (.int (0 : Int32)), .val (.int p2), .val (.int (f (p2).toNatClampNeg))] [(.int (0 : Int32)), (.int ((f (p2).toNatClampNeg) &&& (127 : Int32))), (.int (0 : Int32))])) t
      refine XS.ishl X0.here hx rfl (hb hby d2_25) rfl ?_
      show Steps p.tables e below (T0.setTop (mkF m 26 #[.val (.ref a1), .val (.int p2), .val (.int (0 : Int32)), .val (.int (0 : Int32)), .val (.int p2), .val (.int (f (p2).toNatClampNeg))] [(.int (((f (p2).toNatClampNeg) &&& (127 : Int32)) <<< ((0 : Int32) &&& 31))), (.int (0 : Int32))])) t
      refine XS.ior X0.here hx rfl (hb hby d2_26) rfl ?_
      show Steps p.tables e below (T0.setTop (mkF m 27 #[.val (.ref a1), .val (.int p2), .val (.int (0 : Int32)), .val (.int (0 : Int32)), .val (.int p2), .val (.int (f (p2).toNatClampNeg))] [(.int ((0 : Int32) ||| (((f (p2).toNatClampNeg) &&& (127 : Int32)) <<< ((0 : Int32) &&& 31))))])) t
      refine XS.istoreN X0.here hx rfl (hb hby d2_27) rfl (l' := #[.val (.ref a1), .val (.int p2), .val (.int ((0 : Int32) ||| (((f (p2).toNatClampNeg) &&& (127 : Int32)) <<< ((0 : Int32) &&& 31)))), .val (.int (0 : Int32)), .val (.int p2), .val (.int (f (p2).toNatClampNeg))]) rfl ?_
      show Steps p.tables e below (T0.setTop (mkF m 28 #[.val (.ref a1), .val (.int p2), .val (.int ((0 : Int32) ||| (((f (p2).toNatClampNeg) &&& (127 : Int32)) <<< ((0 : Int32) &&& 31)))), .val (.int (0 : Int32)), .val (.int p2), .val (.int (f (p2).toNatClampNeg))] [])) t
      refine XS.iinc X0.here hx rfl (hb hby d2_28) rfl (l' := #[.val (.ref a1), .val (.int p2), .val (.int ((0 : Int32) ||| (((f (p2).toNatClampNeg) &&& (127 : Int32)) <<< ((0 : Int32) &&& 31)))), .val (.int (7 : Int32)), .val (.int p2), .val (.int (f (p2).toNatClampNeg))]) rfl ?_
      show Steps p.tables e below (T0.setTop (mkF m 31 #[.val (.ref a1), .val (.int p2), .val (.int ((0 : Int32) ||| (((f (p2).toNatClampNeg) &&& (127 : Int32)) <<< ((0 : Int32) &&& 31)))), .val (.int (7 : Int32)), .val (.int p2), .val (.int (f (p2).toNatClampNeg))] [])) t
      refine XS.aloadN X0.here hx rfl (hb hby d2_31) rfl rfl ?_
      show Steps p.tables e below (T0.setTop (mkF m 32 #[.val (.ref a1), .val (.int p2), .val (.int ((0 : Int32) ||| (((f (p2).toNatClampNeg) &&& (127 : Int32)) <<< ((0 : Int32) &&& 31)))), .val (.int (7 : Int32)), .val (.int p2), .val (.int (f (p2).toNatClampNeg))] [(.ref a1)])) t
      refine XS.iinc X0.here hx rfl (hb hby d2_32) rfl (l' := #[.val (.ref a1), .val (.int p2), .val (.int ((0 : Int32) ||| (((f (p2).toNatClampNeg) &&& (127 : Int32)) <<< ((0 : Int32) &&& 31)))), .val (.int (7 : Int32)), .val (.int (p2 + (1 : Int32))), .val (.int (f (p2).toNatClampNeg))]) rfl ?_
      show Steps p.tables e below (T0.setTop (mkF m 35 #[.val (.ref a1), .val (.int p2), .val (.int ((0 : Int32) ||| (((f (p2).toNatClampNeg) &&& (127 : Int32)) <<< ((0 : Int32) &&& 31)))), .val (.int (7 : Int32)), .val (.int (p2 + (1 : Int32))), .val (.int (f (p2).toNatClampNeg))] [(.ref a1)])) t
      refine XS.iload X0.here hx rfl (hb hby d2_35) rfl ?_
      exact k
    obtain ⟨cl_o5, Ar_o5, q_o5, S_o5, Nn_o5, H_o5, G_o5⟩ := id V_a1
    have hin4 : ¬ ((p2 + (1 : Int32)) < 0 ∨ cl_o5.slots.size ≤ ((p2 + (1 : Int32))).toNatClampNeg) := inb_of S_o5 (own_ix1 hat)
    have hat4 : cl_o5.slots[((p2 + (1 : Int32))).toNatClampNeg]? = some (.int (f ((p2 + (1 : Int32))).toNatClampNeg)) := own_hatF H_o5 (own_sz S_o5) hin4
    refine Done.of (g' := (mkF m 38 #[.val (.ref a1), .val (.int p2), .val (.int ((0 : Int32) ||| (((f (p2).toNatClampNeg) &&& (127 : Int32)) <<< ((0 : Int32) &&& 31)))), .val (.int (7 : Int32)), .val (.int (p2 + (1 : Int32))), .val (.int (f (p2).toNatClampNeg))] [(.int (f ((p2 + (1 : Int32))).toNatClampNeg))])) (X0.baloadBytes hx (j := (p2 + (1 : Int32))) (v := (.int (f ((p2 + (1 : Int32))).toNatClampNeg))) (by rw [e0]; exact Ar_o5.1) (State.isArrayOf_alike hZ.alike Ar_o5.2.1) Ar_o5.2.2 hin4 hat4 (g := (mkF m 37 #[.val (.ref a1), .val (.int p2), .val (.int ((0 : Int32) ||| (((f (p2).toNatClampNeg) &&& (127 : Int32)) <<< ((0 : Int32) &&& 31)))), .val (.int (7 : Int32)), .val (.int (p2 + (1 : Int32))), .val (.int (f (p2).toNatClampNeg))] [(.int (p2 + (1 : Int32))), (.ref a1)])) rfl rfl (hb hby d2_37)) ?_
    refine Done.of (T' := T0) (g' := (mkF m 15 #[.val (.ref a1), .val (.int p2), .val (.int ((0 : Int32) ||| (((f (p2).toNatClampNeg) &&& (127 : Int32)) <<< ((0 : Int32) &&& 31)))), .val (.int (7 : Int32)), .val (.int (p2 + (1 : Int32))), .val (.int (f ((p2 + (1 : Int32))).toNatClampNeg))] [(.int (f ((p2 + (1 : Int32))).toNatClampNeg))])) (fun t k => ?_) ?_
    · show Steps p.tables e below (T0.setTop (mkF m 38 #[.val (.ref a1), .val (.int p2), .val (.int ((0 : Int32) ||| (((f (p2).toNatClampNeg) &&& (127 : Int32)) <<< ((0 : Int32) &&& 31)))), .val (.int (7 : Int32)), .val (.int (p2 + (1 : Int32))), .val (.int (f (p2).toNatClampNeg))] [(.int (f ((p2 + (1 : Int32))).toNatClampNeg))])) t
      refine XS.istore X0.here hx rfl (hb hby d2_38) rfl (l' := #[.val (.ref a1), .val (.int p2), .val (.int ((0 : Int32) ||| (((f (p2).toNatClampNeg) &&& (127 : Int32)) <<< ((0 : Int32) &&& 31)))), .val (.int (7 : Int32)), .val (.int (p2 + (1 : Int32))), .val (.int (f ((p2 + (1 : Int32))).toNatClampNeg))]) rfl ?_
      show Steps p.tables e below (T0.setTop (mkF m 40 #[.val (.ref a1), .val (.int p2), .val (.int ((0 : Int32) ||| (((f (p2).toNatClampNeg) &&& (127 : Int32)) <<< ((0 : Int32) &&& 31)))), .val (.int (7 : Int32)), .val (.int (p2 + (1 : Int32))), .val (.int (f ((p2 + (1 : Int32))).toNatClampNeg))] [])) t
      refine XS.goto X0.here hx rfl (pc0 := 40) (pc' := 13) rfl (hb hby d2_40) (by decide) (by decide) ?_
      show Steps p.tables e below (T0.setTop (mkF m 13 #[.val (.ref a1), .val (.int p2), .val (.int ((0 : Int32) ||| (((f (p2).toNatClampNeg) &&& (127 : Int32)) <<< ((0 : Int32) &&& 31)))), .val (.int (7 : Int32)), .val (.int (p2 + (1 : Int32))), .val (.int (f ((p2 + (1 : Int32))).toNatClampNeg))] [])) t
      refine XS.iload X0.here hx rfl (hb hby d2_13) rfl ?_
      exact k
    by_cases hc15_5 : (f ((p2 + (1 : Int32))).toNatClampNeg) < (0 : Int32)
    · rw [if_pos hc15_5]
      refine Done.of (T' := T0) (g' := (mkF m 37 #[.val (.ref a1), .val (.int p2), .val (.int (((0 : Int32) ||| (((f (p2).toNatClampNeg) &&& (127 : Int32)) <<< ((0 : Int32) &&& 31))) ||| (((f ((p2 + (1 : Int32))).toNatClampNeg) &&& (127 : Int32)) <<< ((7 : Int32) &&& 31)))), .val (.int (14 : Int32)), .val (.int ((p2 + (1 : Int32)) + (1 : Int32))), .val (.int (f ((p2 + (1 : Int32))).toNatClampNeg))] [(.int ((p2 + (1 : Int32)) + (1 : Int32))), (.ref a1)])) (fun t k => ?_) ?_
      · show Steps p.tables e below (T0.setTop (mkF m 15 #[.val (.ref a1), .val (.int p2), .val (.int ((0 : Int32) ||| (((f (p2).toNatClampNeg) &&& (127 : Int32)) <<< ((0 : Int32) &&& 31)))), .val (.int (7 : Int32)), .val (.int (p2 + (1 : Int32))), .val (.int (f ((p2 + (1 : Int32))).toNatClampNeg))] [(.int (f ((p2 + (1 : Int32))).toNatClampNeg))])) t
        refine XS.ifNo X0.here hx rfl (hb hby d2_15) rfl ((if0 _ _).trans (tlt hc15_5).2.1) ?_
        show Steps p.tables e below (T0.setTop (mkF m 18 #[.val (.ref a1), .val (.int p2), .val (.int ((0 : Int32) ||| (((f (p2).toNatClampNeg) &&& (127 : Int32)) <<< ((0 : Int32) &&& 31)))), .val (.int (7 : Int32)), .val (.int (p2 + (1 : Int32))), .val (.int (f ((p2 + (1 : Int32))).toNatClampNeg))] [])) t
        refine XS.iloadN X0.here hx rfl (hb hby d2_18) rfl ?_
        show Steps p.tables e below (T0.setTop (mkF m 19 #[.val (.ref a1), .val (.int p2), .val (.int ((0 : Int32) ||| (((f (p2).toNatClampNeg) &&& (127 : Int32)) <<< ((0 : Int32) &&& 31)))), .val (.int (7 : Int32)), .val (.int (p2 + (1 : Int32))), .val (.int (f ((p2 + (1 : Int32))).toNatClampNeg))] [(.int ((0 : Int32) ||| (((f (p2).toNatClampNeg) &&& (127 : Int32)) <<< ((0 : Int32) &&& 31))))])) t
        refine XS.iload X0.here hx rfl (hb hby d2_19) rfl ?_
        show Steps p.tables e below (T0.setTop (mkF m 21 #[.val (.ref a1), .val (.int p2), .val (.int ((0 : Int32) ||| (((f (p2).toNatClampNeg) &&& (127 : Int32)) <<< ((0 : Int32) &&& 31)))), .val (.int (7 : Int32)), .val (.int (p2 + (1 : Int32))), .val (.int (f ((p2 + (1 : Int32))).toNatClampNeg))] [(.int (f ((p2 + (1 : Int32))).toNatClampNeg)), (.int ((0 : Int32) ||| (((f (p2).toNatClampNeg) &&& (127 : Int32)) <<< ((0 : Int32) &&& 31))))])) t
        refine XS.bipush X0.here hx rfl (hb hby d2_21) ?_
        show Steps p.tables e below (T0.setTop (mkF m 23 #[.val (.ref a1), .val (.int p2), .val (.int ((0 : Int32) ||| (((f (p2).toNatClampNeg) &&& (127 : Int32)) <<< ((0 : Int32) &&& 31)))), .val (.int (7 : Int32)), .val (.int (p2 + (1 : Int32))), .val (.int (f ((p2 + (1 : Int32))).toNatClampNeg))] [(.int (127 : Int32)), (.int (f ((p2 + (1 : Int32))).toNatClampNeg)), (.int ((0 : Int32) ||| (((f (p2).toNatClampNeg) &&& (127 : Int32)) <<< ((0 : Int32) &&& 31))))])) t
        refine XS.iand X0.here hx rfl (hb hby d2_23) rfl ?_
        show Steps p.tables e below (T0.setTop (mkF m 24 #[.val (.ref a1), .val (.int p2), .val (.int ((0 : Int32) ||| (((f (p2).toNatClampNeg) &&& (127 : Int32)) <<< ((0 : Int32) &&& 31)))), .val (.int (7 : Int32)), .val (.int (p2 + (1 : Int32))), .val (.int (f ((p2 + (1 : Int32))).toNatClampNeg))] [(.int ((f ((p2 + (1 : Int32))).toNatClampNeg) &&& (127 : Int32))), (.int ((0 : Int32) ||| (((f (p2).toNatClampNeg) &&& (127 : Int32)) <<< ((0 : Int32) &&& 31))))])) t
        refine XS.iloadN X0.here hx rfl (hb hby d2_24) rfl ?_
        show Steps p.tables e below (T0.setTop (mkF m 25 #[.val (.ref a1), .val (.int p2), .val (.int ((0 : Int32) ||| (((f (p2).toNatClampNeg) &&& (127 : Int32)) <<< ((0 : Int32) &&& 31)))), .val (.int (7 : Int32)), .val (.int (p2 + (1 : Int32))), .val (.int (f ((p2 + (1 : Int32))).toNatClampNeg))] [(.int (7 : Int32)), (.int ((f ((p2 + (1 : Int32))).toNatClampNeg) &&& (127 : Int32))), (.int ((0 : Int32) ||| (((f (p2).toNatClampNeg) &&& (127 : Int32)) <<< ((0 : Int32) &&& 31))))])) t
        refine XS.ishl X0.here hx rfl (hb hby d2_25) rfl ?_
        show Steps p.tables e below (T0.setTop (mkF m 26 #[.val (.ref a1), .val (.int p2), .val (.int ((0 : Int32) ||| (((f (p2).toNatClampNeg) &&& (127 : Int32)) <<< ((0 : Int32) &&& 31)))), .val (.int (7 : Int32)), .val (.int (p2 + (1 : Int32))), .val (.int (f ((p2 + (1 : Int32))).toNatClampNeg))] [(.int (((f ((p2 + (1 : Int32))).toNatClampNeg) &&& (127 : Int32)) <<< ((7 : Int32) &&& 31))), (.int ((0 : Int32) ||| (((f (p2).toNatClampNeg) &&& (127 : Int32)) <<< ((0 : Int32) &&& 31))))])) t
        refine XS.ior X0.here hx rfl (hb hby d2_26) rfl ?_
        show Steps p.tables e below (T0.setTop (mkF m 27 #[.val (.ref a1), .val (.int p2), .val (.int ((0 : Int32) ||| (((f (p2).toNatClampNeg) &&& (127 : Int32)) <<< ((0 : Int32) &&& 31)))), .val (.int (7 : Int32)), .val (.int (p2 + (1 : Int32))), .val (.int (f ((p2 + (1 : Int32))).toNatClampNeg))] [(.int (((0 : Int32) ||| (((f (p2).toNatClampNeg) &&& (127 : Int32)) <<< ((0 : Int32) &&& 31))) ||| (((f ((p2 + (1 : Int32))).toNatClampNeg) &&& (127 : Int32)) <<< ((7 : Int32) &&& 31))))])) t
        refine XS.istoreN X0.here hx rfl (hb hby d2_27) rfl (l' := #[.val (.ref a1), .val (.int p2), .val (.int (((0 : Int32) ||| (((f (p2).toNatClampNeg) &&& (127 : Int32)) <<< ((0 : Int32) &&& 31))) ||| (((f ((p2 + (1 : Int32))).toNatClampNeg) &&& (127 : Int32)) <<< ((7 : Int32) &&& 31)))), .val (.int (7 : Int32)), .val (.int (p2 + (1 : Int32))), .val (.int (f ((p2 + (1 : Int32))).toNatClampNeg))]) rfl ?_
        show Steps p.tables e below (T0.setTop (mkF m 28 #[.val (.ref a1), .val (.int p2), .val (.int (((0 : Int32) ||| (((f (p2).toNatClampNeg) &&& (127 : Int32)) <<< ((0 : Int32) &&& 31))) ||| (((f ((p2 + (1 : Int32))).toNatClampNeg) &&& (127 : Int32)) <<< ((7 : Int32) &&& 31)))), .val (.int (7 : Int32)), .val (.int (p2 + (1 : Int32))), .val (.int (f ((p2 + (1 : Int32))).toNatClampNeg))] [])) t
        refine XS.iinc X0.here hx rfl (hb hby d2_28) rfl (l' := #[.val (.ref a1), .val (.int p2), .val (.int (((0 : Int32) ||| (((f (p2).toNatClampNeg) &&& (127 : Int32)) <<< ((0 : Int32) &&& 31))) ||| (((f ((p2 + (1 : Int32))).toNatClampNeg) &&& (127 : Int32)) <<< ((7 : Int32) &&& 31)))), .val (.int (14 : Int32)), .val (.int (p2 + (1 : Int32))), .val (.int (f ((p2 + (1 : Int32))).toNatClampNeg))]) rfl ?_
        show Steps p.tables e below (T0.setTop (mkF m 31 #[.val (.ref a1), .val (.int p2), .val (.int (((0 : Int32) ||| (((f (p2).toNatClampNeg) &&& (127 : Int32)) <<< ((0 : Int32) &&& 31))) ||| (((f ((p2 + (1 : Int32))).toNatClampNeg) &&& (127 : Int32)) <<< ((7 : Int32) &&& 31)))), .val (.int (14 : Int32)), .val (.int (p2 + (1 : Int32))), .val (.int (f ((p2 + (1 : Int32))).toNatClampNeg))] [])) t
        refine XS.aloadN X0.here hx rfl (hb hby d2_31) rfl rfl ?_
        show Steps p.tables e below (T0.setTop (mkF m 32 #[.val (.ref a1), .val (.int p2), .val (.int (((0 : Int32) ||| (((f (p2).toNatClampNeg) &&& (127 : Int32)) <<< ((0 : Int32) &&& 31))) ||| (((f ((p2 + (1 : Int32))).toNatClampNeg) &&& (127 : Int32)) <<< ((7 : Int32) &&& 31)))), .val (.int (14 : Int32)), .val (.int (p2 + (1 : Int32))), .val (.int (f ((p2 + (1 : Int32))).toNatClampNeg))] [(.ref a1)])) t
        refine XS.iinc X0.here hx rfl (hb hby d2_32) rfl (l' := #[.val (.ref a1), .val (.int p2), .val (.int (((0 : Int32) ||| (((f (p2).toNatClampNeg) &&& (127 : Int32)) <<< ((0 : Int32) &&& 31))) ||| (((f ((p2 + (1 : Int32))).toNatClampNeg) &&& (127 : Int32)) <<< ((7 : Int32) &&& 31)))), .val (.int (14 : Int32)), .val (.int ((p2 + (1 : Int32)) + (1 : Int32))), .val (.int (f ((p2 + (1 : Int32))).toNatClampNeg))]) rfl ?_
        show Steps p.tables e below (T0.setTop (mkF m 35 #[.val (.ref a1), .val (.int p2), .val (.int (((0 : Int32) ||| (((f (p2).toNatClampNeg) &&& (127 : Int32)) <<< ((0 : Int32) &&& 31))) ||| (((f ((p2 + (1 : Int32))).toNatClampNeg) &&& (127 : Int32)) <<< ((7 : Int32) &&& 31)))), .val (.int (14 : Int32)), .val (.int ((p2 + (1 : Int32)) + (1 : Int32))), .val (.int (f ((p2 + (1 : Int32))).toNatClampNeg))] [(.ref a1)])) t
        refine XS.iload X0.here hx rfl (hb hby d2_35) rfl ?_
        exact k
      obtain ⟨cl_o8, Ar_o8, q_o8, S_o8, Nn_o8, H_o8, G_o8⟩ := id V_a1
      have hin7 : ¬ (((p2 + (1 : Int32)) + (1 : Int32)) < 0 ∨ cl_o8.slots.size ≤ (((p2 + (1 : Int32)) + (1 : Int32))).toNatClampNeg) := inb_of S_o8 (own_ix2 hat)
      have hat7 : cl_o8.slots[(((p2 + (1 : Int32)) + (1 : Int32))).toNatClampNeg]? = some (.int (f (((p2 + (1 : Int32)) + (1 : Int32))).toNatClampNeg)) := own_hatF H_o8 (own_sz S_o8) hin7
      refine Done.of (g' := (mkF m 38 #[.val (.ref a1), .val (.int p2), .val (.int (((0 : Int32) ||| (((f (p2).toNatClampNeg) &&& (127 : Int32)) <<< ((0 : Int32) &&& 31))) ||| (((f ((p2 + (1 : Int32))).toNatClampNeg) &&& (127 : Int32)) <<< ((7 : Int32) &&& 31)))), .val (.int (14 : Int32)), .val (.int ((p2 + (1 : Int32)) + (1 : Int32))), .val (.int (f ((p2 + (1 : Int32))).toNatClampNeg))] [(.int (f (((p2 + (1 : Int32)) + (1 : Int32))).toNatClampNeg))])) (X0.baloadBytes hx (j := ((p2 + (1 : Int32)) + (1 : Int32))) (v := (.int (f (((p2 + (1 : Int32)) + (1 : Int32))).toNatClampNeg))) (by rw [e0]; exact Ar_o8.1) (State.isArrayOf_alike hZ.alike Ar_o8.2.1) Ar_o8.2.2 hin7 hat7 (g := (mkF m 37 #[.val (.ref a1), .val (.int p2), .val (.int (((0 : Int32) ||| (((f (p2).toNatClampNeg) &&& (127 : Int32)) <<< ((0 : Int32) &&& 31))) ||| (((f ((p2 + (1 : Int32))).toNatClampNeg) &&& (127 : Int32)) <<< ((7 : Int32) &&& 31)))), .val (.int (14 : Int32)), .val (.int ((p2 + (1 : Int32)) + (1 : Int32))), .val (.int (f ((p2 + (1 : Int32))).toNatClampNeg))] [(.int ((p2 + (1 : Int32)) + (1 : Int32))), (.ref a1)])) rfl rfl (hb hby d2_37)) ?_
      refine Done.of (T' := T0) (g' := (mkF m 15 #[.val (.ref a1), .val (.int p2), .val (.int (((0 : Int32) ||| (((f (p2).toNatClampNeg) &&& (127 : Int32)) <<< ((0 : Int32) &&& 31))) ||| (((f ((p2 + (1 : Int32))).toNatClampNeg) &&& (127 : Int32)) <<< ((7 : Int32) &&& 31)))), .val (.int (14 : Int32)), .val (.int ((p2 + (1 : Int32)) + (1 : Int32))), .val (.int (f (((p2 + (1 : Int32)) + (1 : Int32))).toNatClampNeg))] [(.int (f (((p2 + (1 : Int32)) + (1 : Int32))).toNatClampNeg))])) (fun t k => ?_) ?_
      · show Steps p.tables e below (T0.setTop (mkF m 38 #[.val (.ref a1), .val (.int p2), .val (.int (((0 : Int32) ||| (((f (p2).toNatClampNeg) &&& (127 : Int32)) <<< ((0 : Int32) &&& 31))) ||| (((f ((p2 + (1 : Int32))).toNatClampNeg) &&& (127 : Int32)) <<< ((7 : Int32) &&& 31)))), .val (.int (14 : Int32)), .val (.int ((p2 + (1 : Int32)) + (1 : Int32))), .val (.int (f ((p2 + (1 : Int32))).toNatClampNeg))] [(.int (f (((p2 + (1 : Int32)) + (1 : Int32))).toNatClampNeg))])) t
        refine XS.istore X0.here hx rfl (hb hby d2_38) rfl (l' := #[.val (.ref a1), .val (.int p2), .val (.int (((0 : Int32) ||| (((f (p2).toNatClampNeg) &&& (127 : Int32)) <<< ((0 : Int32) &&& 31))) ||| (((f ((p2 + (1 : Int32))).toNatClampNeg) &&& (127 : Int32)) <<< ((7 : Int32) &&& 31)))), .val (.int (14 : Int32)), .val (.int ((p2 + (1 : Int32)) + (1 : Int32))), .val (.int (f (((p2 + (1 : Int32)) + (1 : Int32))).toNatClampNeg))]) rfl ?_
        show Steps p.tables e below (T0.setTop (mkF m 40 #[.val (.ref a1), .val (.int p2), .val (.int (((0 : Int32) ||| (((f (p2).toNatClampNeg) &&& (127 : Int32)) <<< ((0 : Int32) &&& 31))) ||| (((f ((p2 + (1 : Int32))).toNatClampNeg) &&& (127 : Int32)) <<< ((7 : Int32) &&& 31)))), .val (.int (14 : Int32)), .val (.int ((p2 + (1 : Int32)) + (1 : Int32))), .val (.int (f (((p2 + (1 : Int32)) + (1 : Int32))).toNatClampNeg))] [])) t
        refine XS.goto X0.here hx rfl (pc0 := 40) (pc' := 13) rfl (hb hby d2_40) (by decide) (by decide) ?_
        show Steps p.tables e below (T0.setTop (mkF m 13 #[.val (.ref a1), .val (.int p2), .val (.int (((0 : Int32) ||| (((f (p2).toNatClampNeg) &&& (127 : Int32)) <<< ((0 : Int32) &&& 31))) ||| (((f ((p2 + (1 : Int32))).toNatClampNeg) &&& (127 : Int32)) <<< ((7 : Int32) &&& 31)))), .val (.int (14 : Int32)), .val (.int ((p2 + (1 : Int32)) + (1 : Int32))), .val (.int (f (((p2 + (1 : Int32)) + (1 : Int32))).toNatClampNeg))] [])) t
        refine XS.iload X0.here hx rfl (hb hby d2_13) rfl ?_
        exact k
      by_cases hc15_8 : (f (((p2 + (1 : Int32)) + (1 : Int32))).toNatClampNeg) < (0 : Int32)
      · rw [if_pos hc15_8]
        refine Done.of (T' := T0) (g' := (mkF m 37 #[.val (.ref a1), .val (.int p2), .val (.int ((((0 : Int32) ||| (((f (p2).toNatClampNeg) &&& (127 : Int32)) <<< ((0 : Int32) &&& 31))) ||| (((f ((p2 + (1 : Int32))).toNatClampNeg) &&& (127 : Int32)) <<< ((7 : Int32) &&& 31))) ||| (((f (((p2 + (1 : Int32)) + (1 : Int32))).toNatClampNeg) &&& (127 : Int32)) <<< ((14 : Int32) &&& 31)))), .val (.int (21 : Int32)), .val (.int (((p2 + (1 : Int32)) + (1 : Int32)) + (1 : Int32))), .val (.int (f (((p2 + (1 : Int32)) + (1 : Int32))).toNatClampNeg))] [(.int (((p2 + (1 : Int32)) + (1 : Int32)) + (1 : Int32))), (.ref a1)])) (fun t k => ?_) ?_
        · show Steps p.tables e below (T0.setTop (mkF m 15 #[.val (.ref a1), .val (.int p2), .val (.int (((0 : Int32) ||| (((f (p2).toNatClampNeg) &&& (127 : Int32)) <<< ((0 : Int32) &&& 31))) ||| (((f ((p2 + (1 : Int32))).toNatClampNeg) &&& (127 : Int32)) <<< ((7 : Int32) &&& 31)))), .val (.int (14 : Int32)), .val (.int ((p2 + (1 : Int32)) + (1 : Int32))), .val (.int (f (((p2 + (1 : Int32)) + (1 : Int32))).toNatClampNeg))] [(.int (f (((p2 + (1 : Int32)) + (1 : Int32))).toNatClampNeg))])) t
          refine XS.ifNo X0.here hx rfl (hb hby d2_15) rfl ((if0 _ _).trans (tlt hc15_8).2.1) ?_
          show Steps p.tables e below (T0.setTop (mkF m 18 #[.val (.ref a1), .val (.int p2), .val (.int (((0 : Int32) ||| (((f (p2).toNatClampNeg) &&& (127 : Int32)) <<< ((0 : Int32) &&& 31))) ||| (((f ((p2 + (1 : Int32))).toNatClampNeg) &&& (127 : Int32)) <<< ((7 : Int32) &&& 31)))), .val (.int (14 : Int32)), .val (.int ((p2 + (1 : Int32)) + (1 : Int32))), .val (.int (f (((p2 + (1 : Int32)) + (1 : Int32))).toNatClampNeg))] [])) t
          refine XS.iloadN X0.here hx rfl (hb hby d2_18) rfl ?_
          show Steps p.tables e below (T0.setTop (mkF m 19 #[.val (.ref a1), .val (.int p2), .val (.int (((0 : Int32) ||| (((f (p2).toNatClampNeg) &&& (127 : Int32)) <<< ((0 : Int32) &&& 31))) ||| (((f ((p2 + (1 : Int32))).toNatClampNeg) &&& (127 : Int32)) <<< ((7 : Int32) &&& 31)))), .val (.int (14 : Int32)), .val (.int ((p2 + (1 : Int32)) + (1 : Int32))), .val (.int (f (((p2 + (1 : Int32)) + (1 : Int32))).toNatClampNeg))] [(.int (((0 : Int32) ||| (((f (p2).toNatClampNeg) &&& (127 : Int32)) <<< ((0 : Int32) &&& 31))) ||| (((f ((p2 + (1 : Int32))).toNatClampNeg) &&& (127 : Int32)) <<< ((7 : Int32) &&& 31))))])) t
          refine XS.iload X0.here hx rfl (hb hby d2_19) rfl ?_
          show Steps p.tables e below (T0.setTop (mkF m 21 #[.val (.ref a1), .val (.int p2), .val (.int (((0 : Int32) ||| (((f (p2).toNatClampNeg) &&& (127 : Int32)) <<< ((0 : Int32) &&& 31))) ||| (((f ((p2 + (1 : Int32))).toNatClampNeg) &&& (127 : Int32)) <<< ((7 : Int32) &&& 31)))), .val (.int (14 : Int32)), .val (.int ((p2 + (1 : Int32)) + (1 : Int32))), .val (.int (f (((p2 + (1 : Int32)) + (1 : Int32))).toNatClampNeg))] [(.int (f (((p2 + (1 : Int32)) + (1 : Int32))).toNatClampNeg)), (.int (((0 : Int32) ||| (((f (p2).toNatClampNeg) &&& (127 : Int32)) <<< ((0 : Int32) &&& 31))) ||| (((f ((p2 + (1 : Int32))).toNatClampNeg) &&& (127 : Int32)) <<< ((7 : Int32) &&& 31))))])) t
          refine XS.bipush X0.here hx rfl (hb hby d2_21) ?_
          show Steps p.tables e below (T0.setTop (mkF m 23 #[.val (.ref a1), .val (.int p2), .val (.int (((0 : Int32) ||| (((f (p2).toNatClampNeg) &&& (127 : Int32)) <<< ((0 : Int32) &&& 31))) ||| (((f ((p2 + (1 : Int32))).toNatClampNeg) &&& (127 : Int32)) <<< ((7 : Int32) &&& 31)))), .val (.int (14 : Int32)), .val (.int ((p2 + (1 : Int32)) + (1 : Int32))), .val (.int (f (((p2 + (1 : Int32)) + (1 : Int32))).toNatClampNeg))] [(.int (127 : Int32)), (.int (f (((p2 + (1 : Int32)) + (1 : Int32))).toNatClampNeg)), (.int (((0 : Int32) ||| (((f (p2).toNatClampNeg) &&& (127 : Int32)) <<< ((0 : Int32) &&& 31))) ||| (((f ((p2 + (1 : Int32))).toNatClampNeg) &&& (127 : Int32)) <<< ((7 : Int32) &&& 31))))])) t
          refine XS.iand X0.here hx rfl (hb hby d2_23) rfl ?_
          show Steps p.tables e below (T0.setTop (mkF m 24 #[.val (.ref a1), .val (.int p2), .val (.int (((0 : Int32) ||| (((f (p2).toNatClampNeg) &&& (127 : Int32)) <<< ((0 : Int32) &&& 31))) ||| (((f ((p2 + (1 : Int32))).toNatClampNeg) &&& (127 : Int32)) <<< ((7 : Int32) &&& 31)))), .val (.int (14 : Int32)), .val (.int ((p2 + (1 : Int32)) + (1 : Int32))), .val (.int (f (((p2 + (1 : Int32)) + (1 : Int32))).toNatClampNeg))] [(.int ((f (((p2 + (1 : Int32)) + (1 : Int32))).toNatClampNeg) &&& (127 : Int32))), (.int (((0 : Int32) ||| (((f (p2).toNatClampNeg) &&& (127 : Int32)) <<< ((0 : Int32) &&& 31))) ||| (((f ((p2 + (1 : Int32))).toNatClampNeg) &&& (127 : Int32)) <<< ((7 : Int32) &&& 31))))])) t
          refine XS.iloadN X0.here hx rfl (hb hby d2_24) rfl ?_
          show Steps p.tables e below (T0.setTop (mkF m 25 #[.val (.ref a1), .val (.int p2), .val (.int (((0 : Int32) ||| (((f (p2).toNatClampNeg) &&& (127 : Int32)) <<< ((0 : Int32) &&& 31))) ||| (((f ((p2 + (1 : Int32))).toNatClampNeg) &&& (127 : Int32)) <<< ((7 : Int32) &&& 31)))), .val (.int (14 : Int32)), .val (.int ((p2 + (1 : Int32)) + (1 : Int32))), .val (.int (f (((p2 + (1 : Int32)) + (1 : Int32))).toNatClampNeg))] [(.int (14 : Int32)), (.int ((f (((p2 + (1 : Int32)) + (1 : Int32))).toNatClampNeg) &&& (127 : Int32))), (.int (((0 : Int32) ||| (((f (p2).toNatClampNeg) &&& (127 : Int32)) <<< ((0 : Int32) &&& 31))) ||| (((f ((p2 + (1 : Int32))).toNatClampNeg) &&& (127 : Int32)) <<< ((7 : Int32) &&& 31))))])) t
          refine XS.ishl X0.here hx rfl (hb hby d2_25) rfl ?_
          show Steps p.tables e below (T0.setTop (mkF m 26 #[.val (.ref a1), .val (.int p2), .val (.int (((0 : Int32) ||| (((f (p2).toNatClampNeg) &&& (127 : Int32)) <<< ((0 : Int32) &&& 31))) ||| (((f ((p2 + (1 : Int32))).toNatClampNeg) &&& (127 : Int32)) <<< ((7 : Int32) &&& 31)))), .val (.int (14 : Int32)), .val (.int ((p2 + (1 : Int32)) + (1 : Int32))), .val (.int (f (((p2 + (1 : Int32)) + (1 : Int32))).toNatClampNeg))] [(.int (((f (((p2 + (1 : Int32)) + (1 : Int32))).toNatClampNeg) &&& (127 : Int32)) <<< ((14 : Int32) &&& 31))), (.int (((0 : Int32) ||| (((f (p2).toNatClampNeg) &&& (127 : Int32)) <<< ((0 : Int32) &&& 31))) ||| (((f ((p2 + (1 : Int32))).toNatClampNeg) &&& (127 : Int32)) <<< ((7 : Int32) &&& 31))))])) t
          refine XS.ior X0.here hx rfl (hb hby d2_26) rfl ?_
          show Steps p.tables e below (T0.setTop (mkF m 27 #[.val (.ref a1), .val (.int p2), .val (.int (((0 : Int32) ||| (((f (p2).toNatClampNeg) &&& (127 : Int32)) <<< ((0 : Int32) &&& 31))) ||| (((f ((p2 + (1 : Int32))).toNatClampNeg) &&& (127 : Int32)) <<< ((7 : Int32) &&& 31)))), .val (.int (14 : Int32)), .val (.int ((p2 + (1 : Int32)) + (1 : Int32))), .val (.int (f (((p2 + (1 : Int32)) + (1 : Int32))).toNatClampNeg))] [(.int ((((0 : Int32) ||| (((f (p2).toNatClampNeg) &&& (127 : Int32)) <<< ((0 : Int32) &&& 31))) ||| (((f ((p2 + (1 : Int32))).toNatClampNeg) &&& (127 : Int32)) <<< ((7 : Int32) &&& 31))) ||| (((f (((p2 + (1 : Int32)) + (1 : Int32))).toNatClampNeg) &&& (127 : Int32)) <<< ((14 : Int32) &&& 31))))])) t
          refine XS.istoreN X0.here hx rfl (hb hby d2_27) rfl (l' := #[.val (.ref a1), .val (.int p2), .val (.int ((((0 : Int32) ||| (((f (p2).toNatClampNeg) &&& (127 : Int32)) <<< ((0 : Int32) &&& 31))) ||| (((f ((p2 + (1 : Int32))).toNatClampNeg) &&& (127 : Int32)) <<< ((7 : Int32) &&& 31))) ||| (((f (((p2 + (1 : Int32)) + (1 : Int32))).toNatClampNeg) &&& (127 : Int32)) <<< ((14 : Int32) &&& 31)))), .val (.int (14 : Int32)), .val (.int ((p2 + (1 : Int32)) + (1 : Int32))), .val (.int (f (((p2 + (1 : Int32)) + (1 : Int32))).toNatClampNeg))]) rfl ?_
          show Steps p.tables e below (T0.setTop (mkF m 28 #[.val (.ref a1), .val (.int p2), .val (.int ((((0 : Int32) ||| (((f (p2).toNatClampNeg) &&& (127 : Int32)) <<< ((0 : Int32) &&& 31))) ||| (((f ((p2 + (1 : Int32))).toNatClampNeg) &&& (127 : Int32)) <<< ((7 : Int32) &&& 31))) ||| (((f (((p2 + (1 : Int32)) + (1 : Int32))).toNatClampNeg) &&& (127 : Int32)) <<< ((14 : Int32) &&& 31)))), .val (.int (14 : Int32)), .val (.int ((p2 + (1 : Int32)) + (1 : Int32))), .val (.int (f (((p2 + (1 : Int32)) + (1 : Int32))).toNatClampNeg))] [])) t
          refine XS.iinc X0.here hx rfl (hb hby d2_28) rfl (l' := #[.val (.ref a1), .val (.int p2), .val (.int ((((0 : Int32) ||| (((f (p2).toNatClampNeg) &&& (127 : Int32)) <<< ((0 : Int32) &&& 31))) ||| (((f ((p2 + (1 : Int32))).toNatClampNeg) &&& (127 : Int32)) <<< ((7 : Int32) &&& 31))) ||| (((f (((p2 + (1 : Int32)) + (1 : Int32))).toNatClampNeg) &&& (127 : Int32)) <<< ((14 : Int32) &&& 31)))), .val (.int (21 : Int32)), .val (.int ((p2 + (1 : Int32)) + (1 : Int32))), .val (.int (f (((p2 + (1 : Int32)) + (1 : Int32))).toNatClampNeg))]) rfl ?_
          show Steps p.tables e below (T0.setTop (mkF m 31 #[.val (.ref a1), .val (.int p2), .val (.int ((((0 : Int32) ||| (((f (p2).toNatClampNeg) &&& (127 : Int32)) <<< ((0 : Int32) &&& 31))) ||| (((f ((p2 + (1 : Int32))).toNatClampNeg) &&& (127 : Int32)) <<< ((7 : Int32) &&& 31))) ||| (((f (((p2 + (1 : Int32)) + (1 : Int32))).toNatClampNeg) &&& (127 : Int32)) <<< ((14 : Int32) &&& 31)))), .val (.int (21 : Int32)), .val (.int ((p2 + (1 : Int32)) + (1 : Int32))), .val (.int (f (((p2 + (1 : Int32)) + (1 : Int32))).toNatClampNeg))] [])) t
          refine XS.aloadN X0.here hx rfl (hb hby d2_31) rfl rfl ?_
          show Steps p.tables e below (T0.setTop (mkF m 32 #[.val (.ref a1), .val (.int p2), .val (.int ((((0 : Int32) ||| (((f (p2).toNatClampNeg) &&& (127 : Int32)) <<< ((0 : Int32) &&& 31))) ||| (((f ((p2 + (1 : Int32))).toNatClampNeg) &&& (127 : Int32)) <<< ((7 : Int32) &&& 31))) ||| (((f (((p2 + (1 : Int32)) + (1 : Int32))).toNatClampNeg) &&& (127 : Int32)) <<< ((14 : Int32) &&& 31)))), .val (.int (21 : Int32)), .val (.int ((p2 + (1 : Int32)) + (1 : Int32))), .val (.int (f (((p2 + (1 : Int32)) + (1 : Int32))).toNatClampNeg))] [(.ref a1)])) t
          refine XS.iinc X0.here hx rfl (hb hby d2_32) rfl (l' := #[.val (.ref a1), .val (.int p2), .val (.int ((((0 : Int32) ||| (((f (p2).toNatClampNeg) &&& (127 : Int32)) <<< ((0 : Int32) &&& 31))) ||| (((f ((p2 + (1 : Int32))).toNatClampNeg) &&& (127 : Int32)) <<< ((7 : Int32) &&& 31))) ||| (((f (((p2 + (1 : Int32)) + (1 : Int32))).toNatClampNeg) &&& (127 : Int32)) <<< ((14 : Int32) &&& 31)))), .val (.int (21 : Int32)), .val (.int (((p2 + (1 : Int32)) + (1 : Int32)) + (1 : Int32))), .val (.int (f (((p2 + (1 : Int32)) + (1 : Int32))).toNatClampNeg))]) rfl ?_
          show Steps p.tables e below (T0.setTop (mkF m 35 #[.val (.ref a1), .val (.int p2), .val (.int ((((0 : Int32) ||| (((f (p2).toNatClampNeg) &&& (127 : Int32)) <<< ((0 : Int32) &&& 31))) ||| (((f ((p2 + (1 : Int32))).toNatClampNeg) &&& (127 : Int32)) <<< ((7 : Int32) &&& 31))) ||| (((f (((p2 + (1 : Int32)) + (1 : Int32))).toNatClampNeg) &&& (127 : Int32)) <<< ((14 : Int32) &&& 31)))), .val (.int (21 : Int32)), .val (.int (((p2 + (1 : Int32)) + (1 : Int32)) + (1 : Int32))), .val (.int (f (((p2 + (1 : Int32)) + (1 : Int32))).toNatClampNeg))] [(.ref a1)])) t
          refine XS.iload X0.here hx rfl (hb hby d2_35) rfl ?_
          exact k
        obtain ⟨cl_o11, Ar_o11, q_o11, S_o11, Nn_o11, H_o11, G_o11⟩ := id V_a1
        have hin10 : ¬ ((((p2 + (1 : Int32)) + (1 : Int32)) + (1 : Int32)) < 0 ∨ cl_o11.slots.size ≤ ((((p2 + (1 : Int32)) + (1 : Int32)) + (1 : Int32))).toNatClampNeg) := inb_of S_o11 (own_ix3 hat)
        have hat10 : cl_o11.slots[((((p2 + (1 : Int32)) + (1 : Int32)) + (1 : Int32))).toNatClampNeg]? = some (.int (f ((((p2 + (1 : Int32)) + (1 : Int32)) + (1 : Int32))).toNatClampNeg)) := own_hatF H_o11 (own_sz S_o11) hin10
        refine Done.of (g' := (mkF m 38 #[.val (.ref a1), .val (.int p2), .val (.int ((((0 : Int32) ||| (((f (p2).toNatClampNeg) &&& (127 : Int32)) <<< ((0 : Int32) &&& 31))) ||| (((f ((p2 + (1 : Int32))).toNatClampNeg) &&& (127 : Int32)) <<< ((7 : Int32) &&& 31))) ||| (((f (((p2 + (1 : Int32)) + (1 : Int32))).toNatClampNeg) &&& (127 : Int32)) <<< ((14 : Int32) &&& 31)))), .val (.int (21 : Int32)), .val (.int (((p2 + (1 : Int32)) + (1 : Int32)) + (1 : Int32))), .val (.int (f (((p2 + (1 : Int32)) + (1 : Int32))).toNatClampNeg))] [(.int (f ((((p2 + (1 : Int32)) + (1 : Int32)) + (1 : Int32))).toNatClampNeg))])) (X0.baloadBytes hx (j := (((p2 + (1 : Int32)) + (1 : Int32)) + (1 : Int32))) (v := (.int (f ((((p2 + (1 : Int32)) + (1 : Int32)) + (1 : Int32))).toNatClampNeg))) (by rw [e0]; exact Ar_o11.1) (State.isArrayOf_alike hZ.alike Ar_o11.2.1) Ar_o11.2.2 hin10 hat10 (g := (mkF m 37 #[.val (.ref a1), .val (.int p2), .val (.int ((((0 : Int32) ||| (((f (p2).toNatClampNeg) &&& (127 : Int32)) <<< ((0 : Int32) &&& 31))) ||| (((f ((p2 + (1 : Int32))).toNatClampNeg) &&& (127 : Int32)) <<< ((7 : Int32) &&& 31))) ||| (((f (((p2 + (1 : Int32)) + (1 : Int32))).toNatClampNeg) &&& (127 : Int32)) <<< ((14 : Int32) &&& 31)))), .val (.int (21 : Int32)), .val (.int (((p2 + (1 : Int32)) + (1 : Int32)) + (1 : Int32))), .val (.int (f (((p2 + (1 : Int32)) + (1 : Int32))).toNatClampNeg))] [(.int (((p2 + (1 : Int32)) + (1 : Int32)) + (1 : Int32))), (.ref a1)])) rfl rfl (hb hby d2_37)) ?_
        refine Done.of (T' := T0) (g' := (mkF m 15 #[.val (.ref a1), .val (.int p2), .val (.int ((((0 : Int32) ||| (((f (p2).toNatClampNeg) &&& (127 : Int32)) <<< ((0 : Int32) &&& 31))) ||| (((f ((p2 + (1 : Int32))).toNatClampNeg) &&& (127 : Int32)) <<< ((7 : Int32) &&& 31))) ||| (((f (((p2 + (1 : Int32)) + (1 : Int32))).toNatClampNeg) &&& (127 : Int32)) <<< ((14 : Int32) &&& 31)))), .val (.int (21 : Int32)), .val (.int (((p2 + (1 : Int32)) + (1 : Int32)) + (1 : Int32))), .val (.int (f ((((p2 + (1 : Int32)) + (1 : Int32)) + (1 : Int32))).toNatClampNeg))] [(.int (f ((((p2 + (1 : Int32)) + (1 : Int32)) + (1 : Int32))).toNatClampNeg))])) (fun t k => ?_) ?_
        · show Steps p.tables e below (T0.setTop (mkF m 38 #[.val (.ref a1), .val (.int p2), .val (.int ((((0 : Int32) ||| (((f (p2).toNatClampNeg) &&& (127 : Int32)) <<< ((0 : Int32) &&& 31))) ||| (((f ((p2 + (1 : Int32))).toNatClampNeg) &&& (127 : Int32)) <<< ((7 : Int32) &&& 31))) ||| (((f (((p2 + (1 : Int32)) + (1 : Int32))).toNatClampNeg) &&& (127 : Int32)) <<< ((14 : Int32) &&& 31)))), .val (.int (21 : Int32)), .val (.int (((p2 + (1 : Int32)) + (1 : Int32)) + (1 : Int32))), .val (.int (f (((p2 + (1 : Int32)) + (1 : Int32))).toNatClampNeg))] [(.int (f ((((p2 + (1 : Int32)) + (1 : Int32)) + (1 : Int32))).toNatClampNeg))])) t
          refine XS.istore X0.here hx rfl (hb hby d2_38) rfl (l' := #[.val (.ref a1), .val (.int p2), .val (.int ((((0 : Int32) ||| (((f (p2).toNatClampNeg) &&& (127 : Int32)) <<< ((0 : Int32) &&& 31))) ||| (((f ((p2 + (1 : Int32))).toNatClampNeg) &&& (127 : Int32)) <<< ((7 : Int32) &&& 31))) ||| (((f (((p2 + (1 : Int32)) + (1 : Int32))).toNatClampNeg) &&& (127 : Int32)) <<< ((14 : Int32) &&& 31)))), .val (.int (21 : Int32)), .val (.int (((p2 + (1 : Int32)) + (1 : Int32)) + (1 : Int32))), .val (.int (f ((((p2 + (1 : Int32)) + (1 : Int32)) + (1 : Int32))).toNatClampNeg))]) rfl ?_
          show Steps p.tables e below (T0.setTop (mkF m 40 #[.val (.ref a1), .val (.int p2), .val (.int ((((0 : Int32) ||| (((f (p2).toNatClampNeg) &&& (127 : Int32)) <<< ((0 : Int32) &&& 31))) ||| (((f ((p2 + (1 : Int32))).toNatClampNeg) &&& (127 : Int32)) <<< ((7 : Int32) &&& 31))) ||| (((f (((p2 + (1 : Int32)) + (1 : Int32))).toNatClampNeg) &&& (127 : Int32)) <<< ((14 : Int32) &&& 31)))), .val (.int (21 : Int32)), .val (.int (((p2 + (1 : Int32)) + (1 : Int32)) + (1 : Int32))), .val (.int (f ((((p2 + (1 : Int32)) + (1 : Int32)) + (1 : Int32))).toNatClampNeg))] [])) t
          refine XS.goto X0.here hx rfl (pc0 := 40) (pc' := 13) rfl (hb hby d2_40) (by decide) (by decide) ?_
          show Steps p.tables e below (T0.setTop (mkF m 13 #[.val (.ref a1), .val (.int p2), .val (.int ((((0 : Int32) ||| (((f (p2).toNatClampNeg) &&& (127 : Int32)) <<< ((0 : Int32) &&& 31))) ||| (((f ((p2 + (1 : Int32))).toNatClampNeg) &&& (127 : Int32)) <<< ((7 : Int32) &&& 31))) ||| (((f (((p2 + (1 : Int32)) + (1 : Int32))).toNatClampNeg) &&& (127 : Int32)) <<< ((14 : Int32) &&& 31)))), .val (.int (21 : Int32)), .val (.int (((p2 + (1 : Int32)) + (1 : Int32)) + (1 : Int32))), .val (.int (f ((((p2 + (1 : Int32)) + (1 : Int32)) + (1 : Int32))).toNatClampNeg))] [])) t
          refine XS.iload X0.here hx rfl (hb hby d2_13) rfl ?_
          exact k
        by_cases hc15_11 : (f ((((p2 + (1 : Int32)) + (1 : Int32)) + (1 : Int32))).toNatClampNeg) < (0 : Int32)
        · rw [if_pos hc15_11]
          refine Done.of (T' := T0) (g' := (mkF m 37 #[.val (.ref a1), .val (.int p2), .val (.int (((((0 : Int32) ||| (((f (p2).toNatClampNeg) &&& (127 : Int32)) <<< ((0 : Int32) &&& 31))) ||| (((f ((p2 + (1 : Int32))).toNatClampNeg) &&& (127 : Int32)) <<< ((7 : Int32) &&& 31))) ||| (((f (((p2 + (1 : Int32)) + (1 : Int32))).toNatClampNeg) &&& (127 : Int32)) <<< ((14 : Int32) &&& 31))) ||| (((f ((((p2 + (1 : Int32)) + (1 : Int32)) + (1 : Int32))).toNatClampNeg) &&& (127 : Int32)) <<< ((21 : Int32) &&& 31)))), .val (.int (28 : Int32)), .val (.int ((((p2 + (1 : Int32)) + (1 : Int32)) + (1 : Int32)) + (1 : Int32))), .val (.int (f ((((p2 + (1 : Int32)) + (1 : Int32)) + (1 : Int32))).toNatClampNeg))] [(.int ((((p2 + (1 : Int32)) + (1 : Int32)) + (1 : Int32)) + (1 : Int32))), (.ref a1)])) (fun t k => ?_) ?_
          · show Steps p.tables e below (T0.setTop (mkF m 15 #[.val (.ref a1), .val (.int p2), .val (.int ((((0 : Int32) ||| (((f (p2).toNatClampNeg) &&& (127 : Int32)) <<< ((0 : Int32) &&& 31))) ||| (((f ((p2 + (1 : Int32))).toNatClampNeg) &&& (127 : Int32)) <<< ((7 : Int32) &&& 31))) ||| (((f (((p2 + (1 : Int32)) + (1 : Int32))).toNatClampNeg) &&& (127 : Int32)) <<< ((14 : Int32) &&& 31)))), .val (.int (21 : Int32)), .val (.int (((p2 + (1 : Int32)) + (1 : Int32)) + (1 : Int32))), .val (.int (f ((((p2 + (1 : Int32)) + (1 : Int32)) + (1 : Int32))).toNatClampNeg))] [(.int (f ((((p2 + (1 : Int32)) + (1 : Int32)) + (1 : Int32))).toNatClampNeg))])) t
            refine XS.ifNo X0.here hx rfl (hb hby d2_15) rfl ((if0 _ _).trans (tlt hc15_11).2.1) ?_
            show Steps p.tables e below (T0.setTop (mkF m 18 #[.val (.ref a1), .val (.int p2), .val (.int ((((0 : Int32) ||| (((f (p2).toNatClampNeg) &&& (127 : Int32)) <<< ((0 : Int32) &&& 31))) ||| (((f ((p2 + (1 : Int32))).toNatClampNeg) &&& (127 : Int32)) <<< ((7 : Int32) &&& 31))) ||| (((f (((p2 + (1 : Int32)) + (1 : Int32))).toNatClampNeg) &&& (127 : Int32)) <<< ((14 : Int32) &&& 31)))), .val (.int (21 : Int32)), .val (.int (((p2 + (1 : Int32)) + (1 : Int32)) + (1 : Int32))), .val (.int (f ((((p2 + (1 : Int32)) + (1 : Int32)) + (1 : Int32))).toNatClampNeg))] [])) t
            refine XS.iloadN X0.here hx rfl (hb hby d2_18) rfl ?_
            show Steps p.tables e below (T0.setTop (mkF m 19 #[.val (.ref a1), .val (.int p2), .val (.int ((((0 : Int32) ||| (((f (p2).toNatClampNeg) &&& (127 : Int32)) <<< ((0 : Int32) &&& 31))) ||| (((f ((p2 + (1 : Int32))).toNatClampNeg) &&& (127 : Int32)) <<< ((7 : Int32) &&& 31))) ||| (((f (((p2 + (1 : Int32)) + (1 : Int32))).toNatClampNeg) &&& (127 : Int32)) <<< ((14 : Int32) &&& 31)))), .val (.int (21 : Int32)), .val (.int (((p2 + (1 : Int32)) + (1 : Int32)) + (1 : Int32))), .val (.int (f ((((p2 + (1 : Int32)) + (1 : Int32)) + (1 : Int32))).toNatClampNeg))] [(.int ((((0 : Int32) ||| (((f (p2).toNatClampNeg) &&& (127 : Int32)) <<< ((0 : Int32) &&& 31))) ||| (((f ((p2 + (1 : Int32))).toNatClampNeg) &&& (127 : Int32)) <<< ((7 : Int32) &&& 31))) ||| (((f (((p2 + (1 : Int32)) + (1 : Int32))).toNatClampNeg) &&& (127 : Int32)) <<< ((14 : Int32) &&& 31))))])) t
            refine XS.iload X0.here hx rfl (hb hby d2_19) rfl ?_
            show Steps p.tables e below (T0.setTop (mkF m 21 #[.val (.ref a1), .val (.int p2), .val (.int ((((0 : Int32) ||| (((f (p2).toNatClampNeg) &&& (127 : Int32)) <<< ((0 : Int32) &&& 31))) ||| (((f ((p2 + (1 : Int32))).toNatClampNeg) &&& (127 : Int32)) <<< ((7 : Int32) &&& 31))) ||| (((f (((p2 + (1 : Int32)) + (1 : Int32))).toNatClampNeg) &&& (127 : Int32)) <<< ((14 : Int32) &&& 31)))), .val (.int (21 : Int32)), .val (.int (((p2 + (1 : Int32)) + (1 : Int32)) + (1 : Int32))), .val (.int (f ((((p2 + (1 : Int32)) + (1 : Int32)) + (1 : Int32))).toNatClampNeg))] [(.int (f ((((p2 + (1 : Int32)) + (1 : Int32)) + (1 : Int32))).toNatClampNeg)), (.int ((((0 : Int32) ||| (((f (p2).toNatClampNeg) &&& (127 : Int32)) <<< ((0 : Int32) &&& 31))) ||| (((f ((p2 + (1 : Int32))).toNatClampNeg) &&& (127 : Int32)) <<< ((7 : Int32) &&& 31))) ||| (((f (((p2 + (1 : Int32)) + (1 : Int32))).toNatClampNeg) &&& (127 : Int32)) <<< ((14 : Int32) &&& 31))))])) t
            refine XS.bipush X0.here hx rfl (hb hby d2_21) ?_
            show Steps p.tables e below (T0.setTop (mkF m 23 #[.val (.ref a1), .val (.int p2), .val (.int ((((0 : Int32) ||| (((f (p2).toNatClampNeg) &&& (127 : Int32)) <<< ((0 : Int32) &&& 31))) ||| (((f ((p2 + (1 : Int32))).toNatClampNeg) &&& (127 : Int32)) <<< ((7 : Int32) &&& 31))) ||| (((f (((p2 + (1 : Int32)) + (1 : Int32))).toNatClampNeg) &&& (127 : Int32)) <<< ((14 : Int32) &&& 31)))), .val (.int (21 : Int32)), .val (.int (((p2 + (1 : Int32)) + (1 : Int32)) + (1 : Int32))), .val (.int (f ((((p2 + (1 : Int32)) + (1 : Int32)) + (1 : Int32))).toNatClampNeg))] [(.int (127 : Int32)), (.int (f ((((p2 + (1 : Int32)) + (1 : Int32)) + (1 : Int32))).toNatClampNeg)), (.int ((((0 : Int32) ||| (((f (p2).toNatClampNeg) &&& (127 : Int32)) <<< ((0 : Int32) &&& 31))) ||| (((f ((p2 + (1 : Int32))).toNatClampNeg) &&& (127 : Int32)) <<< ((7 : Int32) &&& 31))) ||| (((f (((p2 + (1 : Int32)) + (1 : Int32))).toNatClampNeg) &&& (127 : Int32)) <<< ((14 : Int32) &&& 31))))])) t
            refine XS.iand X0.here hx rfl (hb hby d2_23) rfl ?_
            show Steps p.tables e below (T0.setTop (mkF m 24 #[.val (.ref a1), .val (.int p2), .val (.int ((((0 : Int32) ||| (((f (p2).toNatClampNeg) &&& (127 : Int32)) <<< ((0 : Int32) &&& 31))) ||| (((f ((p2 + (1 : Int32))).toNatClampNeg) &&& (127 : Int32)) <<< ((7 : Int32) &&& 31))) ||| (((f (((p2 + (1 : Int32)) + (1 : Int32))).toNatClampNeg) &&& (127 : Int32)) <<< ((14 : Int32) &&& 31)))), .val (.int (21 : Int32)), .val (.int (((p2 + (1 : Int32)) + (1 : Int32)) + (1 : Int32))), .val (.int (f ((((p2 + (1 : Int32)) + (1 : Int32)) + (1 : Int32))).toNatClampNeg))] [(.int ((f ((((p2 + (1 : Int32)) + (1 : Int32)) + (1 : Int32))).toNatClampNeg) &&& (127 : Int32))), (.int ((((0 : Int32) ||| (((f (p2).toNatClampNeg) &&& (127 : Int32)) <<< ((0 : Int32) &&& 31))) ||| (((f ((p2 + (1 : Int32))).toNatClampNeg) &&& (127 : Int32)) <<< ((7 : Int32) &&& 31))) ||| (((f (((p2 + (1 : Int32)) + (1 : Int32))).toNatClampNeg) &&& (127 : Int32)) <<< ((14 : Int32) &&& 31))))])) t
            refine XS.iloadN X0.here hx rfl (hb hby d2_24) rfl ?_
            show Steps p.tables e below (T0.setTop (mkF m 25 #[.val (.ref a1), .val (.int p2), .val (.int ((((0 : Int32) ||| (((f (p2).toNatClampNeg) &&& (127 : Int32)) <<< ((0 : Int32) &&& 31))) ||| (((f ((p2 + (1 : Int32))).toNatClampNeg) &&& (127 : Int32)) <<< ((7 : Int32) &&& 31))) ||| (((f (((p2 + (1 : Int32)) + (1 : Int32))).toNatClampNeg) &&& (127 : Int32)) <<< ((14 : Int32) &&& 31)))), .val (.int (21 : Int32)), .val (.int (((p2 + (1 : Int32)) + (1 : Int32)) + (1 : Int32))), .val (.int (f ((((p2 + (1 : Int32)) + (1 : Int32)) + (1 : Int32))).toNatClampNeg))] [(.int (21 : Int32)), (.int ((f ((((p2 + (1 : Int32)) + (1 : Int32)) + (1 : Int32))).toNatClampNeg) &&& (127 : Int32))), (.int ((((0 : Int32) ||| (((f (p2).toNatClampNeg) &&& (127 : Int32)) <<< ((0 : Int32) &&& 31))) ||| (((f ((p2 + (1 : Int32))).toNatClampNeg) &&& (127 : Int32)) <<< ((7 : Int32) &&& 31))) ||| (((f (((p2 + (1 : Int32)) + (1 : Int32))).toNatClampNeg) &&& (127 : Int32)) <<< ((14 : Int32) &&& 31))))])) t
            refine XS.ishl X0.here hx rfl (hb hby d2_25) rfl ?_
            show Steps p.tables e below (T0.setTop (mkF m 26 #[.val (.ref a1), .val (.int p2), .val (.int ((((0 : Int32) ||| (((f (p2).toNatClampNeg) &&& (127 : Int32)) <<< ((0 : Int32) &&& 31))) ||| (((f ((p2 + (1 : Int32))).toNatClampNeg) &&& (127 : Int32)) <<< ((7 : Int32) &&& 31))) ||| (((f (((p2 + (1 : Int32)) + (1 : Int32))).toNatClampNeg) &&& (127 : Int32)) <<< ((14 : Int32) &&& 31)))), .val (.int (21 : Int32)), .val (.int (((p2 + (1 : Int32)) + (1 : Int32)) + (1 : Int32))), .val (.int (f ((((p2 + (1 : Int32)) + (1 : Int32)) + (1 : Int32))).toNatClampNeg))] [(.int (((f ((((p2 + (1 : Int32)) + (1 : Int32)) + (1 : Int32))).toNatClampNeg) &&& (127 : Int32)) <<< ((21 : Int32) &&& 31))), (.int ((((0 : Int32) ||| (((f (p2).toNatClampNeg) &&& (127 : Int32)) <<< ((0 : Int32) &&& 31))) ||| (((f ((p2 + (1 : Int32))).toNatClampNeg) &&& (127 : Int32)) <<< ((7 : Int32) &&& 31))) ||| (((f (((p2 + (1 : Int32)) + (1 : Int32))).toNatClampNeg) &&& (127 : Int32)) <<< ((14 : Int32) &&& 31))))])) t
            refine XS.ior X0.here hx rfl (hb hby d2_26) rfl ?_
            show Steps p.tables e below (T0.setTop (mkF m 27 #[.val (.ref a1), .val (.int p2), .val (.int ((((0 : Int32) ||| (((f (p2).toNatClampNeg) &&& (127 : Int32)) <<< ((0 : Int32) &&& 31))) ||| (((f ((p2 + (1 : Int32))).toNatClampNeg) &&& (127 : Int32)) <<< ((7 : Int32) &&& 31))) ||| (((f (((p2 + (1 : Int32)) + (1 : Int32))).toNatClampNeg) &&& (127 : Int32)) <<< ((14 : Int32) &&& 31)))), .val (.int (21 : Int32)), .val (.int (((p2 + (1 : Int32)) + (1 : Int32)) + (1 : Int32))), .val (.int (f ((((p2 + (1 : Int32)) + (1 : Int32)) + (1 : Int32))).toNatClampNeg))] [(.int (((((0 : Int32) ||| (((f (p2).toNatClampNeg) &&& (127 : Int32)) <<< ((0 : Int32) &&& 31))) ||| (((f ((p2 + (1 : Int32))).toNatClampNeg) &&& (127 : Int32)) <<< ((7 : Int32) &&& 31))) ||| (((f (((p2 + (1 : Int32)) + (1 : Int32))).toNatClampNeg) &&& (127 : Int32)) <<< ((14 : Int32) &&& 31))) ||| (((f ((((p2 + (1 : Int32)) + (1 : Int32)) + (1 : Int32))).toNatClampNeg) &&& (127 : Int32)) <<< ((21 : Int32) &&& 31))))])) t
            refine XS.istoreN X0.here hx rfl (hb hby d2_27) rfl (l' := #[.val (.ref a1), .val (.int p2), .val (.int (((((0 : Int32) ||| (((f (p2).toNatClampNeg) &&& (127 : Int32)) <<< ((0 : Int32) &&& 31))) ||| (((f ((p2 + (1 : Int32))).toNatClampNeg) &&& (127 : Int32)) <<< ((7 : Int32) &&& 31))) ||| (((f (((p2 + (1 : Int32)) + (1 : Int32))).toNatClampNeg) &&& (127 : Int32)) <<< ((14 : Int32) &&& 31))) ||| (((f ((((p2 + (1 : Int32)) + (1 : Int32)) + (1 : Int32))).toNatClampNeg) &&& (127 : Int32)) <<< ((21 : Int32) &&& 31)))), .val (.int (21 : Int32)), .val (.int (((p2 + (1 : Int32)) + (1 : Int32)) + (1 : Int32))), .val (.int (f ((((p2 + (1 : Int32)) + (1 : Int32)) + (1 : Int32))).toNatClampNeg))]) rfl ?_
            show Steps p.tables e below (T0.setTop (mkF m 28 #[.val (.ref a1), .val (.int p2), .val (.int (((((0 : Int32) ||| (((f (p2).toNatClampNeg) &&& (127 : Int32)) <<< ((0 : Int32) &&& 31))) ||| (((f ((p2 + (1 : Int32))).toNatClampNeg) &&& (127 : Int32)) <<< ((7 : Int32) &&& 31))) ||| (((f (((p2 + (1 : Int32)) + (1 : Int32))).toNatClampNeg) &&& (127 : Int32)) <<< ((14 : Int32) &&& 31))) ||| (((f ((((p2 + (1 : Int32)) + (1 : Int32)) + (1 : Int32))).toNatClampNeg) &&& (127 : Int32)) <<< ((21 : Int32) &&& 31)))), .val (.int (21 : Int32)), .val (.int (((p2 + (1 : Int32)) + (1 : Int32)) + (1 : Int32))), .val (.int (f ((((p2 + (1 : Int32)) + (1 : Int32)) + (1 : Int32))).toNatClampNeg))] [])) t
            refine XS.iinc X0.here hx rfl (hb hby d2_28) rfl (l' := #[.val (.ref a1), .val (.int p2), .val (.int (((((0 : Int32) ||| (((f (p2).toNatClampNeg) &&& (127 : Int32)) <<< ((0 : Int32) &&& 31))) ||| (((f ((p2 + (1 : Int32))).toNatClampNeg) &&& (127 : Int32)) <<< ((7 : Int32) &&& 31))) ||| (((f (((p2 + (1 : Int32)) + (1 : Int32))).toNatClampNeg) &&& (127 : Int32)) <<< ((14 : Int32) &&& 31))) ||| (((f ((((p2 + (1 : Int32)) + (1 : Int32)) + (1 : Int32))).toNatClampNeg) &&& (127 : Int32)) <<< ((21 : Int32) &&& 31)))), .val (.int (28 : Int32)), .val (.int (((p2 + (1 : Int32)) + (1 : Int32)) + (1 : Int32))), .val (.int (f ((((p2 + (1 : Int32)) + (1 : Int32)) + (1 : Int32))).toNatClampNeg))]) rfl ?_
            show Steps p.tables e below (T0.setTop (mkF m 31 #[.val (.ref a1), .val (.int p2), .val (.int (((((0 : Int32) ||| (((f (p2).toNatClampNeg) &&& (127 : Int32)) <<< ((0 : Int32) &&& 31))) ||| (((f ((p2 + (1 : Int32))).toNatClampNeg) &&& (127 : Int32)) <<< ((7 : Int32) &&& 31))) ||| (((f (((p2 + (1 : Int32)) + (1 : Int32))).toNatClampNeg) &&& (127 : Int32)) <<< ((14 : Int32) &&& 31))) ||| (((f ((((p2 + (1 : Int32)) + (1 : Int32)) + (1 : Int32))).toNatClampNeg) &&& (127 : Int32)) <<< ((21 : Int32) &&& 31)))), .val (.int (28 : Int32)), .val (.int (((p2 + (1 : Int32)) + (1 : Int32)) + (1 : Int32))), .val (.int (f ((((p2 + (1 : Int32)) + (1 : Int32)) + (1 : Int32))).toNatClampNeg))] [])) t
            refine XS.aloadN X0.here hx rfl (hb hby d2_31) rfl rfl ?_
            show Steps p.tables e below (T0.setTop (mkF m 32 #[.val (.ref a1), .val (.int p2), .val (.int (((((0 : Int32) ||| (((f (p2).toNatClampNeg) &&& (127 : Int32)) <<< ((0 : Int32) &&& 31))) ||| (((f ((p2 + (1 : Int32))).toNatClampNeg) &&& (127 : Int32)) <<< ((7 : Int32) &&& 31))) ||| (((f (((p2 + (1 : Int32)) + (1 : Int32))).toNatClampNeg) &&& (127 : Int32)) <<< ((14 : Int32) &&& 31))) ||| (((f ((((p2 + (1 : Int32)) + (1 : Int32)) + (1 : Int32))).toNatClampNeg) &&& (127 : Int32)) <<< ((21 : Int32) &&& 31)))), .val (.int (28 : Int32)), .val (.int (((p2 + (1 : Int32)) + (1 : Int32)) + (1 : Int32))), .val (.int (f ((((p2 + (1 : Int32)) + (1 : Int32)) + (1 : Int32))).toNatClampNeg))] [(.ref a1)])) t
            refine XS.iinc X0.here hx rfl (hb hby d2_32) rfl (l' := #[.val (.ref a1), .val (.int p2), .val (.int (((((0 : Int32) ||| (((f (p2).toNatClampNeg) &&& (127 : Int32)) <<< ((0 : Int32) &&& 31))) ||| (((f ((p2 + (1 : Int32))).toNatClampNeg) &&& (127 : Int32)) <<< ((7 : Int32) &&& 31))) ||| (((f (((p2 + (1 : Int32)) + (1 : Int32))).toNatClampNeg) &&& (127 : Int32)) <<< ((14 : Int32) &&& 31))) ||| (((f ((((p2 + (1 : Int32)) + (1 : Int32)) + (1 : Int32))).toNatClampNeg) &&& (127 : Int32)) <<< ((21 : Int32) &&& 31)))), .val (.int (28 : Int32)), .val (.int ((((p2 + (1 : Int32)) + (1 : Int32)) + (1 : Int32)) + (1 : Int32))), .val (.int (f ((((p2 + (1 : Int32)) + (1 : Int32)) + (1 : Int32))).toNatClampNeg))]) rfl ?_
            show Steps p.tables e below (T0.setTop (mkF m 35 #[.val (.ref a1), .val (.int p2), .val (.int (((((0 : Int32) ||| (((f (p2).toNatClampNeg) &&& (127 : Int32)) <<< ((0 : Int32) &&& 31))) ||| (((f ((p2 + (1 : Int32))).toNatClampNeg) &&& (127 : Int32)) <<< ((7 : Int32) &&& 31))) ||| (((f (((p2 + (1 : Int32)) + (1 : Int32))).toNatClampNeg) &&& (127 : Int32)) <<< ((14 : Int32) &&& 31))) ||| (((f ((((p2 + (1 : Int32)) + (1 : Int32)) + (1 : Int32))).toNatClampNeg) &&& (127 : Int32)) <<< ((21 : Int32) &&& 31)))), .val (.int (28 : Int32)), .val (.int ((((p2 + (1 : Int32)) + (1 : Int32)) + (1 : Int32)) + (1 : Int32))), .val (.int (f ((((p2 + (1 : Int32)) + (1 : Int32)) + (1 : Int32))).toNatClampNeg))] [(.ref a1)])) t
            refine XS.iload X0.here hx rfl (hb hby d2_35) rfl ?_
            exact k
          obtain ⟨cl_o14, Ar_o14, q_o14, S_o14, Nn_o14, H_o14, G_o14⟩ := id V_a1
          have hin13 : ¬ (((((p2 + (1 : Int32)) + (1 : Int32)) + (1 : Int32)) + (1 : Int32)) < 0 ∨ cl_o14.slots.size ≤ (((((p2 + (1 : Int32)) + (1 : Int32)) + (1 : Int32)) + (1 : Int32))).toNatClampNeg) := inb_of S_o14 (own_ix4 hat)
          have hat13 : cl_o14.slots[(((((p2 + (1 : Int32)) + (1 : Int32)) + (1 : Int32)) + (1 : Int32))).toNatClampNeg]? = some (.int (f (((((p2 + (1 : Int32)) + (1 : Int32)) + (1 : Int32)) + (1 : Int32))).toNatClampNeg)) := own_hatF H_o14 (own_sz S_o14) hin13
          refine Done.of (g' := (mkF m 38 #[.val (.ref a1), .val (.int p2), .val (.int (((((0 : Int32) ||| (((f (p2).toNatClampNeg) &&& (127 : Int32)) <<< ((0 : Int32) &&& 31))) ||| (((f ((p2 + (1 : Int32))).toNatClampNeg) &&& (127 : Int32)) <<< ((7 : Int32) &&& 31))) ||| (((f (((p2 + (1 : Int32)) + (1 : Int32))).toNatClampNeg) &&& (127 : Int32)) <<< ((14 : Int32) &&& 31))) ||| (((f ((((p2 + (1 : Int32)) + (1 : Int32)) + (1 : Int32))).toNatClampNeg) &&& (127 : Int32)) <<< ((21 : Int32) &&& 31)))), .val (.int (28 : Int32)), .val (.int ((((p2 + (1 : Int32)) + (1 : Int32)) + (1 : Int32)) + (1 : Int32))), .val (.int (f ((((p2 + (1 : Int32)) + (1 : Int32)) + (1 : Int32))).toNatClampNeg))] [(.int (f (((((p2 + (1 : Int32)) + (1 : Int32)) + (1 : Int32)) + (1 : Int32))).toNatClampNeg))])) (X0.baloadBytes hx (j := ((((p2 + (1 : Int32)) + (1 : Int32)) + (1 : Int32)) + (1 : Int32))) (v := (.int (f (((((p2 + (1 : Int32)) + (1 : Int32)) + (1 : Int32)) + (1 : Int32))).toNatClampNeg))) (by rw [e0]; exact Ar_o14.1) (State.isArrayOf_alike hZ.alike Ar_o14.2.1) Ar_o14.2.2 hin13 hat13 (g := (mkF m 37 #[.val (.ref a1), .val (.int p2), .val (.int (((((0 : Int32) ||| (((f (p2).toNatClampNeg) &&& (127 : Int32)) <<< ((0 : Int32) &&& 31))) ||| (((f ((p2 + (1 : Int32))).toNatClampNeg) &&& (127 : Int32)) <<< ((7 : Int32) &&& 31))) ||| (((f (((p2 + (1 : Int32)) + (1 : Int32))).toNatClampNeg) &&& (127 : Int32)) <<< ((14 : Int32) &&& 31))) ||| (((f ((((p2 + (1 : Int32)) + (1 : Int32)) + (1 : Int32))).toNatClampNeg) &&& (127 : Int32)) <<< ((21 : Int32) &&& 31)))), .val (.int (28 : Int32)), .val (.int ((((p2 + (1 : Int32)) + (1 : Int32)) + (1 : Int32)) + (1 : Int32))), .val (.int (f ((((p2 + (1 : Int32)) + (1 : Int32)) + (1 : Int32))).toNatClampNeg))] [(.int ((((p2 + (1 : Int32)) + (1 : Int32)) + (1 : Int32)) + (1 : Int32))), (.ref a1)])) rfl rfl (hb hby d2_37)) ?_
          refine Done.of (T' := T0) (g' := (mkF m 49 #[.val (.ref a1), .val (.int p2), .val (.int (((((0 : Int32) ||| (((f (p2).toNatClampNeg) &&& (127 : Int32)) <<< ((0 : Int32) &&& 31))) ||| (((f ((p2 + (1 : Int32))).toNatClampNeg) &&& (127 : Int32)) <<< ((7 : Int32) &&& 31))) ||| (((f (((p2 + (1 : Int32)) + (1 : Int32))).toNatClampNeg) &&& (127 : Int32)) <<< ((14 : Int32) &&& 31))) ||| (((f ((((p2 + (1 : Int32)) + (1 : Int32)) + (1 : Int32))).toNatClampNeg) &&& (127 : Int32)) <<< ((21 : Int32) &&& 31)))), .val (.int (28 : Int32)), .val (.int ((((p2 + (1 : Int32)) + (1 : Int32)) + (1 : Int32)) + (1 : Int32))), .val (.int (f (((((p2 + (1 : Int32)) + (1 : Int32)) + (1 : Int32)) + (1 : Int32))).toNatClampNeg))] [(.int ((((((0 : Int32) ||| (((f (p2).toNatClampNeg) &&& (127 : Int32)) <<< ((0 : Int32) &&& 31))) ||| (((f ((p2 + (1 : Int32))).toNatClampNeg) &&& (127 : Int32)) <<< ((7 : Int32) &&& 31))) ||| (((f (((p2 + (1 : Int32)) + (1 : Int32))).toNatClampNeg) &&& (127 : Int32)) <<< ((14 : Int32) &&& 31))) ||| (((f ((((p2 + (1 : Int32)) + (1 : Int32)) + (1 : Int32))).toNatClampNeg) &&& (127 : Int32)) <<< ((21 : Int32) &&& 31))) ||| ((f (((((p2 + (1 : Int32)) + (1 : Int32)) + (1 : Int32)) + (1 : Int32))).toNatClampNeg) <<< ((28 : Int32) &&& 31))))])) (fun t k => ?_) ?_
          · show Steps p.tables e below (T0.setTop (mkF m 38 #[.val (.ref a1), .val (.int p2), .val (.int (((((0 : Int32) ||| (((f (p2).toNatClampNeg) &&& (127 : Int32)) <<< ((0 : Int32) &&& 31))) ||| (((f ((p2 + (1 : Int32))).toNatClampNeg) &&& (127 : Int32)) <<< ((7 : Int32) &&& 31))) ||| (((f (((p2 + (1 : Int32)) + (1 : Int32))).toNatClampNeg) &&& (127 : Int32)) <<< ((14 : Int32) &&& 31))) ||| (((f ((((p2 + (1 : Int32)) + (1 : Int32)) + (1 : Int32))).toNatClampNeg) &&& (127 : Int32)) <<< ((21 : Int32) &&& 31)))), .val (.int (28 : Int32)), .val (.int ((((p2 + (1 : Int32)) + (1 : Int32)) + (1 : Int32)) + (1 : Int32))), .val (.int (f ((((p2 + (1 : Int32)) + (1 : Int32)) + (1 : Int32))).toNatClampNeg))] [(.int (f (((((p2 + (1 : Int32)) + (1 : Int32)) + (1 : Int32)) + (1 : Int32))).toNatClampNeg))])) t
            refine XS.istore X0.here hx rfl (hb hby d2_38) rfl (l' := #[.val (.ref a1), .val (.int p2), .val (.int (((((0 : Int32) ||| (((f (p2).toNatClampNeg) &&& (127 : Int32)) <<< ((0 : Int32) &&& 31))) ||| (((f ((p2 + (1 : Int32))).toNatClampNeg) &&& (127 : Int32)) <<< ((7 : Int32) &&& 31))) ||| (((f (((p2 + (1 : Int32)) + (1 : Int32))).toNatClampNeg) &&& (127 : Int32)) <<< ((14 : Int32) &&& 31))) ||| (((f ((((p2 + (1 : Int32)) + (1 : Int32)) + (1 : Int32))).toNatClampNeg) &&& (127 : Int32)) <<< ((21 : Int32) &&& 31)))), .val (.int (28 : Int32)), .val (.int ((((p2 + (1 : Int32)) + (1 : Int32)) + (1 : Int32)) + (1 : Int32))), .val (.int (f (((((p2 + (1 : Int32)) + (1 : Int32)) + (1 : Int32)) + (1 : Int32))).toNatClampNeg))]) rfl ?_
            show Steps p.tables e below (T0.setTop (mkF m 40 #[.val (.ref a1), .val (.int p2), .val (.int (((((0 : Int32) ||| (((f (p2).toNatClampNeg) &&& (127 : Int32)) <<< ((0 : Int32) &&& 31))) ||| (((f ((p2 + (1 : Int32))).toNatClampNeg) &&& (127 : Int32)) <<< ((7 : Int32) &&& 31))) ||| (((f (((p2 + (1 : Int32)) + (1 : Int32))).toNatClampNeg) &&& (127 : Int32)) <<< ((14 : Int32) &&& 31))) ||| (((f ((((p2 + (1 : Int32)) + (1 : Int32)) + (1 : Int32))).toNatClampNeg) &&& (127 : Int32)) <<< ((21 : Int32) &&& 31)))), .val (.int (28 : Int32)), .val (.int ((((p2 + (1 : Int32)) + (1 : Int32)) + (1 : Int32)) + (1 : Int32))), .val (.int (f (((((p2 + (1 : Int32)) + (1 : Int32)) + (1 : Int32)) + (1 : Int32))).toNatClampNeg))] [])) t
            refine XS.goto X0.here hx rfl (pc0 := 40) (pc' := 13) rfl (hb hby d2_40) (by decide) (by decide) ?_
            show Steps p.tables e below (T0.setTop (mkF m 13 #[.val (.ref a1), .val (.int p2), .val (.int (((((0 : Int32) ||| (((f (p2).toNatClampNeg) &&& (127 : Int32)) <<< ((0 : Int32) &&& 31))) ||| (((f ((p2 + (1 : Int32))).toNatClampNeg) &&& (127 : Int32)) <<< ((7 : Int32) &&& 31))) ||| (((f (((p2 + (1 : Int32)) + (1 : Int32))).toNatClampNeg) &&& (127 : Int32)) <<< ((14 : Int32) &&& 31))) ||| (((f ((((p2 + (1 : Int32)) + (1 : Int32)) + (1 : Int32))).toNatClampNeg) &&& (127 : Int32)) <<< ((21 : Int32) &&& 31)))), .val (.int (28 : Int32)), .val (.int ((((p2 + (1 : Int32)) + (1 : Int32)) + (1 : Int32)) + (1 : Int32))), .val (.int (f (((((p2 + (1 : Int32)) + (1 : Int32)) + (1 : Int32)) + (1 : Int32))).toNatClampNeg))] [])) t
            refine XS.iload X0.here hx rfl (hb hby d2_13) rfl ?_
            show Steps p.tables e below (T0.setTop (mkF m 15 #[.val (.ref a1), .val (.int p2), .val (.int (((((0 : Int32) ||| (((f (p2).toNatClampNeg) &&& (127 : Int32)) <<< ((0 : Int32) &&& 31))) ||| (((f ((p2 + (1 : Int32))).toNatClampNeg) &&& (127 : Int32)) <<< ((7 : Int32) &&& 31))) ||| (((f (((p2 + (1 : Int32)) + (1 : Int32))).toNatClampNeg) &&& (127 : Int32)) <<< ((14 : Int32) &&& 31))) ||| (((f ((((p2 + (1 : Int32)) + (1 : Int32)) + (1 : Int32))).toNatClampNeg) &&& (127 : Int32)) <<< ((21 : Int32) &&& 31)))), .val (.int (28 : Int32)), .val (.int ((((p2 + (1 : Int32)) + (1 : Int32)) + (1 : Int32)) + (1 : Int32))), .val (.int (f (((((p2 + (1 : Int32)) + (1 : Int32)) + (1 : Int32)) + (1 : Int32))).toNatClampNeg))] [(.int (f (((((p2 + (1 : Int32)) + (1 : Int32)) + (1 : Int32)) + (1 : Int32))).toNatClampNeg))])) t
            refine XS.ifYes X0.here hx rfl (pc0 := 15) (pc' := 43) rfl (hb hby d2_15) rfl ((if0 _ _).trans (flt (show ¬ ((f (((((p2 + (1 : Int32)) + (1 : Int32)) + (1 : Int32)) + (1 : Int32))).toNatClampNeg) < (0 : Int32)) from (hend hc15_2 hc15_5 hc15_8 hc15_11))).2.1) (by decide) (by decide) ?_
            show Steps p.tables e below (T0.setTop (mkF m 43 #[.val (.ref a1), .val (.int p2), .val (.int (((((0 : Int32) ||| (((f (p2).toNatClampNeg) &&& (127 : Int32)) <<< ((0 : Int32) &&& 31))) ||| (((f ((p2 + (1 : Int32))).toNatClampNeg) &&& (127 : Int32)) <<< ((7 : Int32) &&& 31))) ||| (((f (((p2 + (1 : Int32)) + (1 : Int32))).toNatClampNeg) &&& (127 : Int32)) <<< ((14 : Int32) &&& 31))) ||| (((f ((((p2 + (1 : Int32)) + (1 : Int32)) + (1 : Int32))).toNatClampNeg) &&& (127 : Int32)) <<< ((21 : Int32) &&& 31)))), .val (.int (28 : Int32)), .val (.int ((((p2 + (1 : Int32)) + (1 : Int32)) + (1 : Int32)) + (1 : Int32))), .val (.int (f (((((p2 + (1 : Int32)) + (1 : Int32)) + (1 : Int32)) + (1 : Int32))).toNatClampNeg))] [])) t
            refine XS.iloadN X0.here hx rfl (hb hby d2_43) rfl ?_
            show Steps p.tables e below (T0.setTop (mkF m 44 #[.val (.ref a1), .val (.int p2), .val (.int (((((0 : Int32) ||| (((f (p2).toNatClampNeg) &&& (127 : Int32)) <<< ((0 : Int32) &&& 31))) ||| (((f ((p2 + (1 : Int32))).toNatClampNeg) &&& (127 : Int32)) <<< ((7 : Int32) &&& 31))) ||| (((f (((p2 + (1 : Int32)) + (1 : Int32))).toNatClampNeg) &&& (127 : Int32)) <<< ((14 : Int32) &&& 31))) ||| (((f ((((p2 + (1 : Int32)) + (1 : Int32)) + (1 : Int32))).toNatClampNeg) &&& (127 : Int32)) <<< ((21 : Int32) &&& 31)))), .val (.int (28 : Int32)), .val (.int ((((p2 + (1 : Int32)) + (1 : Int32)) + (1 : Int32)) + (1 : Int32))), .val (.int (f (((((p2 + (1 : Int32)) + (1 : Int32)) + (1 : Int32)) + (1 : Int32))).toNatClampNeg))] [(.int (((((0 : Int32) ||| (((f (p2).toNatClampNeg) &&& (127 : Int32)) <<< ((0 : Int32) &&& 31))) ||| (((f ((p2 + (1 : Int32))).toNatClampNeg) &&& (127 : Int32)) <<< ((7 : Int32) &&& 31))) ||| (((f (((p2 + (1 : Int32)) + (1 : Int32))).toNatClampNeg) &&& (127 : Int32)) <<< ((14 : Int32) &&& 31))) ||| (((f ((((p2 + (1 : Int32)) + (1 : Int32)) + (1 : Int32))).toNatClampNeg) &&& (127 : Int32)) <<< ((21 : Int32) &&& 31))))])) t
            refine XS.iload X0.here hx rfl (hb hby d2_44) rfl ?_
            show Steps p.tables e below (T0.setTop (mkF m 46 #[.val (.ref a1), .val (.int p2), .val (.int (((((0 : Int32) ||| (((f (p2).toNatClampNeg) &&& (127 : Int32)) <<< ((0 : Int32) &&& 31))) ||| (((f ((p2 + (1 : Int32))).toNatClampNeg) &&& (127 : Int32)) <<< ((7 : Int32) &&& 31))) ||| (((f (((p2 + (1 : Int32)) + (1 : Int32))).toNatClampNeg) &&& (127 : Int32)) <<< ((14 : Int32) &&& 31))) ||| (((f ((((p2 + (1 : Int32)) + (1 : Int32)) + (1 : Int32))).toNatClampNeg) &&& (127 : Int32)) <<< ((21 : Int32) &&& 31)))), .val (.int (28 : Int32)), .val (.int ((((p2 + (1 : Int32)) + (1 : Int32)) + (1 : Int32)) + (1 : Int32))), .val (.int (f (((((p2 + (1 : Int32)) + (1 : Int32)) + (1 : Int32)) + (1 : Int32))).toNatClampNeg))] [(.int (f (((((p2 + (1 : Int32)) + (1 : Int32)) + (1 : Int32)) + (1 : Int32))).toNatClampNeg)), (.int (((((0 : Int32) ||| (((f (p2).toNatClampNeg) &&& (127 : Int32)) <<< ((0 : Int32) &&& 31))) ||| (((f ((p2 + (1 : Int32))).toNatClampNeg) &&& (127 : Int32)) <<< ((7 : Int32) &&& 31))) ||| (((f (((p2 + (1 : Int32)) + (1 : Int32))).toNatClampNeg) &&& (127 : Int32)) <<< ((14 : Int32) &&& 31))) ||| (((f ((((p2 + (1 : Int32)) + (1 : Int32)) + (1 : Int32))).toNatClampNeg) &&& (127 : Int32)) <<< ((21 : Int32) &&& 31))))])) t
            refine XS.iloadN X0.here hx rfl (hb hby d2_46) rfl ?_
            show Steps p.tables e below (T0.setTop (mkF m 47 #[.val (.ref a1), .val (.int p2), .val (.int (((((0 : Int32) ||| (((f (p2).toNatClampNeg) &&& (127 : Int32)) <<< ((0 : Int32) &&& 31))) ||| (((f ((p2 + (1 : Int32))).toNatClampNeg) &&& (127 : Int32)) <<< ((7 : Int32) &&& 31))) ||| (((f (((p2 + (1 : Int32)) + (1 : Int32))).toNatClampNeg) &&& (127 : Int32)) <<< ((14 : Int32) &&& 31))) ||| (((f ((((p2 + (1 : Int32)) + (1 : Int32)) + (1 : Int32))).toNatClampNeg) &&& (127 : Int32)) <<< ((21 : Int32) &&& 31)))), .val (.int (28 : Int32)), .val (.int ((((p2 + (1 : Int32)) + (1 : Int32)) + (1 : Int32)) + (1 : Int32))), .val (.int (f (((((p2 + (1 : Int32)) + (1 : Int32)) + (1 : Int32)) + (1 : Int32))).toNatClampNeg))] [(.int (28 : Int32)), (.int (f (((((p2 + (1 : Int32)) + (1 : Int32)) + (1 : Int32)) + (1 : Int32))).toNatClampNeg)), (.int (((((0 : Int32) ||| (((f (p2).toNatClampNeg) &&& (127 : Int32)) <<< ((0 : Int32) &&& 31))) ||| (((f ((p2 + (1 : Int32))).toNatClampNeg) &&& (127 : Int32)) <<< ((7 : Int32) &&& 31))) ||| (((f (((p2 + (1 : Int32)) + (1 : Int32))).toNatClampNeg) &&& (127 : Int32)) <<< ((14 : Int32) &&& 31))) ||| (((f ((((p2 + (1 : Int32)) + (1 : Int32)) + (1 : Int32))).toNatClampNeg) &&& (127 : Int32)) <<< ((21 : Int32) &&& 31))))])) t
            refine XS.ishl X0.here hx rfl (hb hby d2_47) rfl ?_
            show Steps p.tables e below (T0.setTop (mkF m 48 #[.val (.ref a1), .val (.int p2), .val (.int (((((0 : Int32) ||| (((f (p2).toNatClampNeg) &&& (127 : Int32)) <<< ((0 : Int32) &&& 31))) ||| (((f ((p2 + (1 : Int32))).toNatClampNeg) &&& (127 : Int32)) <<< ((7 : Int32) &&& 31))) ||| (((f (((p2 + (1 : Int32)) + (1 : Int32))).toNatClampNeg) &&& (127 : Int32)) <<< ((14 : Int32) &&& 31))) ||| (((f ((((p2 + (1 : Int32)) + (1 : Int32)) + (1 : Int32))).toNatClampNeg) &&& (127 : Int32)) <<< ((21 : Int32) &&& 31)))), .val (.int (28 : Int32)), .val (.int ((((p2 + (1 : Int32)) + (1 : Int32)) + (1 : Int32)) + (1 : Int32))), .val (.int (f (((((p2 + (1 : Int32)) + (1 : Int32)) + (1 : Int32)) + (1 : Int32))).toNatClampNeg))] [(.int ((f (((((p2 + (1 : Int32)) + (1 : Int32)) + (1 : Int32)) + (1 : Int32))).toNatClampNeg) <<< ((28 : Int32) &&& 31))), (.int (((((0 : Int32) ||| (((f (p2).toNatClampNeg) &&& (127 : Int32)) <<< ((0 : Int32) &&& 31))) ||| (((f ((p2 + (1 : Int32))).toNatClampNeg) &&& (127 : Int32)) <<< ((7 : Int32) &&& 31))) ||| (((f (((p2 + (1 : Int32)) + (1 : Int32))).toNatClampNeg) &&& (127 : Int32)) <<< ((14 : Int32) &&& 31))) ||| (((f ((((p2 + (1 : Int32)) + (1 : Int32)) + (1 : Int32))).toNatClampNeg) &&& (127 : Int32)) <<< ((21 : Int32) &&& 31))))])) t
            refine XS.ior X0.here hx rfl (hb hby d2_48) rfl ?_
            exact k
          exact doneI X0 hx hret hlk (hb hby d2_49) ⟨rfl, N0, e0⟩ (by decide) (by decide)
        · rw [if_neg hc15_11]
          refine Done.of (T' := T0) (g' := (mkF m 49 #[.val (.ref a1), .val (.int p2), .val (.int ((((0 : Int32) ||| (((f (p2).toNatClampNeg) &&& (127 : Int32)) <<< ((0 : Int32) &&& 31))) ||| (((f ((p2 + (1 : Int32))).toNatClampNeg) &&& (127 : Int32)) <<< ((7 : Int32) &&& 31))) ||| (((f (((p2 + (1 : Int32)) + (1 : Int32))).toNatClampNeg) &&& (127 : Int32)) <<< ((14 : Int32) &&& 31)))), .val (.int (21 : Int32)), .val (.int (((p2 + (1 : Int32)) + (1 : Int32)) + (1 : Int32))), .val (.int (f ((((p2 + (1 : Int32)) + (1 : Int32)) + (1 : Int32))).toNatClampNeg))] [(.int (((((0 : Int32) ||| (((f (p2).toNatClampNeg) &&& (127 : Int32)) <<< ((0 : Int32) &&& 31))) ||| (((f ((p2 + (1 : Int32))).toNatClampNeg) &&& (127 : Int32)) <<< ((7 : Int32) &&& 31))) ||| (((f (((p2 + (1 : Int32)) + (1 : Int32))).toNatClampNeg) &&& (127 : Int32)) <<< ((14 : Int32) &&& 31))) ||| ((f ((((p2 + (1 : Int32)) + (1 : Int32)) + (1 : Int32))).toNatClampNeg) <<< ((21 : Int32) &&& 31))))])) (fun t k => ?_) ?_
          · show Steps p.tables e below (T0.setTop (mkF m 15 #[.val (.ref a1), .val (.int p2), .val (.int ((((0 : Int32) ||| (((f (p2).toNatClampNeg) &&& (127 : Int32)) <<< ((0 : Int32) &&& 31))) ||| (((f ((p2 + (1 : Int32))).toNatClampNeg) &&& (127 : Int32)) <<< ((7 : Int32) &&& 31))) ||| (((f (((p2 + (1 : Int32)) + (1 : Int32))).toNatClampNeg) &&& (127 : Int32)) <<< ((14 : Int32) &&& 31)))), .val (.int (21 : Int32)), .val (.int (((p2 + (1 : Int32)) + (1 : Int32)) + (1 : Int32))), .val (.int (f ((((p2 + (1 : Int32)) + (1 : Int32)) + (1 : Int32))).toNatClampNeg))] [(.int (f ((((p2 + (1 : Int32)) + (1 : Int32)) + (1 : Int32))).toNatClampNeg))])) t
            refine XS.ifYes X0.here hx rfl (pc0 := 15) (pc' := 43) rfl (hb hby d2_15) rfl ((if0 _ _).trans (flt hc15_11).2.1) (by decide) (by decide) ?_
            show Steps p.tables e below (T0.setTop (mkF m 43 #[.val (.ref a1), .val (.int p2), .val (.int ((((0 : Int32) ||| (((f (p2).toNatClampNeg) &&& (127 : Int32)) <<< ((0 : Int32) &&& 31))) ||| (((f ((p2 + (1 : Int32))).toNatClampNeg) &&& (127 : Int32)) <<< ((7 : Int32) &&& 31))) ||| (((f (((p2 + (1 : Int32)) + (1 : Int32))).toNatClampNeg) &&& (127 : Int32)) <<< ((14 : Int32) &&& 31)))), .val (.int (21 : Int32)), .val (.int (((p2 + (1 : Int32)) + (1 : Int32)) + (1 : Int32))), .val (.int (f ((((p2 + (1 : Int32)) + (1 : Int32)) + (1 : Int32))).toNatClampNeg))] [])) t
            refine XS.iloadN X0.here hx rfl (hb hby d2_43) rfl ?_
            show Steps p.tables e below (T0.setTop (mkF m 44 #[.val (.ref a1), .val (.int p2), .val (.int ((((0 : Int32) ||| (((f (p2).toNatClampNeg) &&& (127 : Int32)) <<< ((0 : Int32) &&& 31))) ||| (((f ((p2 + (1 : Int32))).toNatClampNeg) &&& (127 : Int32)) <<< ((7 : Int32) &&& 31))) ||| (((f (((p2 + (1 : Int32)) + (1 : Int32))).toNatClampNeg) &&& (127 : Int32)) <<< ((14 : Int32) &&& 31)))), .val (.int (21 : Int32)), .val (.int (((p2 + (1 : Int32)) + (1 : Int32)) + (1 : Int32))), .val (.int (f ((((p2 + (1 : Int32)) + (1 : Int32)) + (1 : Int32))).toNatClampNeg))] [(.int ((((0 : Int32) ||| (((f (p2).toNatClampNeg) &&& (127 : Int32)) <<< ((0 : Int32) &&& 31))) ||| (((f ((p2 + (1 : Int32))).toNatClampNeg) &&& (127 : Int32)) <<< ((7 : Int32) &&& 31))) ||| (((f (((p2 + (1 : Int32)) + (1 : Int32))).toNatClampNeg) &&& (127 : Int32)) <<< ((14 : Int32) &&& 31))))])) t
            refine XS.iload X0.here hx rfl (hb hby d2_44) rfl ?_
            show Steps p.tables e below (T0.setTop (mkF m 46 #[.val (.ref a1), .val (.int p2), .val (.int ((((0 : Int32) ||| (((f (p2).toNatClampNeg) &&& (127 : Int32)) <<< ((0 : Int32) &&& 31))) ||| (((f ((p2 + (1 : Int32))).toNatClampNeg) &&& (127 : Int32)) <<< ((7 : Int32) &&& 31))) ||| (((f (((p2 + (1 : Int32)) + (1 : Int32))).toNatClampNeg) &&& (127 : Int32)) <<< ((14 : Int32) &&& 31)))), .val (.int (21 : Int32)), .val (.int (((p2 + (1 : Int32)) + (1 : Int32)) + (1 : Int32))), .val (.int (f ((((p2 + (1 : Int32)) + (1 : Int32)) + (1 : Int32))).toNatClampNeg))] [(.int (f ((((p2 + (1 : Int32)) + (1 : Int32)) + (1 : Int32))).toNatClampNeg)), (.int ((((0 : Int32) ||| (((f (p2).toNatClampNeg) &&& (127 : Int32)) <<< ((0 : Int32) &&& 31))) ||| (((f ((p2 + (1 : Int32))).toNatClampNeg) &&& (127 : Int32)) <<< ((7 : Int32) &&& 31))) ||| (((f (((p2 + (1 : Int32)) + (1 : Int32))).toNatClampNeg) &&& (127 : Int32)) <<< ((14 : Int32) &&& 31))))])) t
            refine XS.iloadN X0.here hx rfl (hb hby d2_46) rfl ?_
            show Steps p.tables e below (T0.setTop (mkF m 47 #[.val (.ref a1), .val (.int p2), .val (.int ((((0 : Int32) ||| (((f (p2).toNatClampNeg) &&& (127 : Int32)) <<< ((0 : Int32) &&& 31))) ||| (((f ((p2 + (1 : Int32))).toNatClampNeg) &&& (127 : Int32)) <<< ((7 : Int32) &&& 31))) ||| (((f (((p2 + (1 : Int32)) + (1 : Int32))).toNatClampNeg) &&& (127 : Int32)) <<< ((14 : Int32) &&& 31)))), .val (.int (21 : Int32)), .val (.int (((p2 + (1 : Int32)) + (1 : Int32)) + (1 : Int32))), .val (.int (f ((((p2 + (1 : Int32)) + (1 : Int32)) + (1 : Int32))).toNatClampNeg))] [(.int (21 : Int32)), (.int (f ((((p2 + (1 : Int32)) + (1 : Int32)) + (1 : Int32))).toNatClampNeg)), (.int ((((0 : Int32) ||| (((f (p2).toNatClampNeg) &&& (127 : Int32)) <<< ((0 : Int32) &&& 31))) ||| (((f ((p2 + (1 : Int32))).toNatClampNeg) &&& (127 : Int32)) <<< ((7 : Int32) &&& 31))) ||| (((f (((p2 + (1 : Int32)) + (1 : Int32))).toNatClampNeg) &&& (127 : Int32)) <<< ((14 : Int32) &&& 31))))])) t
            refine XS.ishl X0.here hx rfl (hb hby d2_47) rfl ?_
            show Steps p.tables e below (T0.setTop (mkF m 48 #[.val (.ref a1), .val (.int p2), .val (.int ((((0 : Int32) ||| (((f (p2).toNatClampNeg) &&& (127 : Int32)) <<< ((0 : Int32) &&& 31))) ||| (((f ((p2 + (1 : Int32))).toNatClampNeg) &&& (127 : Int32)) <<< ((7 : Int32) &&& 31))) ||| (((f (((p2 + (1 : Int32)) + (1 : Int32))).toNatClampNeg) &&& (127 : Int32)) <<< ((14 : Int32) &&& 31)))), .val (.int (21 : Int32)), .val (.int (((p2 + (1 : Int32)) + (1 : Int32)) + (1 : Int32))), .val (.int (f ((((p2 + (1 : Int32)) + (1 : Int32)) + (1 : Int32))).toNatClampNeg))] [(.int ((f ((((p2 + (1 : Int32)) + (1 : Int32)) + (1 : Int32))).toNatClampNeg) <<< ((21 : Int32) &&& 31))), (.int ((((0 : Int32) ||| (((f (p2).toNatClampNeg) &&& (127 : Int32)) <<< ((0 : Int32) &&& 31))) ||| (((f ((p2 + (1 : Int32))).toNatClampNeg) &&& (127 : Int32)) <<< ((7 : Int32) &&& 31))) ||| (((f (((p2 + (1 : Int32)) + (1 : Int32))).toNatClampNeg) &&& (127 : Int32)) <<< ((14 : Int32) &&& 31))))])) t
            refine XS.ior X0.here hx rfl (hb hby d2_48) rfl ?_
            exact k
          exact doneI X0 hx hret hlk (hb hby d2_49) ⟨rfl, N0, e0⟩ (by decide) (by decide)
      · rw [if_neg hc15_8]
        refine Done.of (T' := T0) (g' := (mkF m 49 #[.val (.ref a1), .val (.int p2), .val (.int (((0 : Int32) ||| (((f (p2).toNatClampNeg) &&& (127 : Int32)) <<< ((0 : Int32) &&& 31))) ||| (((f ((p2 + (1 : Int32))).toNatClampNeg) &&& (127 : Int32)) <<< ((7 : Int32) &&& 31)))), .val (.int (14 : Int32)), .val (.int ((p2 + (1 : Int32)) + (1 : Int32))), .val (.int (f (((p2 + (1 : Int32)) + (1 : Int32))).toNatClampNeg))] [(.int ((((0 : Int32) ||| (((f (p2).toNatClampNeg) &&& (127 : Int32)) <<< ((0 : Int32) &&& 31))) ||| (((f ((p2 + (1 : Int32))).toNatClampNeg) &&& (127 : Int32)) <<< ((7 : Int32) &&& 31))) ||| ((f (((p2 + (1 : Int32)) + (1 : Int32))).toNatClampNeg) <<< ((14 : Int32) &&& 31))))])) (fun t k => ?_) ?_
        · show Steps p.tables e below (T0.setTop (mkF m 15 #[.val (.ref a1), .val (.int p2), .val (.int (((0 : Int32) ||| (((f (p2).toNatClampNeg) &&& (127 : Int32)) <<< ((0 : Int32) &&& 31))) ||| (((f ((p2 + (1 : Int32))).toNatClampNeg) &&& (127 : Int32)) <<< ((7 : Int32) &&& 31)))), .val (.int (14 : Int32)), .val (.int ((p2 + (1 : Int32)) + (1 : Int32))), .val (.int (f (((p2 + (1 : Int32)) + (1 : Int32))).toNatClampNeg))] [(.int (f (((p2 + (1 : Int32)) + (1 : Int32))).toNatClampNeg))])) t
          refine XS.ifYes X0.here hx rfl (pc0 := 15) (pc' := 43) rfl (hb hby d2_15) rfl ((if0 _ _).trans (flt hc15_8).2.1) (by decide) (by decide) ?_
          show Steps p.tables e below (T0.setTop (mkF m 43 #[.val (.ref a1), .val (.int p2), .val (.int (((0 : Int32) ||| (((f (p2).toNatClampNeg) &&& (127 : Int32)) <<< ((0 : Int32) &&& 31))) ||| (((f ((p2 + (1 : Int32))).toNatClampNeg) &&& (127 : Int32)) <<< ((7 : Int32) &&& 31)))), .val (.int (14 : Int32)), .val (.int ((p2 + (1 : Int32)) + (1 : Int32))), .val (.int (f (((p2 + (1 : Int32)) + (1 : Int32))).toNatClampNeg))] [])) t
          refine XS.iloadN X0.here hx rfl (hb hby d2_43) rfl ?_
          show Steps p.tables e below (T0.setTop (mkF m 44 #[.val (.ref a1), .val (.int p2), .val (.int (((0 : Int32) ||| (((f (p2).toNatClampNeg) &&& (127 : Int32)) <<< ((0 : Int32) &&& 31))) ||| (((f ((p2 + (1 : Int32))).toNatClampNeg) &&& (127 : Int32)) <<< ((7 : Int32) &&& 31)))), .val (.int (14 : Int32)), .val (.int ((p2 + (1 : Int32)) + (1 : Int32))), .val (.int (f (((p2 + (1 : Int32)) + (1 : Int32))).toNatClampNeg))] [(.int (((0 : Int32) ||| (((f (p2).toNatClampNeg) &&& (127 : Int32)) <<< ((0 : Int32) &&& 31))) ||| (((f ((p2 + (1 : Int32))).toNatClampNeg) &&& (127 : Int32)) <<< ((7 : Int32) &&& 31))))])) t
          refine XS.iload X0.here hx rfl (hb hby d2_44) rfl ?_
          show Steps p.tables e below (T0.setTop (mkF m 46 #[.val (.ref a1), .val (.int p2), .val (.int (((0 : Int32) ||| (((f (p2).toNatClampNeg) &&& (127 : Int32)) <<< ((0 : Int32) &&& 31))) ||| (((f ((p2 + (1 : Int32))).toNatClampNeg) &&& (127 : Int32)) <<< ((7 : Int32) &&& 31)))), .val (.int (14 : Int32)), .val (.int ((p2 + (1 : Int32)) + (1 : Int32))), .val (.int (f (((p2 + (1 : Int32)) + (1 : Int32))).toNatClampNeg))] [(.int (f (((p2 + (1 : Int32)) + (1 : Int32))).toNatClampNeg)), (.int (((0 : Int32) ||| (((f (p2).toNatClampNeg) &&& (127 : Int32)) <<< ((0 : Int32) &&& 31))) ||| (((f ((p2 + (1 : Int32))).toNatClampNeg) &&& (127 : Int32)) <<< ((7 : Int32) &&& 31))))])) t
          refine XS.iloadN X0.here hx rfl (hb hby d2_46) rfl ?_
          show Steps p.tables e below (T0.setTop (mkF m 47 #[.val (.ref a1), .val (.int p2), .val (.int (((0 : Int32) ||| (((f (p2).toNatClampNeg) &&& (127 : Int32)) <<< ((0 : Int32) &&& 31))) ||| (((f ((p2 + (1 : Int32))).toNatClampNeg) &&& (127 : Int32)) <<< ((7 : Int32) &&& 31)))), .val (.int (14 : Int32)), .val (.int ((p2 + (1 : Int32)) + (1 : Int32))), .val (.int (f (((p2 + (1 : Int32)) + (1 : Int32))).toNatClampNeg))] [(.int (14 : Int32)), (.int (f (((p2 + (1 : Int32)) + (1 : Int32))).toNatClampNeg)), (.int (((0 : Int32) ||| (((f (p2).toNatClampNeg) &&& (127 : Int32)) <<< ((0 : Int32) &&& 31))) ||| (((f ((p2 + (1 : Int32))).toNatClampNeg) &&& (127 : Int32)) <<< ((7 : Int32) &&& 31))))])) t
          refine XS.ishl X0.here hx rfl (hb hby d2_47) rfl ?_
          show Steps p.tables e below (T0.setTop (mkF m 48 #[.val (.ref a1), .val (.int p2), .val (.int (((0 : Int32) ||| (((f (p2).toNatClampNeg) &&& (127 : Int32)) <<< ((0 : Int32) &&& 31))) ||| (((f ((p2 + (1 : Int32))).toNatClampNeg) &&& (127 : Int32)) <<< ((7 : Int32) &&& 31)))), .val (.int (14 : Int32)), .val (.int ((p2 + (1 : Int32)) + (1 : Int32))), .val (.int (f (((p2 + (1 : Int32)) + (1 : Int32))).toNatClampNeg))] [(.int ((f (((p2 + (1 : Int32)) + (1 : Int32))).toNatClampNeg) <<< ((14 : Int32) &&& 31))), (.int (((0 : Int32) ||| (((f (p2).toNatClampNeg) &&& (127 : Int32)) <<< ((0 : Int32) &&& 31))) ||| (((f ((p2 + (1 : Int32))).toNatClampNeg) &&& (127 : Int32)) <<< ((7 : Int32) &&& 31))))])) t
          refine XS.ior X0.here hx rfl (hb hby d2_48) rfl ?_
          exact k
        exact doneI X0 hx hret hlk (hb hby d2_49) ⟨rfl, N0, e0⟩ (by decide) (by decide)
    · rw [if_neg hc15_5]
      refine Done.of (T' := T0) (g' := (mkF m 49 #[.val (.ref a1), .val (.int p2), .val (.int ((0 : Int32) ||| (((f (p2).toNatClampNeg) &&& (127 : Int32)) <<< ((0 : Int32) &&& 31)))), .val (.int (7 : Int32)), .val (.int (p2 + (1 : Int32))), .val (.int (f ((p2 + (1 : Int32))).toNatClampNeg))] [(.int (((0 : Int32) ||| (((f (p2).toNatClampNeg) &&& (127 : Int32)) <<< ((0 : Int32) &&& 31))) ||| ((f ((p2 + (1 : Int32))).toNatClampNeg) <<< ((7 : Int32) &&& 31))))])) (fun t k => ?_) ?_
      · show Steps p.tables e below (T0.setTop (mkF m 15 #[.val (.ref a1), .val (.int p2), .val (.int ((0 : Int32) ||| (((f (p2).toNatClampNeg) &&& (127 : Int32)) <<< ((0 : Int32) &&& 31)))), .val (.int (7 : Int32)), .val (.int (p2 + (1 : Int32))), .val (.int (f ((p2 + (1 : Int32))).toNatClampNeg))] [(.int (f ((p2 + (1 : Int32))).toNatClampNeg))])) t
        refine XS.ifYes X0.here hx rfl (pc0 := 15) (pc' := 43) rfl (hb hby d2_15) rfl ((if0 _ _).trans (flt hc15_5).2.1) (by decide) (by decide) ?_
        show Steps p.tables e below (T0.setTop (mkF m 43 #[.val (.ref a1), .val (.int p2), .val (.int ((0 : Int32) ||| (((f (p2).toNatClampNeg) &&& (127 : Int32)) <<< ((0 : Int32) &&& 31)))), .val (.int (7 : Int32)), .val (.int (p2 + (1 : Int32))), .val (.int (f ((p2 + (1 : Int32))).toNatClampNeg))] [])) t
        refine XS.iloadN X0.here hx rfl (hb hby d2_43) rfl ?_
        show Steps p.tables e below (T0.setTop (mkF m 44 #[.val (.ref a1), .val (.int p2), .val (.int ((0 : Int32) ||| (((f (p2).toNatClampNeg) &&& (127 : Int32)) <<< ((0 : Int32) &&& 31)))), .val (.int (7 : Int32)), .val (.int (p2 + (1 : Int32))), .val (.int (f ((p2 + (1 : Int32))).toNatClampNeg))] [(.int ((0 : Int32) ||| (((f (p2).toNatClampNeg) &&& (127 : Int32)) <<< ((0 : Int32) &&& 31))))])) t
        refine XS.iload X0.here hx rfl (hb hby d2_44) rfl ?_
        show Steps p.tables e below (T0.setTop (mkF m 46 #[.val (.ref a1), .val (.int p2), .val (.int ((0 : Int32) ||| (((f (p2).toNatClampNeg) &&& (127 : Int32)) <<< ((0 : Int32) &&& 31)))), .val (.int (7 : Int32)), .val (.int (p2 + (1 : Int32))), .val (.int (f ((p2 + (1 : Int32))).toNatClampNeg))] [(.int (f ((p2 + (1 : Int32))).toNatClampNeg)), (.int ((0 : Int32) ||| (((f (p2).toNatClampNeg) &&& (127 : Int32)) <<< ((0 : Int32) &&& 31))))])) t
        refine XS.iloadN X0.here hx rfl (hb hby d2_46) rfl ?_
        show Steps p.tables e below (T0.setTop (mkF m 47 #[.val (.ref a1), .val (.int p2), .val (.int ((0 : Int32) ||| (((f (p2).toNatClampNeg) &&& (127 : Int32)) <<< ((0 : Int32) &&& 31)))), .val (.int (7 : Int32)), .val (.int (p2 + (1 : Int32))), .val (.int (f ((p2 + (1 : Int32))).toNatClampNeg))] [(.int (7 : Int32)), (.int (f ((p2 + (1 : Int32))).toNatClampNeg)), (.int ((0 : Int32) ||| (((f (p2).toNatClampNeg) &&& (127 : Int32)) <<< ((0 : Int32) &&& 31))))])) t
        refine XS.ishl X0.here hx rfl (hb hby d2_47) rfl ?_
        show Steps p.tables e below (T0.setTop (mkF m 48 #[.val (.ref a1), .val (.int p2), .val (.int ((0 : Int32) ||| (((f (p2).toNatClampNeg) &&& (127 : Int32)) <<< ((0 : Int32) &&& 31)))), .val (.int (7 : Int32)), .val (.int (p2 + (1 : Int32))), .val (.int (f ((p2 + (1 : Int32))).toNatClampNeg))] [(.int ((f ((p2 + (1 : Int32))).toNatClampNeg) <<< ((7 : Int32) &&& 31))), (.int ((0 : Int32) ||| (((f (p2).toNatClampNeg) &&& (127 : Int32)) <<< ((0 : Int32) &&& 31))))])) t
        refine XS.ior X0.here hx rfl (hb hby d2_48) rfl ?_
        exact k
      exact doneI X0 hx hret hlk (hb hby d2_49) ⟨rfl, N0, e0⟩ (by decide) (by decide)
  · rw [if_neg hc15_2]
    refine Done.of (T' := T0) (g' := (mkF m 49 #[.val (.ref a1), .val (.int p2), .val (.int (0 : Int32)), .val (.int (0 : Int32)), .val (.int p2), .val (.int (f (p2).toNatClampNeg))] [(.int ((0 : Int32) ||| ((f (p2).toNatClampNeg) <<< ((0 : Int32) &&& 31))))])) (fun t k => ?_) ?_
    · show Steps p.tables e below (T0.setTop (mkF m 15 #[.val (.ref a1), .val (.int p2), .val (.int (0 : Int32)), .val (.int (0 : Int32)), .val (.int p2), .val (.int (f (p2).toNatClampNeg))] [(.int (f (p2).toNatClampNeg))])) t
      refine XS.ifYes X0.here hx rfl (pc0 := 15) (pc' := 43) rfl (hb hby d2_15) rfl ((if0 _ _).trans (flt hc15_2).2.1) (by decide) (by decide) ?_
      show Steps p.tables e below (T0.setTop (mkF m 43 #[.val (.ref a1), .val (.int p2), .val (.int (0 : Int32)), .val (.int (0 : Int32)), .val (.int p2), .val (.int (f (p2).toNatClampNeg))] [])) t
      refine XS.iloadN X0.here hx rfl (hb hby d2_43) rfl ?_
      show Steps p.tables e below (T0.setTop (mkF m 44 #[.val (.ref a1), .val (.int p2), .val (.int (0 : Int32)), .val (.int (0 : Int32)), .val (.int p2), .val (.int (f (p2).toNatClampNeg))] [(.int (0 : Int32))])) t
      refine XS.iload X0.here hx rfl (hb hby d2_44) rfl ?_
      show Steps p.tables e below (T0.setTop (mkF m 46 #[.val (.ref a1), .val (.int p2), .val (.int (0 : Int32)), .val (.int (0 : Int32)), .val (.int p2), .val (.int (f (p2).toNatClampNeg))] [(.int (f (p2).toNatClampNeg)), (.int (0 : Int32))])) t
      refine XS.iloadN X0.here hx rfl (hb hby d2_46) rfl ?_
      show Steps p.tables e below (T0.setTop (mkF m 47 #[.val (.ref a1), .val (.int p2), .val (.int (0 : Int32)), .val (.int (0 : Int32)), .val (.int p2), .val (.int (f (p2).toNatClampNeg))] [(.int (0 : Int32)), (.int (f (p2).toNatClampNeg)), (.int (0 : Int32))])) t
      refine XS.ishl X0.here hx rfl (hb hby d2_47) rfl ?_
      show Steps p.tables e below (T0.setTop (mkF m 48 #[.val (.ref a1), .val (.int p2), .val (.int (0 : Int32)), .val (.int (0 : Int32)), .val (.int p2), .val (.int (f (p2).toNatClampNeg))] [(.int ((f (p2).toNatClampNeg) <<< ((0 : Int32) &&& 31))), (.int (0 : Int32))])) t
      refine XS.ior X0.here hx rfl (hb hby d2_48) rfl ?_
      exact k
    exact doneI X0 hx hret hlk (hb hby d2_49) ⟨rfl, N0, e0⟩ (by decide) (by decide)
theorem ef_2 (m : MethodId) (a1 : Addr) (p2 : Int32) : entryFrame m #[(.ref a1), (.int p2)] 6 = mkF m 0 #[.val (.ref a1), .val (.int p2), .unset, .unset, .unset, .unset] [] := by first | (simp [entryFrame, mkF, argsToLocals, Value.category, maxLocals]; done) | rfl
theorem pn_2 : plainName "com/example/holdfast/holdfast/Varint" = true := by first | (simp [plainName, overriddenIn]; done) | decide +kernel
set_option maxRecDepth 65536 in
set_option maxHeartbeats 40000000 in
theorem rm2 (l : Launch) (Z : State) (a0 : Array Value) (hw : ∀ d ∈ tables_1, d.before a0 Z = true) (ws : List Jvm.Cond) (a1 : Addr) (p2 : Int32) (h0 : Heap) (n0 : Nat) (kc : ClassId) (f : Nat → Int32) (V_a1 : Arv Z h0 a1 kc .byte (8 : Int32) ((List.range 8).map fun j => Value.int (f j)) (.int (0 : Int32))) (hat : 0 ≤ p2.toInt ∧ p2.toInt ≤ 3) (hend : (f (p2).toNatClampNeg) < (0 : Int32) → (f ((p2 + (1 : Int32))).toNatClampNeg) < (0 : Int32) → (f (((p2 + (1 : Int32)) + (1 : Int32))).toNatClampNeg) < (0 : Int32) → (f ((((p2 + (1 : Int32)) + (1 : Int32)) + (1 : Int32))).toNatClampNeg) < (0 : Int32) → ¬ (f (((((p2 + (1 : Int32)) + (1 : Int32)) + (1 : Int32)) + (1 : Int32))).toNatClampNeg) < (0 : Int32)) :
    MetFree l (⟨"com/example/holdfast/holdfast/Varint", "read", "([BI)I"⟩ : MethodName) (head1 (Jvm.Cond.code (⟨"com/example/holdfast/holdfast/Varint", "read", "([BI)I"⟩ : MethodName) prog_78_method_4_code 6 (some .int) :: ws) ({ frames := 0, cells := 0, slots := 0, locals := 0 } : Room)) (fun a U => a = #[(.ref a1), (.int p2)] ∧ Z.Warmed39 U.vm ∧ U.heap = h0) (fun _ _ _ _ _ => True) (fun _ U o U' => ∃ v L, o = .returned v ∧ (Qp h0 n0 (.int (F2_0 p2 f))) v U'.heap L ∧ FrameEnd U o U' L ({ frames := 0, cells := 0, slots := 0, locals := 0 } : Room).cells ({ frames := 0, cells := 0, slots := 0, locals := 0 } : Room).slots) := by
  refine MetFree.of_bodySF (plainFor_of_name pn_2) hisR ?_
  intro p e s m args below meth c s₁ Bd hml0 hP hK
  obtain ⟨rfl, hZ, hh⟩ := hP
  have hown : s.vm.findClass "com/example/holdfast/holdfast/Varint" = some m.cls := findClass_of_methodNamed Bd.named
  have hnm := (name_of_methodNamed Bd.named Bd.method).1
  have X0 : Stand p l e ({ frames := 0, cells := 0, slots := 0, locals := 0 } : Room) s m #[(.ref a1), (.int p2)] below meth c s₁ [] 0 0 := Stand.of_body Bd
  have e0 : s₁.heap = h0 := by rw [← hh, Bd.state]; rfl
  have d := bk2_0 (n0 := n0) Bd.exec hZ hw Bd.bytes hml0 hown hnm Bd.returns (BodyLoose.notSynchronized Bd) X0 (Fr.nil n0) e0 a1 p2 kc f V_a1 hat hend
  have d2 : Done p e below s ({ frames := 0, cells := 0, slots := 0, locals := 0 } : Room) (Qp h0 n0 (.int (F2_0 p2 f))) s₁ (entryFrame m #[(.ref a1), (.int p2)] 6) := by rw [ef_2]; exact d
  exact d2
theorem pd_0 : parseMethodDescriptor "(I[BI)I" = some ⟨[.int, (.array .byte), .int], some .int⟩ := by decide +kernel
theorem pd_1 : parseMethodDescriptor "([BI)I" = some ⟨[(.array .byte), .int], some .int⟩ := by decide +kernel
theorem own_hat3 (p2 : Int32) : 0 ≤ (p2 &&& (3 : Int32)).toInt ∧ (p2 &&& (3 : Int32)).toInt ≤ 3 := by
  have h := c_mask p2 3 2 (by decide) (by decide)
  omega
/-- a byte with the bit that says 'more' -/
theorem own_cont (x : Int32) : (((((x &&& (127 : Int32)) ||| (128 : Int32)).toInt8.toInt32).toInt8.toInt32)).toInt = x.toInt % 128 - 128 := by
  have m := c_mask x 127 7 (by decide) (by decide)
  have l : (128 : Int32).toInt = 128 := rfl
  have o := c_or' (x &&& 127) 128 7 (by decide) 128 (by decide) (by decide) (by omega) (by omega)
  have r := rng32 ((x &&& 127) ||| 128)
  have h1 := c_i2b ((x &&& 127) ||| 128)
  have h2 := c_i2b ((x &&& 127) ||| 128).toInt8.toInt32
  omega
/-- the last byte -/
theorem own_lastb (x : Int32) (h0 : 0 ≤ x.toInt) (h1 : x.toInt < 128) : ((x.toInt8.toInt32).toInt8.toInt32).toInt = x.toInt := by
  have q1 := c_i2b x
  have q2 := c_i2b x.toInt8.toInt32
  omega
theorem own_z (x : Int32) : ((x &&& (-128 : Int32)) = (0 : Int32)) ↔ (0 ≤ x.toInt ∧ x.toInt < 128) := by
  constructor
  · intro h
    have e : x = x &&& 127 := by
      apply Int32.toBitVec_inj.mp
      apply BitVec.eq_of_getLsbD_eq
      intro i hi
      have q := congrArg (fun z : Int32 => z.toBitVec.getLsbD i) h
      simp only [Int32.toBitVec_and, BitVec.getLsbD_and] at q ⊢
      have bits : ∀ i : Fin 32, ((-128 : Int32).toBitVec.getLsbD i.1 = !(127 : Int32).toBitVec.getLsbD i.1) ∧ (0 : Int32).toBitVec.getLsbD i.1 = false := by decide
      obtain ⟨b1, b2⟩ := bits ⟨i, hi⟩
      rw [b1, b2] at q
      cases hx : x.toBitVec.getLsbD i <;> cases hy : (127 : Int32).toBitVec.getLsbD i <;> simp_all
    have m := c_mask x 127 7 (by decide) (by decide)
    rw [← e] at m; omega
  · rintro ⟨h0, h1⟩; exact own_small x h0 h1
theorem own_nat (x : Int32) (k : Nat) (y : Int32) (h0 : 0 ≤ x.toInt) (h : y.toInt = x.toInt + k) : y.toNatClampNeg = x.toNatClampNeg + k := by
  simp only [Int32.toNatClampNeg]; omega
theorem own_idx {p : Int32} (hat : 0 ≤ p.toInt ∧ p.toInt ≤ 3) : (p + 1).toNatClampNeg = p.toNatClampNeg + 1 ∧ (p + 1 + 1).toNatClampNeg = p.toNatClampNeg + 2 ∧ (p + 1 + 1 + 1).toNatClampNeg = p.toNatClampNeg + 3 ∧ (p + 1 + 1 + 1 + 1).toNatClampNeg = p.toNatClampNeg + 4 := by
  have l1 : (1 : Int32).toInt = 1 := rfl
  have a1 := c_iadd p 1
  have r1 := rng32 (p + 1)
  have a2 := c_iadd (p + 1) 1
  have r2 := rng32 (p + 1 + 1)
  have a3 := c_iadd (p + 1 + 1) 1
  have r3 := rng32 (p + 1 + 1 + 1)
  have a4 := c_iadd (p + 1 + 1 + 1) 1
  have r4 := rng32 (p + 1 + 1 + 1 + 1)
  exact ⟨own_nat p 1 _ hat.1 (by omega), own_nat p 2 _ hat.1 (by omega), own_nat p 3 _ hat.1 (by omega), own_nat p 4 _ hat.1 (by omega)⟩
def own_s (x : Int32) : Int32 := ((x.toUInt32 >>> ((7 : Int32) &&& 31).toUInt32).toInt32)
def own_c (x : Int32) : Int32 := ((((x &&& (127 : Int32)) ||| (128 : Int32)).toInt8.toInt32).toInt8.toInt32)
def own_b (x : Int32) : Int32 := ((x.toInt8.toInt32).toInt8.toInt32)
/-- what lies at the five places -/
def own_at (v : Int32) (b0 b1 b2 b3 b4 : Int32) : Prop :=
  ((v &&& (-128 : Int32)) = 0 ∧ b0 = own_b v) ∨
  (¬ (v &&& (-128 : Int32)) = 0 ∧ (own_s v &&& (-128 : Int32)) = 0 ∧ b0 = own_c v ∧ b1 = own_b (own_s v)) ∨
  (¬ (v &&& (-128 : Int32)) = 0 ∧ ¬ (own_s v &&& (-128 : Int32)) = 0 ∧ (own_s (own_s v) &&& (-128 : Int32)) = 0 ∧ b0 = own_c v ∧ b1 = own_c (own_s v) ∧ b2 = own_b (own_s (own_s v))) ∨
  (¬ (v &&& (-128 : Int32)) = 0 ∧ ¬ (own_s v &&& (-128 : Int32)) = 0 ∧ ¬ (own_s (own_s v) &&& (-128 : Int32)) = 0 ∧ (own_s (own_s (own_s v)) &&& (-128 : Int32)) = 0 ∧ b0 = own_c v ∧ b1 = own_c (own_s v) ∧ b2 = own_c (own_s (own_s v)) ∧ b3 = own_b (own_s (own_s (own_s v)))) ∨
  (¬ (v &&& (-128 : Int32)) = 0 ∧ ¬ (own_s v &&& (-128 : Int32)) = 0 ∧ ¬ (own_s (own_s v) &&& (-128 : Int32)) = 0 ∧ ¬ (own_s (own_s (own_s v)) &&& (-128 : Int32)) = 0 ∧ b0 = own_c v ∧ b1 = own_c (own_s v) ∧ b2 = own_c (own_s (own_s v)) ∧ b3 = own_c (own_s (own_s (own_s v))) ∧ b4 = own_b (own_s (own_s (own_s (own_s v)))))
theorem own_w1 (v p : Int32) (f : Nat → Int32) (hat : 0 ≤ p.toInt ∧ p.toInt ≤ 3) (c0 : (v &&& (-128 : Int32)) = (0 : Int32)) (j : Nat) : own_wr v p f j = if j = p.toNatClampNeg + 0 then own_b v else (f j) := by
  obtain ⟨i1, i2, i3, i4⟩ := own_idx hat
  have i0 : p.toNatClampNeg = p.toNatClampNeg + 0 := rfl
  unfold own_s at *
  unfold own_wr own_b
  rw [if_pos c0]
  simp only [i1, i2, i3, i4, Nat.add_zero]
theorem own_w2 (v p : Int32) (f : Nat → Int32) (hat : 0 ≤ p.toInt ∧ p.toInt ≤ 3) (c0 : ¬ (v &&& (-128 : Int32)) = (0 : Int32)) (c1 : ((own_s v) &&& (-128 : Int32)) = (0 : Int32)) (j : Nat) : own_wr v p f j = if j = p.toNatClampNeg + 1 then own_b (own_s v) else (if j = p.toNatClampNeg + 0 then own_c v else (f j)) := by
  obtain ⟨i1, i2, i3, i4⟩ := own_idx hat
  have i0 : p.toNatClampNeg = p.toNatClampNeg + 0 := rfl
  unfold own_s at *
  unfold own_wr own_c own_b
  rw [if_neg c0, if_pos c1]
  simp only [i1, i2, i3, i4, Nat.add_zero]
theorem own_w3 (v p : Int32) (f : Nat → Int32) (hat : 0 ≤ p.toInt ∧ p.toInt ≤ 3) (c0 : ¬ (v &&& (-128 : Int32)) = (0 : Int32)) (c1 : ¬ ((own_s v) &&& (-128 : Int32)) = (0 : Int32)) (c2 : ((own_s (own_s v)) &&& (-128 : Int32)) = (0 : Int32)) (j : Nat) : own_wr v p f j = if j = p.toNatClampNeg + 2 then own_b (own_s (own_s v)) else (if j = p.toNatClampNeg + 1 then own_c (own_s v) else (if j = p.toNatClampNeg + 0 then own_c v else (f j))) := by
  obtain ⟨i1, i2, i3, i4⟩ := own_idx hat
  have i0 : p.toNatClampNeg = p.toNatClampNeg + 0 := rfl
  unfold own_s at *
  unfold own_wr own_c own_b
  rw [if_neg c0, if_neg c1, if_pos c2]
  simp only [i1, i2, i3, i4, Nat.add_zero]
theorem own_w4 (v p : Int32) (f : Nat → Int32) (hat : 0 ≤ p.toInt ∧ p.toInt ≤ 3) (c0 : ¬ (v &&& (-128 : Int32)) = (0 : Int32)) (c1 : ¬ ((own_s v) &&& (-128 : Int32)) = (0 : Int32)) (c2 : ¬ ((own_s (own_s v)) &&& (-128 : Int32)) = (0 : Int32)) (c3 : ((own_s (own_s (own_s v))) &&& (-128 : Int32)) = (0 : Int32)) (j : Nat) : own_wr v p f j = if j = p.toNatClampNeg + 3 then own_b (own_s (own_s (own_s v))) else (if j = p.toNatClampNeg + 2 then own_c (own_s (own_s v)) else (if j = p.toNatClampNeg + 1 then own_c (own_s v) else (if j = p.toNatClampNeg + 0 then own_c v else (f j)))) := by
  obtain ⟨i1, i2, i3, i4⟩ := own_idx hat
  have i0 : p.toNatClampNeg = p.toNatClampNeg + 0 := rfl
  unfold own_s at *
  unfold own_wr own_c own_b
  rw [if_neg c0, if_neg c1, if_neg c2, if_pos c3]
  simp only [i1, i2, i3, i4, Nat.add_zero]
theorem own_w5 (v p : Int32) (f : Nat → Int32) (hat : 0 ≤ p.toInt ∧ p.toInt ≤ 3) (c0 : ¬ (v &&& (-128 : Int32)) = (0 : Int32)) (c1 : ¬ ((own_s v) &&& (-128 : Int32)) = (0 : Int32)) (c2 : ¬ ((own_s (own_s v)) &&& (-128 : Int32)) = (0 : Int32)) (c3 : ¬ ((own_s (own_s (own_s v))) &&& (-128 : Int32)) = (0 : Int32)) (j : Nat) : own_wr v p f j = if j = p.toNatClampNeg + 4 then own_b (own_s (own_s (own_s (own_s v)))) else (if j = p.toNatClampNeg + 3 then own_c (own_s (own_s (own_s v))) else (if j = p.toNatClampNeg + 2 then own_c (own_s (own_s v)) else (if j = p.toNatClampNeg + 1 then own_c (own_s v) else (if j = p.toNatClampNeg + 0 then own_c v else (f j))))) := by
  obtain ⟨i1, i2, i3, i4⟩ := own_idx hat
  have i0 : p.toNatClampNeg = p.toNatClampNeg + 0 := rfl
  unfold own_s at *
  unfold own_wr own_c own_b
  rw [if_neg c0, if_neg c1, if_neg c2, if_neg c3]
  simp only [i1, i2, i3, i4, Nat.add_zero]
theorem own_places (v p : Int32) (f : Nat → Int32) (hat : 0 ≤ p.toInt ∧ p.toInt ≤ 3) : own_at v (own_wr v p f p.toNatClampNeg) (own_wr v p f (p + 1).toNatClampNeg) (own_wr v p f (p + 1 + 1).toNatClampNeg) (own_wr v p f (p + 1 + 1 + 1).toNatClampNeg) (own_wr v p f (p + 1 + 1 + 1 + 1).toNatClampNeg) := by
  obtain ⟨i1, i2, i3, i4⟩ := own_idx hat
  rw [i1, i2, i3, i4]
  unfold own_at
  by_cases h0 : (v &&& (-128 : Int32)) = 0
  · left; refine ⟨h0, ?_⟩
    · rw [own_w1 v p f hat h0, if_pos (by omega)]
  · right
    by_cases h1 : (own_s v &&& (-128 : Int32)) = 0
    · left; refine ⟨h0, h1, ?_, ?_⟩
      · rw [own_w2 v p f hat h0 h1, if_neg (by omega), if_pos (by omega)]
      · rw [own_w2 v p f hat h0 h1, if_pos (by omega)]
    · right
      by_cases h2 : (own_s (own_s v) &&& (-128 : Int32)) = 0
      · left; refine ⟨h0, h1, h2, ?_, ?_, ?_⟩
        · rw [own_w3 v p f hat h0 h1 h2, if_neg (by omega), if_neg (by omega), if_pos (by omega)]
        · rw [own_w3 v p f hat h0 h1 h2, if_neg (by omega), if_pos (by omega)]
        · rw [own_w3 v p f hat h0 h1 h2, if_pos (by omega)]
      · right
        by_cases h3 : (own_s (own_s (own_s v)) &&& (-128 : Int32)) = 0
        · left; refine ⟨h0, h1, h2, h3, ?_, ?_, ?_, ?_⟩
          · rw [own_w4 v p f hat h0 h1 h2 h3, if_neg (by omega), if_neg (by omega), if_neg (by omega), if_pos (by omega)]
          · rw [own_w4 v p f hat h0 h1 h2 h3, if_neg (by omega), if_neg (by omega), if_pos (by omega)]
          · rw [own_w4 v p f hat h0 h1 h2 h3, if_neg (by omega), if_pos (by omega)]
          · rw [own_w4 v p f hat h0 h1 h2 h3, if_pos (by omega)]
        · right
          refine ⟨h0, h1, h2, h3, ?_, ?_, ?_, ?_, ?_⟩
          · rw [own_w5 v p f hat h0 h1 h2 h3, if_neg (by omega), if_neg (by omega), if_neg (by omega), if_neg (by omega), if_pos (by omega)]
          · rw [own_w5 v p f hat h0 h1 h2 h3, if_neg (by omega), if_neg (by omega), if_neg (by omega), if_pos (by omega)]
          · rw [own_w5 v p f hat h0 h1 h2 h3, if_neg (by omega), if_neg (by omega), if_pos (by omega)]
          · rw [own_w5 v p f hat h0 h1 h2 h3, if_neg (by omega), if_pos (by omega)]
          · rw [own_w5 v p f hat h0 h1 h2 h3, if_pos (by omega)]
theorem own_sv (x : Int32) : (own_s x).toInt = (x.toInt % 4294967296) / 128 := c_iushr x 7 7 (by decide) (by decide)
theorem own_bn (x : Int32) (h : (x &&& (-128 : Int32)) = 0) : ¬ own_b x < 0 := by
  obtain ⟨h0, h1⟩ := (own_z x).mp h
  have := own_lastb x h0 h1
  have l : (0 : Int32).toInt = 0 := rfl
  unfold own_b; rw [Int32.lt_iff_toInt_lt]; omega
theorem own_hend (v p2 : Int32) (f : Nat → Int32) : own_wr v (p2 &&& (3 : Int32)) f (p2 &&& (3 : Int32)).toNatClampNeg < (0 : Int32) → own_wr v (p2 &&& (3 : Int32)) f ((p2 &&& (3 : Int32)) + 1).toNatClampNeg < (0 : Int32) → own_wr v (p2 &&& (3 : Int32)) f ((p2 &&& (3 : Int32)) + 1 + 1).toNatClampNeg < (0 : Int32) → own_wr v (p2 &&& (3 : Int32)) f ((p2 &&& (3 : Int32)) + 1 + 1 + 1).toNatClampNeg < (0 : Int32) → ¬ own_wr v (p2 &&& (3 : Int32)) f ((p2 &&& (3 : Int32)) + 1 + 1 + 1 + 1).toNatClampNeg < (0 : Int32) := by
  have pl := own_places v (p2 &&& 3) f (own_hat3 p2)
  generalize own_wr v (p2 &&& (3 : Int32)) f (p2 &&& (3 : Int32)).toNatClampNeg = b0 at *
  generalize own_wr v (p2 &&& (3 : Int32)) f ((p2 &&& (3 : Int32)) + 1).toNatClampNeg = b1 at *
  generalize own_wr v (p2 &&& (3 : Int32)) f ((p2 &&& (3 : Int32)) + 1 + 1).toNatClampNeg = b2 at *
  generalize own_wr v (p2 &&& (3 : Int32)) f ((p2 &&& (3 : Int32)) + 1 + 1 + 1).toNatClampNeg = b3 at *
  generalize own_wr v (p2 &&& (3 : Int32)) f ((p2 &&& (3 : Int32)) + 1 + 1 + 1 + 1).toNatClampNeg = b4 at *
  intro c0 c1 c2 c3
  rcases pl with ⟨h, rfl⟩ | ⟨_, h, rfl, rfl⟩ | ⟨_, _, h, rfl, rfl, rfl⟩ | ⟨_, _, _, h, rfl, rfl, rfl, rfl⟩ | ⟨_, _, _, _, rfl, rfl, rfl, rfl, rfl⟩
  · exact absurd c0 (own_bn _ h)
  · exact absurd c1 (own_bn _ h)
  · exact absurd c2 (own_bn _ h)
  · exact absurd c3 (own_bn _ h)
  · exact own_bn _ (own_last v)
def F0_0 (p1 : Int32) (p2 : Int32) (q3 : Int64) : Int32 := (if (F2_0 (p2 &&& (3 : Int32)) (own_wr p1 (p2 &&& (3 : Int32)) (fun j => ([(((q3.toInt32).toInt8.toInt32).toInt8.toInt32), (((((q3.toUInt64 >>> ((8 : Int32) &&& 0x3f).toInt64.toUInt64).toInt64).toInt32).toInt8.toInt32).toInt8.toInt32), (((((q3.toUInt64 >>> ((16 : Int32) &&& 0x3f).toInt64.toUInt64).toInt64).toInt32).toInt8.toInt32).toInt8.toInt32), (((((q3.toUInt64 >>> ((24 : Int32) &&& 0x3f).toInt64.toUInt64).toInt64).toInt32).toInt8.toInt32).toInt8.toInt32), (((((q3.toUInt64 >>> ((32 : Int32) &&& 0x3f).toInt64.toUInt64).toInt64).toInt32).toInt8.toInt32).toInt8.toInt32), (((((q3.toUInt64 >>> ((40 : Int32) &&& 0x3f).toInt64.toUInt64).toInt64).toInt32).toInt8.toInt32).toInt8.toInt32), (((((q3.toUInt64 >>> ((48 : Int32) &&& 0x3f).toInt64.toUInt64).toInt64).toInt32).toInt8.toInt32).toInt8.toInt32), (((((q3.toUInt64 >>> ((56 : Int32) &&& 0x3f).toInt64.toUInt64).toInt64).toInt32).toInt8.toInt32).toInt8.toInt32)] : List Int32).getD j 0))) = p1 then (1 : Int32) else (0 : Int32))
set_option maxRecDepth 65536 in
set_option maxHeartbeats 40000000 in
theorem bk0_0 {p : Program} {l : Launch} {e : Env} {s : State} {m : MethodId} {args : Array Value} {below : List Frame} {meth : Method} {c : Code} {T0 : State} {locs : List Loc} {Z : State} {a0 : Array Value} {h0 : Heap} {n0 : Nat}
    (hx : p.tables.exec = Jvm.exec) (hZ : Z.Warmed39 s.vm) (hw : ∀ d ∈ tables_1, d.before a0 Z = true) (hby : c.code = code) (hml : c.maxLocals = 6) (hown : s.vm.findClass "com/example/holdfast/holdfast/VarintReadPinLaw" = some m.cls) (hnm : meth.name = "law") (hret : meth.sig.returnType = some .boolean) (hlk : meth.locks = false)
    (X0 : Stand p l e room_1 s m args below meth c T0 locs 0 0) (N0 : Fr n0 locs) (e0 : T0.heap = h0) (p1 : Int32) (p2 : Int32) (q3 : Int64) (Z0 : n0 ≤ h0.size) :
    Done p e below s room_1 (Ql n0 (.int (F0_0 p1 p2 q3))) T0 (mkF m 0 #[.val (.int p1), .val (.int p2), .val (.long q3), .second, .unset, .unset] []) := by
  unfold F0_0
  refine Done.of (T' := T0) (g' := (mkF m 2 #[.val (.int p1), .val (.int p2), .val (.long q3), .second, .unset, .unset] [(.int (8 : Int32))])) (fun t k => ?_) ?_
  · show Steps p.tables e below (T0.setTop (mkF m 0 #[.val (.int p1), .val (.int p2), .val (.long q3), .second, .unset, .unset] [])) t
    refine XS.bipush X0.here hx rfl (hb hby at_0) ?_
    exact k
  obtain ⟨T1, h1, k1, X1, e1, E1, A1, st1⟩ := newP X0 hx hZ (hw _ (List.mem_of_getElem? (i := 0) rfl)) e0 (g := (mkF m 2 #[.val (.int p1), .val (.int p2), .val (.long q3), .second, .unset, .unset] [(.int (8 : Int32))])) rfl (hb hby at_2) rfl (by decide) (cap := 8) (by decide) (by decide) (by decide) (by decide)
  obtain ⟨b1, g1⟩ : ∃ z, z = h0.size := ⟨_, rfl⟩
  rw [← g1] at A1 st1
  have V1 : Arv Z h1 b1 k1 .byte (8 : Int32) [(.int (0 : Int32)), (.int (0 : Int32)), (.int (0 : Int32)), (.int (0 : Int32)), (.int (0 : Int32)), (.int (0 : Int32)), (.int (0 : Int32)), (.int (0 : Int32))] (.int (0 : Int32)) := (Arv.new A1 (by decide)).pad (pad_rep [] (.int (0 : Int32)) 8)
  have g_b1 : n0 ≤ b1 := Nat.le_trans Z0 (Nat.le_of_eq g1.symm)
  refine Done.of (g' := (mkF m 4 #[.val (.int p1), .val (.int p2), .val (.long q3), .second, .unset, .unset] [(.ref b1)])) st1 ?_
  refine Done.of (T' := T1) (g' := (mkF m 12 #[.val (.int p1), .val (.int p2), .val (.long q3), .second, .val (.ref b1), .unset] [(.int ((q3.toInt32).toInt8.toInt32)), (.int (0 : Int32)), (.ref b1)])) (fun t k => ?_) ?_
  · show Steps p.tables e below (T1.setTop (mkF m 4 #[.val (.int p1), .val (.int p2), .val (.long q3), .second, .unset, .unset] [(.ref b1)])) t
    refine XS.astore X1.here hx rfl (hb hby at_4) rfl rfl (l' := #[.val (.int p1), .val (.int p2), .val (.long q3), .second, .val (.ref b1), .unset]) rfl ?_
    show Steps p.tables e below (T1.setTop (mkF m 6 #[.val (.int p1), .val (.int p2), .val (.long q3), .second, .val (.ref b1), .unset] [])) t
    refine XS.aload X1.here hx rfl (hb hby at_6) rfl rfl ?_
    show Steps p.tables e below (T1.setTop (mkF m 8 #[.val (.int p1), .val (.int p2), .val (.long q3), .second, .val (.ref b1), .unset] [(.ref b1)])) t
    refine XS.iconst X1.here hx rfl (hb hby at_8) ?_
    show Steps p.tables e below (T1.setTop (mkF m 9 #[.val (.int p1), .val (.int p2), .val (.long q3), .second, .val (.ref b1), .unset] [(.int (0 : Int32)), (.ref b1)])) t
    refine XS.lloadN X1.here hx rfl (hb hby at_9) rfl ?_
    show Steps p.tables e below (T1.setTop (mkF m 10 #[.val (.int p1), .val (.int p2), .val (.long q3), .second, .val (.ref b1), .unset] [(.long q3), (.int (0 : Int32)), (.ref b1)])) t
    refine XS.l2i X1.here hx rfl (hb hby at_10) rfl ?_
    show Steps p.tables e below (T1.setTop (mkF m 11 #[.val (.int p1), .val (.int p2), .val (.long q3), .second, .val (.ref b1), .unset] [(.int (q3.toInt32)), (.int (0 : Int32)), (.ref b1)])) t
    refine XS.i2b X1.here hx rfl (hb hby at_11) rfl ?_
    exact k
  obtain ⟨cl_o3, Ar_o3, q_o3, S_o3, Nn_o3, H_o3, G_o3⟩ := id V1
  have hin2 : ¬ ((0 : Int32) < 0 ∨ cl_o3.slots.size ≤ ((0 : Int32)).toNatClampNeg) := inb_of S_o3 ⟨by decide, by decide⟩
  obtain ⟨T2, h2, X2, e2, W2, st2⟩ := stB X1 hx hZ e1 Ar_o3 (j := (0 : Int32)) hin2 (g := (mkF m 12 #[.val (.int p1), .val (.int p2), .val (.long q3), .second, .val (.ref b1), .unset] [(.int ((q3.toInt32).toInt8.toInt32)), (.int (0 : Int32)), (.ref b1)])) rfl rfl (hb hby at_12)
  have V2 : Arv Z h2 b1 k1 .byte (8 : Int32) [(.int (((q3.toInt32).toInt8.toInt32).toInt8.toInt32)), (.int (0 : Int32)), (.int (0 : Int32)), (.int (0 : Int32)), (.int (0 : Int32)), (.int (0 : Int32)), (.int (0 : Int32)), (.int (0 : Int32))] (.int (0 : Int32)) := Arv.set Ar_o3 q_o3 S_o3 Nn_o3 H_o3 G_o3 (fits_nar_byte _) W2 0 rfl (Nat.le_of_ble_eq_true rfl)
  have N2 := Fr.snoc X2 N0 g_b1
  refine Done.of (g' := (mkF m 13 #[.val (.int p1), .val (.int p2), .val (.long q3), .second, .val (.ref b1), .unset] [])) st2 ?_
  refine Done.of (T' := T2) (g' := (mkF m 22 #[.val (.int p1), .val (.int p2), .val (.long q3), .second, .val (.ref b1), .unset] [(.int ((((q3.toUInt64 >>> ((8 : Int32) &&& 0x3f).toInt64.toUInt64).toInt64).toInt32).toInt8.toInt32)), (.int (1 : Int32)), (.ref b1)])) (fun t k => ?_) ?_
  · show Steps p.tables e below (T2.setTop (mkF m 13 #[.val (.int p1), .val (.int p2), .val (.long q3), .second, .val (.ref b1), .unset] [])) t
    refine XS.aload X2.here hx rfl (hb hby at_13) rfl rfl ?_
    show Steps p.tables e below (T2.setTop (mkF m 15 #[.val (.int p1), .val (.int p2), .val (.long q3), .second, .val (.ref b1), .unset] [(.ref b1)])) t
    refine XS.iconst X2.here hx rfl (hb hby at_15) ?_
    show Steps p.tables e below (T2.setTop (mkF m 16 #[.val (.int p1), .val (.int p2), .val (.long q3), .second, .val (.ref b1), .unset] [(.int (1 : Int32)), (.ref b1)])) t
    refine XS.lloadN X2.here hx rfl (hb hby at_16) rfl ?_
    show Steps p.tables e below (T2.setTop (mkF m 17 #[.val (.int p1), .val (.int p2), .val (.long q3), .second, .val (.ref b1), .unset] [(.long q3), (.int (1 : Int32)), (.ref b1)])) t
    refine XS.bipush X2.here hx rfl (hb hby at_17) ?_
    show Steps p.tables e below (T2.setTop (mkF m 19 #[.val (.int p1), .val (.int p2), .val (.long q3), .second, .val (.ref b1), .unset] [(.int (8 : Int32)), (.long q3), (.int (1 : Int32)), (.ref b1)])) t
    refine XS.lushr X2.here hx rfl (hb hby at_19) rfl ?_
    show Steps p.tables e below (T2.setTop (mkF m 20 #[.val (.int p1), .val (.int p2), .val (.long q3), .second, .val (.ref b1), .unset] [(.long ((q3.toUInt64 >>> ((8 : Int32) &&& 0x3f).toInt64.toUInt64).toInt64)), (.int (1 : Int32)), (.ref b1)])) t
    refine XS.l2i X2.here hx rfl (hb hby at_20) rfl ?_
    show Steps p.tables e below (T2.setTop (mkF m 21 #[.val (.int p1), .val (.int p2), .val (.long q3), .second, .val (.ref b1), .unset] [(.int (((q3.toUInt64 >>> ((8 : Int32) &&& 0x3f).toInt64.toUInt64).toInt64).toInt32)), (.int (1 : Int32)), (.ref b1)])) t
    refine XS.i2b X2.here hx rfl (hb hby at_21) rfl ?_
    exact k
  obtain ⟨cl_o5, Ar_o5, q_o5, S_o5, Nn_o5, H_o5, G_o5⟩ := id V2
  have hin4 : ¬ ((1 : Int32) < 0 ∨ cl_o5.slots.size ≤ ((1 : Int32)).toNatClampNeg) := inb_of S_o5 ⟨by decide, by decide⟩
  obtain ⟨T4, h4, X4, e4, W4, st4⟩ := stB X2 hx hZ e2 Ar_o5 (j := (1 : Int32)) hin4 (g := (mkF m 22 #[.val (.int p1), .val (.int p2), .val (.long q3), .second, .val (.ref b1), .unset] [(.int ((((q3.toUInt64 >>> ((8 : Int32) &&& 0x3f).toInt64.toUInt64).toInt64).toInt32).toInt8.toInt32)), (.int (1 : Int32)), (.ref b1)])) rfl rfl (hb hby at_22)
  have V4 : Arv Z h4 b1 k1 .byte (8 : Int32) [(.int (((q3.toInt32).toInt8.toInt32).toInt8.toInt32)), (.int (((((q3.toUInt64 >>> ((8 : Int32) &&& 0x3f).toInt64.toUInt64).toInt64).toInt32).toInt8.toInt32).toInt8.toInt32)), (.int (0 : Int32)), (.int (0 : Int32)), (.int (0 : Int32)), (.int (0 : Int32)), (.int (0 : Int32)), (.int (0 : Int32))] (.int (0 : Int32)) := Arv.set Ar_o5 q_o5 S_o5 Nn_o5 H_o5 G_o5 (fits_nar_byte _) W4 1 rfl (Nat.le_of_ble_eq_true rfl)
  have N4 := Fr.snoc X4 N2 g_b1
  refine Done.of (g' := (mkF m 23 #[.val (.int p1), .val (.int p2), .val (.long q3), .second, .val (.ref b1), .unset] [])) st4 ?_
  refine Done.of (T' := T4) (g' := (mkF m 32 #[.val (.int p1), .val (.int p2), .val (.long q3), .second, .val (.ref b1), .unset] [(.int ((((q3.toUInt64 >>> ((16 : Int32) &&& 0x3f).toInt64.toUInt64).toInt64).toInt32).toInt8.toInt32)), (.int (2 : Int32)), (.ref b1)])) (fun t k => ?_) ?_
  · show Steps p.tables e below (T4.setTop (mkF m 23 #[.val (.int p1), .val (.int p2), .val (.long q3), .second, .val (.ref b1), .unset] [])) t
    refine XS.aload X4.here hx rfl (hb hby at_23) rfl rfl ?_
    show Steps p.tables e below (T4.setTop (mkF m 25 #[.val (.int p1), .val (.int p2), .val (.long q3), .second, .val (.ref b1), .unset] [(.ref b1)])) t
    refine XS.iconst X4.here hx rfl (hb hby at_25) ?_
    show Steps p.tables e below (T4.setTop (mkF m 26 #[.val (.int p1), .val (.int p2), .val (.long q3), .second, .val (.ref b1), .unset] [(.int (2 : Int32)), (.ref b1)])) t
    refine XS.lloadN X4.here hx rfl (hb hby at_26) rfl ?_
    show Steps p.tables e below (T4.setTop (mkF m 27 #[.val (.int p1), .val (.int p2), .val (.long q3), .second, .val (.ref b1), .unset] [(.long q3), (.int (2 : Int32)), (.ref b1)])) t
    refine XS.bipush X4.here hx rfl (hb hby at_27) ?_
    show Steps p.tables e below (T4.setTop (mkF m 29 #[.val (.int p1), .val (.int p2), .val (.long q3), .second, .val (.ref b1), .unset] [(.int (16 : Int32)), (.long q3), (.int (2 : Int32)), (.ref b1)])) t
    refine XS.lushr X4.here hx rfl (hb hby at_29) rfl ?_
    show Steps p.tables e below (T4.setTop (mkF m 30 #[.val (.int p1), .val (.int p2), .val (.long q3), .second, .val (.ref b1), .unset] [(.long ((q3.toUInt64 >>> ((16 : Int32) &&& 0x3f).toInt64.toUInt64).toInt64)), (.int (2 : Int32)), (.ref b1)])) t
    refine XS.l2i X4.here hx rfl (hb hby at_30) rfl ?_
    show Steps p.tables e below (T4.setTop (mkF m 31 #[.val (.int p1), .val (.int p2), .val (.long q3), .second, .val (.ref b1), .unset] [(.int (((q3.toUInt64 >>> ((16 : Int32) &&& 0x3f).toInt64.toUInt64).toInt64).toInt32)), (.int (2 : Int32)), (.ref b1)])) t
    refine XS.i2b X4.here hx rfl (hb hby at_31) rfl ?_
    exact k
  obtain ⟨cl_o7, Ar_o7, q_o7, S_o7, Nn_o7, H_o7, G_o7⟩ := id V4
  have hin6 : ¬ ((2 : Int32) < 0 ∨ cl_o7.slots.size ≤ ((2 : Int32)).toNatClampNeg) := inb_of S_o7 ⟨by decide, by decide⟩
  obtain ⟨T6, h6, X6, e6, W6, st6⟩ := stB X4 hx hZ e4 Ar_o7 (j := (2 : Int32)) hin6 (g := (mkF m 32 #[.val (.int p1), .val (.int p2), .val (.long q3), .second, .val (.ref b1), .unset] [(.int ((((q3.toUInt64 >>> ((16 : Int32) &&& 0x3f).toInt64.toUInt64).toInt64).toInt32).toInt8.toInt32)), (.int (2 : Int32)), (.ref b1)])) rfl rfl (hb hby at_32)
  have V6 : Arv Z h6 b1 k1 .byte (8 : Int32) [(.int (((q3.toInt32).toInt8.toInt32).toInt8.toInt32)), (.int (((((q3.toUInt64 >>> ((8 : Int32) &&& 0x3f).toInt64.toUInt64).toInt64).toInt32).toInt8.toInt32).toInt8.toInt32)), (.int (((((q3.toUInt64 >>> ((16 : Int32) &&& 0x3f).toInt64.toUInt64).toInt64).toInt32).toInt8.toInt32).toInt8.toInt32)), (.int (0 : Int32)), (.int (0 : Int32)), (.int (0 : Int32)), (.int (0 : Int32)), (.int (0 : Int32))] (.int (0 : Int32)) := Arv.set Ar_o7 q_o7 S_o7 Nn_o7 H_o7 G_o7 (fits_nar_byte _) W6 2 rfl (Nat.le_of_ble_eq_true rfl)
  have N6 := Fr.snoc X6 N4 g_b1
  refine Done.of (g' := (mkF m 33 #[.val (.int p1), .val (.int p2), .val (.long q3), .second, .val (.ref b1), .unset] [])) st6 ?_
  refine Done.of (T' := T6) (g' := (mkF m 42 #[.val (.int p1), .val (.int p2), .val (.long q3), .second, .val (.ref b1), .unset] [(.int ((((q3.toUInt64 >>> ((24 : Int32) &&& 0x3f).toInt64.toUInt64).toInt64).toInt32).toInt8.toInt32)), (.int (3 : Int32)), (.ref b1)])) (fun t k => ?_) ?_
  · show Steps p.tables e below (T6.setTop (mkF m 33 #[.val (.int p1), .val (.int p2), .val (.long q3), .second, .val (.ref b1), .unset] [])) t
    refine XS.aload X6.here hx rfl (hb hby at_33) rfl rfl ?_
    show Steps p.tables e below (T6.setTop (mkF m 35 #[.val (.int p1), .val (.int p2), .val (.long q3), .second, .val (.ref b1), .unset] [(.ref b1)])) t
    refine XS.iconst X6.here hx rfl (hb hby at_35) ?_
    show Steps p.tables e below (T6.setTop (mkF m 36 #[.val (.int p1), .val (.int p2), .val (.long q3), .second, .val (.ref b1), .unset] [(.int (3 : Int32)), (.ref b1)])) t
    refine XS.lloadN X6.here hx rfl (hb hby at_36) rfl ?_
    show Steps p.tables e below (T6.setTop (mkF m 37 #[.val (.int p1), .val (.int p2), .val (.long q3), .second, .val (.ref b1), .unset] [(.long q3), (.int (3 : Int32)), (.ref b1)])) t
    refine XS.bipush X6.here hx rfl (hb hby at_37) ?_
    show Steps p.tables e below (T6.setTop (mkF m 39 #[.val (.int p1), .val (.int p2), .val (.long q3), .second, .val (.ref b1), .unset] [(.int (24 : Int32)), (.long q3), (.int (3 : Int32)), (.ref b1)])) t
    refine XS.lushr X6.here hx rfl (hb hby at_39) rfl ?_
    show Steps p.tables e below (T6.setTop (mkF m 40 #[.val (.int p1), .val (.int p2), .val (.long q3), .second, .val (.ref b1), .unset] [(.long ((q3.toUInt64 >>> ((24 : Int32) &&& 0x3f).toInt64.toUInt64).toInt64)), (.int (3 : Int32)), (.ref b1)])) t
    refine XS.l2i X6.here hx rfl (hb hby at_40) rfl ?_
    show Steps p.tables e below (T6.setTop (mkF m 41 #[.val (.int p1), .val (.int p2), .val (.long q3), .second, .val (.ref b1), .unset] [(.int (((q3.toUInt64 >>> ((24 : Int32) &&& 0x3f).toInt64.toUInt64).toInt64).toInt32)), (.int (3 : Int32)), (.ref b1)])) t
    refine XS.i2b X6.here hx rfl (hb hby at_41) rfl ?_
    exact k
  obtain ⟨cl_o9, Ar_o9, q_o9, S_o9, Nn_o9, H_o9, G_o9⟩ := id V6
  have hin8 : ¬ ((3 : Int32) < 0 ∨ cl_o9.slots.size ≤ ((3 : Int32)).toNatClampNeg) := inb_of S_o9 ⟨by decide, by decide⟩
  obtain ⟨T8, h8, X8, e8, W8, st8⟩ := stB X6 hx hZ e6 Ar_o9 (j := (3 : Int32)) hin8 (g := (mkF m 42 #[.val (.int p1), .val (.int p2), .val (.long q3), .second, .val (.ref b1), .unset] [(.int ((((q3.toUInt64 >>> ((24 : Int32) &&& 0x3f).toInt64.toUInt64).toInt64).toInt32).toInt8.toInt32)), (.int (3 : Int32)), (.ref b1)])) rfl rfl (hb hby at_42)
  have V8 : Arv Z h8 b1 k1 .byte (8 : Int32) [(.int (((q3.toInt32).toInt8.toInt32).toInt8.toInt32)), (.int (((((q3.toUInt64 >>> ((8 : Int32) &&& 0x3f).toInt64.toUInt64).toInt64).toInt32).toInt8.toInt32).toInt8.toInt32)), (.int (((((q3.toUInt64 >>> ((16 : Int32) &&& 0x3f).toInt64.toUInt64).toInt64).toInt32).toInt8.toInt32).toInt8.toInt32)), (.int (((((q3.toUInt64 >>> ((24 : Int32) &&& 0x3f).toInt64.toUInt64).toInt64).toInt32).toInt8.toInt32).toInt8.toInt32)), (.int (0 : Int32)), (.int (0 : Int32)), (.int (0 : Int32)), (.int (0 : Int32))] (.int (0 : Int32)) := Arv.set Ar_o9 q_o9 S_o9 Nn_o9 H_o9 G_o9 (fits_nar_byte _) W8 3 rfl (Nat.le_of_ble_eq_true rfl)
  have N8 := Fr.snoc X8 N6 g_b1
  refine Done.of (g' := (mkF m 43 #[.val (.int p1), .val (.int p2), .val (.long q3), .second, .val (.ref b1), .unset] [])) st8 ?_
  refine Done.of (T' := T8) (g' := (mkF m 52 #[.val (.int p1), .val (.int p2), .val (.long q3), .second, .val (.ref b1), .unset] [(.int ((((q3.toUInt64 >>> ((32 : Int32) &&& 0x3f).toInt64.toUInt64).toInt64).toInt32).toInt8.toInt32)), (.int (4 : Int32)), (.ref b1)])) (fun t k => ?_) ?_
  · show Steps p.tables e below (T8.setTop (mkF m 43 #[.val (.int p1), .val (.int p2), .val (.long q3), .second, .val (.ref b1), .unset] [])) t
    refine XS.aload X8.here hx rfl (hb hby at_43) rfl rfl ?_
    show Steps p.tables e below (T8.setTop (mkF m 45 #[.val (.int p1), .val (.int p2), .val (.long q3), .second, .val (.ref b1), .unset] [(.ref b1)])) t
    refine XS.iconst X8.here hx rfl (hb hby at_45) ?_
    show Steps p.tables e below (T8.setTop (mkF m 46 #[.val (.int p1), .val (.int p2), .val (.long q3), .second, .val (.ref b1), .unset] [(.int (4 : Int32)), (.ref b1)])) t
    refine XS.lloadN X8.here hx rfl (hb hby at_46) rfl ?_
    show Steps p.tables e below (T8.setTop (mkF m 47 #[.val (.int p1), .val (.int p2), .val (.long q3), .second, .val (.ref b1), .unset] [(.long q3), (.int (4 : Int32)), (.ref b1)])) t
    refine XS.bipush X8.here hx rfl (hb hby at_47) ?_
    show Steps p.tables e below (T8.setTop (mkF m 49 #[.val (.int p1), .val (.int p2), .val (.long q3), .second, .val (.ref b1), .unset] [(.int (32 : Int32)), (.long q3), (.int (4 : Int32)), (.ref b1)])) t
    refine XS.lushr X8.here hx rfl (hb hby at_49) rfl ?_
    show Steps p.tables e below (T8.setTop (mkF m 50 #[.val (.int p1), .val (.int p2), .val (.long q3), .second, .val (.ref b1), .unset] [(.long ((q3.toUInt64 >>> ((32 : Int32) &&& 0x3f).toInt64.toUInt64).toInt64)), (.int (4 : Int32)), (.ref b1)])) t
    refine XS.l2i X8.here hx rfl (hb hby at_50) rfl ?_
    show Steps p.tables e below (T8.setTop (mkF m 51 #[.val (.int p1), .val (.int p2), .val (.long q3), .second, .val (.ref b1), .unset] [(.int (((q3.toUInt64 >>> ((32 : Int32) &&& 0x3f).toInt64.toUInt64).toInt64).toInt32)), (.int (4 : Int32)), (.ref b1)])) t
    refine XS.i2b X8.here hx rfl (hb hby at_51) rfl ?_
    exact k
  obtain ⟨cl_o11, Ar_o11, q_o11, S_o11, Nn_o11, H_o11, G_o11⟩ := id V8
  have hin10 : ¬ ((4 : Int32) < 0 ∨ cl_o11.slots.size ≤ ((4 : Int32)).toNatClampNeg) := inb_of S_o11 ⟨by decide, by decide⟩
  obtain ⟨T10, h10, X10, e10, W10, st10⟩ := stB X8 hx hZ e8 Ar_o11 (j := (4 : Int32)) hin10 (g := (mkF m 52 #[.val (.int p1), .val (.int p2), .val (.long q3), .second, .val (.ref b1), .unset] [(.int ((((q3.toUInt64 >>> ((32 : Int32) &&& 0x3f).toInt64.toUInt64).toInt64).toInt32).toInt8.toInt32)), (.int (4 : Int32)), (.ref b1)])) rfl rfl (hb hby at_52)
  have V10 : Arv Z h10 b1 k1 .byte (8 : Int32) [(.int (((q3.toInt32).toInt8.toInt32).toInt8.toInt32)), (.int (((((q3.toUInt64 >>> ((8 : Int32) &&& 0x3f).toInt64.toUInt64).toInt64).toInt32).toInt8.toInt32).toInt8.toInt32)), (.int (((((q3.toUInt64 >>> ((16 : Int32) &&& 0x3f).toInt64.toUInt64).toInt64).toInt32).toInt8.toInt32).toInt8.toInt32)), (.int (((((q3.toUInt64 >>> ((24 : Int32) &&& 0x3f).toInt64.toUInt64).toInt64).toInt32).toInt8.toInt32).toInt8.toInt32)), (.int (((((q3.toUInt64 >>> ((32 : Int32) &&& 0x3f).toInt64.toUInt64).toInt64).toInt32).toInt8.toInt32).toInt8.toInt32)), (.int (0 : Int32)), (.int (0 : Int32)), (.int (0 : Int32))] (.int (0 : Int32)) := Arv.set Ar_o11 q_o11 S_o11 Nn_o11 H_o11 G_o11 (fits_nar_byte _) W10 4 rfl (Nat.le_of_ble_eq_true rfl)
  have N10 := Fr.snoc X10 N8 g_b1
  refine Done.of (g' := (mkF m 53 #[.val (.int p1), .val (.int p2), .val (.long q3), .second, .val (.ref b1), .unset] [])) st10 ?_
  refine Done.of (T' := T10) (g' := (mkF m 62 #[.val (.int p1), .val (.int p2), .val (.long q3), .second, .val (.ref b1), .unset] [(.int ((((q3.toUInt64 >>> ((40 : Int32) &&& 0x3f).toInt64.toUInt64).toInt64).toInt32).toInt8.toInt32)), (.int (5 : Int32)), (.ref b1)])) (fun t k => ?_) ?_
  · show Steps p.tables e below (T10.setTop (mkF m 53 #[.val (.int p1), .val (.int p2), .val (.long q3), .second, .val (.ref b1), .unset] [])) t
    refine XS.aload X10.here hx rfl (hb hby at_53) rfl rfl ?_
    show Steps p.tables e below (T10.setTop (mkF m 55 #[.val (.int p1), .val (.int p2), .val (.long q3), .second, .val (.ref b1), .unset] [(.ref b1)])) t
    refine XS.iconst X10.here hx rfl (hb hby at_55) ?_
    show Steps p.tables e below (T10.setTop (mkF m 56 #[.val (.int p1), .val (.int p2), .val (.long q3), .second, .val (.ref b1), .unset] [(.int (5 : Int32)), (.ref b1)])) t
    refine XS.lloadN X10.here hx rfl (hb hby at_56) rfl ?_
    show Steps p.tables e below (T10.setTop (mkF m 57 #[.val (.int p1), .val (.int p2), .val (.long q3), .second, .val (.ref b1), .unset] [(.long q3), (.int (5 : Int32)), (.ref b1)])) t
    refine XS.bipush X10.here hx rfl (hb hby at_57) ?_
    show Steps p.tables e below (T10.setTop (mkF m 59 #[.val (.int p1), .val (.int p2), .val (.long q3), .second, .val (.ref b1), .unset] [(.int (40 : Int32)), (.long q3), (.int (5 : Int32)), (.ref b1)])) t
    refine XS.lushr X10.here hx rfl (hb hby at_59) rfl ?_
    show Steps p.tables e below (T10.setTop (mkF m 60 #[.val (.int p1), .val (.int p2), .val (.long q3), .second, .val (.ref b1), .unset] [(.long ((q3.toUInt64 >>> ((40 : Int32) &&& 0x3f).toInt64.toUInt64).toInt64)), (.int (5 : Int32)), (.ref b1)])) t
    refine XS.l2i X10.here hx rfl (hb hby at_60) rfl ?_
    show Steps p.tables e below (T10.setTop (mkF m 61 #[.val (.int p1), .val (.int p2), .val (.long q3), .second, .val (.ref b1), .unset] [(.int (((q3.toUInt64 >>> ((40 : Int32) &&& 0x3f).toInt64.toUInt64).toInt64).toInt32)), (.int (5 : Int32)), (.ref b1)])) t
    refine XS.i2b X10.here hx rfl (hb hby at_61) rfl ?_
    exact k
  obtain ⟨cl_o13, Ar_o13, q_o13, S_o13, Nn_o13, H_o13, G_o13⟩ := id V10
  have hin12 : ¬ ((5 : Int32) < 0 ∨ cl_o13.slots.size ≤ ((5 : Int32)).toNatClampNeg) := inb_of S_o13 ⟨by decide, by decide⟩
  obtain ⟨T12, h12, X12, e12, W12, st12⟩ := stB X10 hx hZ e10 Ar_o13 (j := (5 : Int32)) hin12 (g := (mkF m 62 #[.val (.int p1), .val (.int p2), .val (.long q3), .second, .val (.ref b1), .unset] [(.int ((((q3.toUInt64 >>> ((40 : Int32) &&& 0x3f).toInt64.toUInt64).toInt64).toInt32).toInt8.toInt32)), (.int (5 : Int32)), (.ref b1)])) rfl rfl (hb hby at_62)
  have V12 : Arv Z h12 b1 k1 .byte (8 : Int32) [(.int (((q3.toInt32).toInt8.toInt32).toInt8.toInt32)), (.int (((((q3.toUInt64 >>> ((8 : Int32) &&& 0x3f).toInt64.toUInt64).toInt64).toInt32).toInt8.toInt32).toInt8.toInt32)), (.int (((((q3.toUInt64 >>> ((16 : Int32) &&& 0x3f).toInt64.toUInt64).toInt64).toInt32).toInt8.toInt32).toInt8.toInt32)), (.int (((((q3.toUInt64 >>> ((24 : Int32) &&& 0x3f).toInt64.toUInt64).toInt64).toInt32).toInt8.toInt32).toInt8.toInt32)), (.int (((((q3.toUInt64 >>> ((32 : Int32) &&& 0x3f).toInt64.toUInt64).toInt64).toInt32).toInt8.toInt32).toInt8.toInt32)), (.int (((((q3.toUInt64 >>> ((40 : Int32) &&& 0x3f).toInt64.toUInt64).toInt64).toInt32).toInt8.toInt32).toInt8.toInt32)), (.int (0 : Int32)), (.int (0 : Int32))] (.int (0 : Int32)) := Arv.set Ar_o13 q_o13 S_o13 Nn_o13 H_o13 G_o13 (fits_nar_byte _) W12 5 rfl (Nat.le_of_ble_eq_true rfl)
  have N12 := Fr.snoc X12 N10 g_b1
  refine Done.of (g' := (mkF m 63 #[.val (.int p1), .val (.int p2), .val (.long q3), .second, .val (.ref b1), .unset] [])) st12 ?_
  refine Done.of (T' := T12) (g' := (mkF m 73 #[.val (.int p1), .val (.int p2), .val (.long q3), .second, .val (.ref b1), .unset] [(.int ((((q3.toUInt64 >>> ((48 : Int32) &&& 0x3f).toInt64.toUInt64).toInt64).toInt32).toInt8.toInt32)), (.int (6 : Int32)), (.ref b1)])) (fun t k => ?_) ?_
  · show Steps p.tables e below (T12.setTop (mkF m 63 #[.val (.int p1), .val (.int p2), .val (.long q3), .second, .val (.ref b1), .unset] [])) t
    refine XS.aload X12.here hx rfl (hb hby at_63) rfl rfl ?_
    show Steps p.tables e below (T12.setTop (mkF m 65 #[.val (.int p1), .val (.int p2), .val (.long q3), .second, .val (.ref b1), .unset] [(.ref b1)])) t
    refine XS.bipush X12.here hx rfl (hb hby at_65) ?_
    show Steps p.tables e below (T12.setTop (mkF m 67 #[.val (.int p1), .val (.int p2), .val (.long q3), .second, .val (.ref b1), .unset] [(.int (6 : Int32)), (.ref b1)])) t
    refine XS.lloadN X12.here hx rfl (hb hby at_67) rfl ?_
    show Steps p.tables e below (T12.setTop (mkF m 68 #[.val (.int p1), .val (.int p2), .val (.long q3), .second, .val (.ref b1), .unset] [(.long q3), (.int (6 : Int32)), (.ref b1)])) t
    refine XS.bipush X12.here hx rfl (hb hby at_68) ?_
    show Steps p.tables e below (T12.setTop (mkF m 70 #[.val (.int p1), .val (.int p2), .val (.long q3), .second, .val (.ref b1), .unset] [(.int (48 : Int32)), (.long q3), (.int (6 : Int32)), (.ref b1)])) t
    refine XS.lushr X12.here hx rfl (hb hby at_70) rfl ?_
    show Steps p.tables e below (T12.setTop (mkF m 71 #[.val (.int p1), .val (.int p2), .val (.long q3), .second, .val (.ref b1), .unset] [(.long ((q3.toUInt64 >>> ((48 : Int32) &&& 0x3f).toInt64.toUInt64).toInt64)), (.int (6 : Int32)), (.ref b1)])) t
    refine XS.l2i X12.here hx rfl (hb hby at_71) rfl ?_
    show Steps p.tables e below (T12.setTop (mkF m 72 #[.val (.int p1), .val (.int p2), .val (.long q3), .second, .val (.ref b1), .unset] [(.int (((q3.toUInt64 >>> ((48 : Int32) &&& 0x3f).toInt64.toUInt64).toInt64).toInt32)), (.int (6 : Int32)), (.ref b1)])) t
    refine XS.i2b X12.here hx rfl (hb hby at_72) rfl ?_
    exact k
  obtain ⟨cl_o15, Ar_o15, q_o15, S_o15, Nn_o15, H_o15, G_o15⟩ := id V12
  have hin14 : ¬ ((6 : Int32) < 0 ∨ cl_o15.slots.size ≤ ((6 : Int32)).toNatClampNeg) := inb_of S_o15 ⟨by decide, by decide⟩
  obtain ⟨T14, h14, X14, e14, W14, st14⟩ := stB X12 hx hZ e12 Ar_o15 (j := (6 : Int32)) hin14 (g := (mkF m 73 #[.val (.int p1), .val (.int p2), .val (.long q3), .second, .val (.ref b1), .unset] [(.int ((((q3.toUInt64 >>> ((48 : Int32) &&& 0x3f).toInt64.toUInt64).toInt64).toInt32).toInt8.toInt32)), (.int (6 : Int32)), (.ref b1)])) rfl rfl (hb hby at_73)
  have V14 : Arv Z h14 b1 k1 .byte (8 : Int32) [(.int (((q3.toInt32).toInt8.toInt32).toInt8.toInt32)), (.int (((((q3.toUInt64 >>> ((8 : Int32) &&& 0x3f).toInt64.toUInt64).toInt64).toInt32).toInt8.toInt32).toInt8.toInt32)), (.int (((((q3.toUInt64 >>> ((16 : Int32) &&& 0x3f).toInt64.toUInt64).toInt64).toInt32).toInt8.toInt32).toInt8.toInt32)), (.int (((((q3.toUInt64 >>> ((24 : Int32) &&& 0x3f).toInt64.toUInt64).toInt64).toInt32).toInt8.toInt32).toInt8.toInt32)), (.int (((((q3.toUInt64 >>> ((32 : Int32) &&& 0x3f).toInt64.toUInt64).toInt64).toInt32).toInt8.toInt32).toInt8.toInt32)), (.int (((((q3.toUInt64 >>> ((40 : Int32) &&& 0x3f).toInt64.toUInt64).toInt64).toInt32).toInt8.toInt32).toInt8.toInt32)), (.int (((((q3.toUInt64 >>> ((48 : Int32) &&& 0x3f).toInt64.toUInt64).toInt64).toInt32).toInt8.toInt32).toInt8.toInt32)), (.int (0 : Int32))] (.int (0 : Int32)) := Arv.set Ar_o15 q_o15 S_o15 Nn_o15 H_o15 G_o15 (fits_nar_byte _) W14 6 rfl (Nat.le_of_ble_eq_true rfl)
  have N14 := Fr.snoc X14 N12 g_b1
  refine Done.of (g' := (mkF m 74 #[.val (.int p1), .val (.int p2), .val (.long q3), .second, .val (.ref b1), .unset] [])) st14 ?_
  refine Done.of (T' := T14) (g' := (mkF m 84 #[.val (.int p1), .val (.int p2), .val (.long q3), .second, .val (.ref b1), .unset] [(.int ((((q3.toUInt64 >>> ((56 : Int32) &&& 0x3f).toInt64.toUInt64).toInt64).toInt32).toInt8.toInt32)), (.int (7 : Int32)), (.ref b1)])) (fun t k => ?_) ?_
  · show Steps p.tables e below (T14.setTop (mkF m 74 #[.val (.int p1), .val (.int p2), .val (.long q3), .second, .val (.ref b1), .unset] [])) t
    refine XS.aload X14.here hx rfl (hb hby at_74) rfl rfl ?_
    show Steps p.tables e below (T14.setTop (mkF m 76 #[.val (.int p1), .val (.int p2), .val (.long q3), .second, .val (.ref b1), .unset] [(.ref b1)])) t
    refine XS.bipush X14.here hx rfl (hb hby at_76) ?_
    show Steps p.tables e below (T14.setTop (mkF m 78 #[.val (.int p1), .val (.int p2), .val (.long q3), .second, .val (.ref b1), .unset] [(.int (7 : Int32)), (.ref b1)])) t
    refine XS.lloadN X14.here hx rfl (hb hby at_78) rfl ?_
    show Steps p.tables e below (T14.setTop (mkF m 79 #[.val (.int p1), .val (.int p2), .val (.long q3), .second, .val (.ref b1), .unset] [(.long q3), (.int (7 : Int32)), (.ref b1)])) t
    refine XS.bipush X14.here hx rfl (hb hby at_79) ?_
    show Steps p.tables e below (T14.setTop (mkF m 81 #[.val (.int p1), .val (.int p2), .val (.long q3), .second, .val (.ref b1), .unset] [(.int (56 : Int32)), (.long q3), (.int (7 : Int32)), (.ref b1)])) t
    refine XS.lushr X14.here hx rfl (hb hby at_81) rfl ?_
    show Steps p.tables e below (T14.setTop (mkF m 82 #[.val (.int p1), .val (.int p2), .val (.long q3), .second, .val (.ref b1), .unset] [(.long ((q3.toUInt64 >>> ((56 : Int32) &&& 0x3f).toInt64.toUInt64).toInt64)), (.int (7 : Int32)), (.ref b1)])) t
    refine XS.l2i X14.here hx rfl (hb hby at_82) rfl ?_
    show Steps p.tables e below (T14.setTop (mkF m 83 #[.val (.int p1), .val (.int p2), .val (.long q3), .second, .val (.ref b1), .unset] [(.int (((q3.toUInt64 >>> ((56 : Int32) &&& 0x3f).toInt64.toUInt64).toInt64).toInt32)), (.int (7 : Int32)), (.ref b1)])) t
    refine XS.i2b X14.here hx rfl (hb hby at_83) rfl ?_
    exact k
  obtain ⟨cl_o17, Ar_o17, q_o17, S_o17, Nn_o17, H_o17, G_o17⟩ := id V14
  have hin16 : ¬ ((7 : Int32) < 0 ∨ cl_o17.slots.size ≤ ((7 : Int32)).toNatClampNeg) := inb_of S_o17 ⟨by decide, by decide⟩
  obtain ⟨T16, h16, X16, e16, W16, st16⟩ := stB X14 hx hZ e14 Ar_o17 (j := (7 : Int32)) hin16 (g := (mkF m 84 #[.val (.int p1), .val (.int p2), .val (.long q3), .second, .val (.ref b1), .unset] [(.int ((((q3.toUInt64 >>> ((56 : Int32) &&& 0x3f).toInt64.toUInt64).toInt64).toInt32).toInt8.toInt32)), (.int (7 : Int32)), (.ref b1)])) rfl rfl (hb hby at_84)
  have V16 : Arv Z h16 b1 k1 .byte (8 : Int32) [(.int (((q3.toInt32).toInt8.toInt32).toInt8.toInt32)), (.int (((((q3.toUInt64 >>> ((8 : Int32) &&& 0x3f).toInt64.toUInt64).toInt64).toInt32).toInt8.toInt32).toInt8.toInt32)), (.int (((((q3.toUInt64 >>> ((16 : Int32) &&& 0x3f).toInt64.toUInt64).toInt64).toInt32).toInt8.toInt32).toInt8.toInt32)), (.int (((((q3.toUInt64 >>> ((24 : Int32) &&& 0x3f).toInt64.toUInt64).toInt64).toInt32).toInt8.toInt32).toInt8.toInt32)), (.int (((((q3.toUInt64 >>> ((32 : Int32) &&& 0x3f).toInt64.toUInt64).toInt64).toInt32).toInt8.toInt32).toInt8.toInt32)), (.int (((((q3.toUInt64 >>> ((40 : Int32) &&& 0x3f).toInt64.toUInt64).toInt64).toInt32).toInt8.toInt32).toInt8.toInt32)), (.int (((((q3.toUInt64 >>> ((48 : Int32) &&& 0x3f).toInt64.toUInt64).toInt64).toInt32).toInt8.toInt32).toInt8.toInt32)), (.int (((((q3.toUInt64 >>> ((56 : Int32) &&& 0x3f).toInt64.toUInt64).toInt64).toInt32).toInt8.toInt32).toInt8.toInt32))] (.int (0 : Int32)) := Arv.set Ar_o17 q_o17 S_o17 Nn_o17 H_o17 G_o17 (fits_nar_byte _) W16 7 rfl (Nat.le_of_ble_eq_true rfl)
  have N16 := Fr.snoc X16 N14 g_b1
  refine Done.of (g' := (mkF m 85 #[.val (.int p1), .val (.int p2), .val (.long q3), .second, .val (.ref b1), .unset] [])) st16 ?_
  refine Done.of (T' := T16) (g' := (mkF m 95 #[.val (.int p1), .val (.int p2), .val (.long q3), .second, .val (.ref b1), .val (.int (p2 &&& (3 : Int32)))] [(.int (p2 &&& (3 : Int32))), (.ref b1), (.int p1)])) (fun t k => ?_) ?_
  · show Steps p.tables e below (T16.setTop (mkF m 85 #[.val (.int p1), .val (.int p2), .val (.long q3), .second, .val (.ref b1), .unset] [])) t
    refine XS.iloadN X16.here hx rfl (hb hby at_85) rfl ?_
    show Steps p.tables e below (T16.setTop (mkF m 86 #[.val (.int p1), .val (.int p2), .val (.long q3), .second, .val (.ref b1), .unset] [(.int p2)])) t
    refine XS.iconst X16.here hx rfl (hb hby at_86) ?_
    show Steps p.tables e below (T16.setTop (mkF m 87 #[.val (.int p1), .val (.int p2), .val (.long q3), .second, .val (.ref b1), .unset] [(.int (3 : Int32)), (.int p2)])) t
    refine XS.iand X16.here hx rfl (hb hby at_87) rfl ?_
    show Steps p.tables e below (T16.setTop (mkF m 88 #[.val (.int p1), .val (.int p2), .val (.long q3), .second, .val (.ref b1), .unset] [(.int (p2 &&& (3 : Int32)))])) t
    refine XS.istore X16.here hx rfl (hb hby at_88) rfl (l' := #[.val (.int p1), .val (.int p2), .val (.long q3), .second, .val (.ref b1), .val (.int (p2 &&& (3 : Int32)))]) rfl ?_
    show Steps p.tables e below (T16.setTop (mkF m 90 #[.val (.int p1), .val (.int p2), .val (.long q3), .second, .val (.ref b1), .val (.int (p2 &&& (3 : Int32)))] [])) t
    refine XS.iloadN X16.here hx rfl (hb hby at_90) rfl ?_
    show Steps p.tables e below (T16.setTop (mkF m 91 #[.val (.int p1), .val (.int p2), .val (.long q3), .second, .val (.ref b1), .val (.int (p2 &&& (3 : Int32)))] [(.int p1)])) t
    refine XS.aload X16.here hx rfl (hb hby at_91) rfl rfl ?_
    show Steps p.tables e below (T16.setTop (mkF m 93 #[.val (.int p1), .val (.int p2), .val (.long q3), .second, .val (.ref b1), .val (.int (p2 &&& (3 : Int32)))] [(.ref b1), (.int p1)])) t
    refine XS.iload X16.here hx rfl (hb hby at_93) rfl ?_
    exact k
  have V18 : Arv Z h16 b1 k1 .byte (8 : Int32) ((List.range 8).map fun j => Value.int ((fun j => ([(((q3.toInt32).toInt8.toInt32).toInt8.toInt32), (((((q3.toUInt64 >>> ((8 : Int32) &&& 0x3f).toInt64.toUInt64).toInt64).toInt32).toInt8.toInt32).toInt8.toInt32), (((((q3.toUInt64 >>> ((16 : Int32) &&& 0x3f).toInt64.toUInt64).toInt64).toInt32).toInt8.toInt32).toInt8.toInt32), (((((q3.toUInt64 >>> ((24 : Int32) &&& 0x3f).toInt64.toUInt64).toInt64).toInt32).toInt8.toInt32).toInt8.toInt32), (((((q3.toUInt64 >>> ((32 : Int32) &&& 0x3f).toInt64.toUInt64).toInt64).toInt32).toInt8.toInt32).toInt8.toInt32), (((((q3.toUInt64 >>> ((40 : Int32) &&& 0x3f).toInt64.toUInt64).toInt64).toInt32).toInt8.toInt32).toInt8.toInt32), (((((q3.toUInt64 >>> ((48 : Int32) &&& 0x3f).toInt64.toUInt64).toInt64).toInt32).toInt8.toInt32).toInt8.toInt32), (((((q3.toUInt64 >>> ((56 : Int32) &&& 0x3f).toInt64.toUInt64).toInt64).toInt32).toInt8.toInt32).toInt8.toInt32)] : List Int32).getD j 0) j)) (.int (0 : Int32)) := V16
  obtain ⟨_, _, ⟨T19, L19, k19, n19⟩, -, X19, ⟨Lc19, hQ19, l19, y19, z19⟩, st19⟩ := Jvm.LawKit.callS X16 hx (y := (⟨"com/example/holdfast/holdfast/Varint", "write", "(I[BI)I"⟩ : MethodName)) hown (mvT hZ (hw _ (List.mem_of_getElem? (i := 1) rfl))) (mvT hZ (hw _ (List.mem_of_getElem? (i := 2) rfl))) (mvT hZ (hw _ (List.mem_of_getElem? (i := 3) rfl))) (mvT hZ (hw _ (List.mem_of_getElem? (i := 4) rfl))) (by decide) (backOf (W := 0) (rm1 l Z a0 hw [] p1 b1 (p2 &&& (3 : Int32)) h16 n0 k1 (fun j => ([(((q3.toInt32).toInt8.toInt32).toInt8.toInt32), (((((q3.toUInt64 >>> ((8 : Int32) &&& 0x3f).toInt64.toUInt64).toInt64).toInt32).toInt8.toInt32).toInt8.toInt32), (((((q3.toUInt64 >>> ((16 : Int32) &&& 0x3f).toInt64.toUInt64).toInt64).toInt32).toInt8.toInt32).toInt8.toInt32), (((((q3.toUInt64 >>> ((24 : Int32) &&& 0x3f).toInt64.toUInt64).toInt64).toInt32).toInt8.toInt32).toInt8.toInt32), (((((q3.toUInt64 >>> ((32 : Int32) &&& 0x3f).toInt64.toUInt64).toInt64).toInt32).toInt8.toInt32).toInt8.toInt32), (((((q3.toUInt64 >>> ((40 : Int32) &&& 0x3f).toInt64.toUInt64).toInt64).toInt32).toInt8.toInt32).toInt8.toInt32), (((((q3.toUInt64 >>> ((48 : Int32) &&& 0x3f).toInt64.toUInt64).toInt64).toInt32).toInt8.toInt32).toInt8.toInt32), (((((q3.toUInt64 >>> ((56 : Int32) &&& 0x3f).toInt64.toUInt64).toInt64).toInt32).toInt8.toInt32).toInt8.toInt32)] : List Int32).getD j 0) V18 g_b1 (own_hat3 p2)) hZ (hw _ (List.mem_of_getElem? (i := 4) rfl)) (hw _ (List.mem_of_getElem? (i := 3) rfl)) (by decide) (by decide)) (g := (mkF m 95 #[.val (.int p1), .val (.int p2), .val (.long q3), .second, .val (.ref b1), .val (.int (p2 &&& (3 : Int32)))] [(.int (p2 &&& (3 : Int32))), (.ref b1), (.int p1)])) rfl (by rw [hml]; rfl) (argsL := [(.int p1), (.ref b1), (.int (p2 &&& (3 : Int32)))]) (rest := []) (lenOf pd_0 rfl) rfl (by show 2 * 0 + _ ≤ _; exact Nat.le_of_eq rfl) (hb hby at_95) (fun _ _ => ⟨rfl, e16, (by decide : 1 + 0 ≤ _), (by decide : 8 + 0 ≤ _)⟩)
  dsimp only [Pt.U, Pt.locs, Pt.cells, Pt.slots] at X19 l19 y19 z19 st19 hQ19
  subst l19 y19 z19
  obtain ⟨h19, e19⟩ : ∃ z, T19.heap = z := ⟨_, rfl⟩
  rw [e19] at hQ19
  obtain ⟨rfl, N19q, K19, V19⟩ := hQ19
  have N19 := Fr.app N16 N19q
  replace X19 : Stand p l e room_1 s m args below meth c T19 _ 1 8 := X19
  refine Done.of (g' := (mkF m 98 #[.val (.int p1), .val (.int p2), .val (.long q3), .second, .val (.ref b1), .val (.int (p2 &&& (3 : Int32)))] [(.int (own_end p1 (p2 &&& (3 : Int32))))])) st19 ?_
  refine Done.of (T' := T19) (g' := (mkF m 103 #[.val (.int p1), .val (.int p2), .val (.long q3), .second, .val (.ref b1), .val (.int (p2 &&& (3 : Int32)))] [(.int (p2 &&& (3 : Int32))), (.ref b1)])) (fun t k => ?_) ?_
  · show Steps p.tables e below (T19.setTop (mkF m 98 #[.val (.int p1), .val (.int p2), .val (.long q3), .second, .val (.ref b1), .val (.int (p2 &&& (3 : Int32)))] [(.int (own_end p1 (p2 &&& (3 : Int32))))])) t
    refine XS.pop X19.here hx rfl (hb hby at_98) rfl rfl ?_
    show Steps p.tables e below (T19.setTop (mkF m 99 #[.val (.int p1), .val (.int p2), .val (.long q3), .second, .val (.ref b1), .val (.int (p2 &&& (3 : Int32)))] [])) t
    refine XS.aload X19.here hx rfl (hb hby at_99) rfl rfl ?_
    show Steps p.tables e below (T19.setTop (mkF m 101 #[.val (.int p1), .val (.int p2), .val (.long q3), .second, .val (.ref b1), .val (.int (p2 &&& (3 : Int32)))] [(.ref b1)])) t
    refine XS.iload X19.here hx rfl (hb hby at_101) rfl ?_
    exact k
  obtain ⟨_, _, ⟨T20, L20, k20, n20⟩, -, X20, ⟨Lc20, hQ20, l20, y20, z20⟩, st20⟩ := Jvm.LawKit.callS X19 hx (y := (⟨"com/example/holdfast/holdfast/Varint", "read", "([BI)I"⟩ : MethodName)) hown (mvT hZ (hw _ (List.mem_of_getElem? (i := 5) rfl))) (mvT hZ (hw _ (List.mem_of_getElem? (i := 6) rfl))) (mvT hZ (hw _ (List.mem_of_getElem? (i := 3) rfl))) (mvT hZ (hw _ (List.mem_of_getElem? (i := 7) rfl))) (by decide) (backOf (W := 0) (rm2 l Z a0 hw [] b1 (p2 &&& (3 : Int32)) h19 n0 k1 (own_wr p1 (p2 &&& (3 : Int32)) (fun j => ([(((q3.toInt32).toInt8.toInt32).toInt8.toInt32), (((((q3.toUInt64 >>> ((8 : Int32) &&& 0x3f).toInt64.toUInt64).toInt64).toInt32).toInt8.toInt32).toInt8.toInt32), (((((q3.toUInt64 >>> ((16 : Int32) &&& 0x3f).toInt64.toUInt64).toInt64).toInt32).toInt8.toInt32).toInt8.toInt32), (((((q3.toUInt64 >>> ((24 : Int32) &&& 0x3f).toInt64.toUInt64).toInt64).toInt32).toInt8.toInt32).toInt8.toInt32), (((((q3.toUInt64 >>> ((32 : Int32) &&& 0x3f).toInt64.toUInt64).toInt64).toInt32).toInt8.toInt32).toInt8.toInt32), (((((q3.toUInt64 >>> ((40 : Int32) &&& 0x3f).toInt64.toUInt64).toInt64).toInt32).toInt8.toInt32).toInt8.toInt32), (((((q3.toUInt64 >>> ((48 : Int32) &&& 0x3f).toInt64.toUInt64).toInt64).toInt32).toInt8.toInt32).toInt8.toInt32), (((((q3.toUInt64 >>> ((56 : Int32) &&& 0x3f).toInt64.toUInt64).toInt64).toInt32).toInt8.toInt32).toInt8.toInt32)] : List Int32).getD j 0)) V19 (own_hat3 p2) (own_hend p1 p2 _)) hZ (hw _ (List.mem_of_getElem? (i := 7) rfl)) (hw _ (List.mem_of_getElem? (i := 3) rfl)) (by decide) (by decide)) (g := (mkF m 103 #[.val (.int p1), .val (.int p2), .val (.long q3), .second, .val (.ref b1), .val (.int (p2 &&& (3 : Int32)))] [(.int (p2 &&& (3 : Int32))), (.ref b1)])) rfl (by rw [hml]; rfl) (argsL := [(.ref b1), (.int (p2 &&& (3 : Int32)))]) (rest := []) (lenOf pd_1 rfl) rfl (by show 2 * 0 + _ ≤ _; exact Nat.le_of_eq rfl) (hb hby at_103) (fun _ _ => ⟨rfl, e19, (by decide : 1 + 0 ≤ _), (by decide : 8 + 0 ≤ _)⟩)
  dsimp only [Pt.U, Pt.locs, Pt.cells, Pt.slots] at X20 l20 y20 z20 st20 hQ20
  subst l20 y20 z20
  obtain ⟨rfl, N20q, e20⟩ := hQ20
  have N20 := Fr.app N19 N20q
  replace X20 : Stand p l e room_1 s m args below meth c T20 _ 1 8 := X20
  refine Done.of (g' := (mkF m 106 #[.val (.int p1), .val (.int p2), .val (.long q3), .second, .val (.ref b1), .val (.int (p2 &&& (3 : Int32)))] [(.int (F2_0 (p2 &&& (3 : Int32)) (own_wr p1 (p2 &&& (3 : Int32)) (fun j => ([(((q3.toInt32).toInt8.toInt32).toInt8.toInt32), (((((q3.toUInt64 >>> ((8 : Int32) &&& 0x3f).toInt64.toUInt64).toInt64).toInt32).toInt8.toInt32).toInt8.toInt32), (((((q3.toUInt64 >>> ((16 : Int32) &&& 0x3f).toInt64.toUInt64).toInt64).toInt32).toInt8.toInt32).toInt8.toInt32), (((((q3.toUInt64 >>> ((24 : Int32) &&& 0x3f).toInt64.toUInt64).toInt64).toInt32).toInt8.toInt32).toInt8.toInt32), (((((q3.toUInt64 >>> ((32 : Int32) &&& 0x3f).toInt64.toUInt64).toInt64).toInt32).toInt8.toInt32).toInt8.toInt32), (((((q3.toUInt64 >>> ((40 : Int32) &&& 0x3f).toInt64.toUInt64).toInt64).toInt32).toInt8.toInt32).toInt8.toInt32), (((((q3.toUInt64 >>> ((48 : Int32) &&& 0x3f).toInt64.toUInt64).toInt64).toInt32).toInt8.toInt32).toInt8.toInt32), (((((q3.toUInt64 >>> ((56 : Int32) &&& 0x3f).toInt64.toUInt64).toInt64).toInt32).toInt8.toInt32).toInt8.toInt32)] : List Int32).getD j 0))))])) st20 ?_
  refine Done.of (T' := T20) (g' := (mkF m 107 #[.val (.int p1), .val (.int p2), .val (.long q3), .second, .val (.ref b1), .val (.int (p2 &&& (3 : Int32)))] [(.int p1), (.int (F2_0 (p2 &&& (3 : Int32)) (own_wr p1 (p2 &&& (3 : Int32)) (fun j => ([(((q3.toInt32).toInt8.toInt32).toInt8.toInt32), (((((q3.toUInt64 >>> ((8 : Int32) &&& 0x3f).toInt64.toUInt64).toInt64).toInt32).toInt8.toInt32).toInt8.toInt32), (((((q3.toUInt64 >>> ((16 : Int32) &&& 0x3f).toInt64.toUInt64).toInt64).toInt32).toInt8.toInt32).toInt8.toInt32), (((((q3.toUInt64 >>> ((24 : Int32) &&& 0x3f).toInt64.toUInt64).toInt64).toInt32).toInt8.toInt32).toInt8.toInt32), (((((q3.toUInt64 >>> ((32 : Int32) &&& 0x3f).toInt64.toUInt64).toInt64).toInt32).toInt8.toInt32).toInt8.toInt32), (((((q3.toUInt64 >>> ((40 : Int32) &&& 0x3f).toInt64.toUInt64).toInt64).toInt32).toInt8.toInt32).toInt8.toInt32), (((((q3.toUInt64 >>> ((48 : Int32) &&& 0x3f).toInt64.toUInt64).toInt64).toInt32).toInt8.toInt32).toInt8.toInt32), (((((q3.toUInt64 >>> ((56 : Int32) &&& 0x3f).toInt64.toUInt64).toInt64).toInt32).toInt8.toInt32).toInt8.toInt32)] : List Int32).getD j 0))))])) (fun t k => ?_) ?_
  · show Steps p.tables e below (T20.setTop (mkF m 106 #[.val (.int p1), .val (.int p2), .val (.long q3), .second, .val (.ref b1), .val (.int (p2 &&& (3 : Int32)))] [(.int (F2_0 (p2 &&& (3 : Int32)) (own_wr p1 (p2 &&& (3 : Int32)) (fun j => ([(((q3.toInt32).toInt8.toInt32).toInt8.toInt32), (((((q3.toUInt64 >>> ((8 : Int32) &&& 0x3f).toInt64.toUInt64).toInt64).toInt32).toInt8.toInt32).toInt8.toInt32), (((((q3.toUInt64 >>> ((16 : Int32) &&& 0x3f).toInt64.toUInt64).toInt64).toInt32).toInt8.toInt32).toInt8.toInt32), (((((q3.toUInt64 >>> ((24 : Int32) &&& 0x3f).toInt64.toUInt64).toInt64).toInt32).toInt8.toInt32).toInt8.toInt32), (((((q3.toUInt64 >>> ((32 : Int32) &&& 0x3f).toInt64.toUInt64).toInt64).toInt32).toInt8.toInt32).toInt8.toInt32), (((((q3.toUInt64 >>> ((40 : Int32) &&& 0x3f).toInt64.toUInt64).toInt64).toInt32).toInt8.toInt32).toInt8.toInt32), (((((q3.toUInt64 >>> ((48 : Int32) &&& 0x3f).toInt64.toUInt64).toInt64).toInt32).toInt8.toInt32).toInt8.toInt32), (((((q3.toUInt64 >>> ((56 : Int32) &&& 0x3f).toInt64.toUInt64).toInt64).toInt32).toInt8.toInt32).toInt8.toInt32)] : List Int32).getD j 0))))])) t
    refine XS.iloadN X20.here hx rfl (hb hby at_106) rfl ?_
    exact k
  by_cases hc107_20 : (F2_0 (p2 &&& (3 : Int32)) (own_wr p1 (p2 &&& (3 : Int32)) (fun j => ([(((q3.toInt32).toInt8.toInt32).toInt8.toInt32), (((((q3.toUInt64 >>> ((8 : Int32) &&& 0x3f).toInt64.toUInt64).toInt64).toInt32).toInt8.toInt32).toInt8.toInt32), (((((q3.toUInt64 >>> ((16 : Int32) &&& 0x3f).toInt64.toUInt64).toInt64).toInt32).toInt8.toInt32).toInt8.toInt32), (((((q3.toUInt64 >>> ((24 : Int32) &&& 0x3f).toInt64.toUInt64).toInt64).toInt32).toInt8.toInt32).toInt8.toInt32), (((((q3.toUInt64 >>> ((32 : Int32) &&& 0x3f).toInt64.toUInt64).toInt64).toInt32).toInt8.toInt32).toInt8.toInt32), (((((q3.toUInt64 >>> ((40 : Int32) &&& 0x3f).toInt64.toUInt64).toInt64).toInt32).toInt8.toInt32).toInt8.toInt32), (((((q3.toUInt64 >>> ((48 : Int32) &&& 0x3f).toInt64.toUInt64).toInt64).toInt32).toInt8.toInt32).toInt8.toInt32), (((((q3.toUInt64 >>> ((56 : Int32) &&& 0x3f).toInt64.toUInt64).toInt64).toInt32).toInt8.toInt32).toInt8.toInt32)] : List Int32).getD j 0))) = p1
  · rw [if_pos hc107_20]
    refine Done.of (T' := T20) (g' := (mkF m 115 #[.val (.int p1), .val (.int p2), .val (.long q3), .second, .val (.ref b1), .val (.int (p2 &&& (3 : Int32)))] [(.int (1 : Int32))])) (fun t k => ?_) ?_
    · show Steps p.tables e below (T20.setTop (mkF m 107 #[.val (.int p1), .val (.int p2), .val (.long q3), .second, .val (.ref b1), .val (.int (p2 &&& (3 : Int32)))] [(.int p1), (.int (F2_0 (p2 &&& (3 : Int32)) (own_wr p1 (p2 &&& (3 : Int32)) (fun j => ([(((q3.toInt32).toInt8.toInt32).toInt8.toInt32), (((((q3.toUInt64 >>> ((8 : Int32) &&& 0x3f).toInt64.toUInt64).toInt64).toInt32).toInt8.toInt32).toInt8.toInt32), (((((q3.toUInt64 >>> ((16 : Int32) &&& 0x3f).toInt64.toUInt64).toInt64).toInt32).toInt8.toInt32).toInt8.toInt32), (((((q3.toUInt64 >>> ((24 : Int32) &&& 0x3f).toInt64.toUInt64).toInt64).toInt32).toInt8.toInt32).toInt8.toInt32), (((((q3.toUInt64 >>> ((32 : Int32) &&& 0x3f).toInt64.toUInt64).toInt64).toInt32).toInt8.toInt32).toInt8.toInt32), (((((q3.toUInt64 >>> ((40 : Int32) &&& 0x3f).toInt64.toUInt64).toInt64).toInt32).toInt8.toInt32).toInt8.toInt32), (((((q3.toUInt64 >>> ((48 : Int32) &&& 0x3f).toInt64.toUInt64).toInt64).toInt32).toInt8.toInt32).toInt8.toInt32), (((((q3.toUInt64 >>> ((56 : Int32) &&& 0x3f).toInt64.toUInt64).toInt64).toInt32).toInt8.toInt32).toInt8.toInt32)] : List Int32).getD j 0))))])) t
      refine XS.icmpNo X20.here hx rfl (hb hby at_107) rfl (teq hc107_20).2 ?_
      show Steps p.tables e below (T20.setTop (mkF m 110 #[.val (.int p1), .val (.int p2), .val (.long q3), .second, .val (.ref b1), .val (.int (p2 &&& (3 : Int32)))] [])) t
      refine XS.iconst X20.here hx rfl (hb hby at_110) ?_
      show Steps p.tables e below (T20.setTop (mkF m 111 #[.val (.int p1), .val (.int p2), .val (.long q3), .second, .val (.ref b1), .val (.int (p2 &&& (3 : Int32)))] [(.int (1 : Int32))])) t
      refine XS.goto X20.here hx rfl (pc0 := 111) (pc' := 115) rfl (hb hby at_111) (by decide) (by decide) ?_
      exact k
    exact doneN (t := .boolean) X20 (by simp) hx hret hlk (hb hby at_115) ⟨rfl, N20⟩ (by decide) (by decide)
  · rw [if_neg hc107_20]
    refine Done.of (T' := T20) (g' := (mkF m 115 #[.val (.int p1), .val (.int p2), .val (.long q3), .second, .val (.ref b1), .val (.int (p2 &&& (3 : Int32)))] [(.int (0 : Int32))])) (fun t k => ?_) ?_
    · show Steps p.tables e below (T20.setTop (mkF m 107 #[.val (.int p1), .val (.int p2), .val (.long q3), .second, .val (.ref b1), .val (.int (p2 &&& (3 : Int32)))] [(.int p1), (.int (F2_0 (p2 &&& (3 : Int32)) (own_wr p1 (p2 &&& (3 : Int32)) (fun j => ([(((q3.toInt32).toInt8.toInt32).toInt8.toInt32), (((((q3.toUInt64 >>> ((8 : Int32) &&& 0x3f).toInt64.toUInt64).toInt64).toInt32).toInt8.toInt32).toInt8.toInt32), (((((q3.toUInt64 >>> ((16 : Int32) &&& 0x3f).toInt64.toUInt64).toInt64).toInt32).toInt8.toInt32).toInt8.toInt32), (((((q3.toUInt64 >>> ((24 : Int32) &&& 0x3f).toInt64.toUInt64).toInt64).toInt32).toInt8.toInt32).toInt8.toInt32), (((((q3.toUInt64 >>> ((32 : Int32) &&& 0x3f).toInt64.toUInt64).toInt64).toInt32).toInt8.toInt32).toInt8.toInt32), (((((q3.toUInt64 >>> ((40 : Int32) &&& 0x3f).toInt64.toUInt64).toInt64).toInt32).toInt8.toInt32).toInt8.toInt32), (((((q3.toUInt64 >>> ((48 : Int32) &&& 0x3f).toInt64.toUInt64).toInt64).toInt32).toInt8.toInt32).toInt8.toInt32), (((((q3.toUInt64 >>> ((56 : Int32) &&& 0x3f).toInt64.toUInt64).toInt64).toInt32).toInt8.toInt32).toInt8.toInt32)] : List Int32).getD j 0))))])) t
      refine XS.icmpYes X20.here hx rfl (pc0 := 107) (pc' := 114) rfl (hb hby at_107) rfl (feq hc107_20).2 (by decide) (by decide) ?_
      show Steps p.tables e below (T20.setTop (mkF m 114 #[.val (.int p1), .val (.int p2), .val (.long q3), .second, .val (.ref b1), .val (.int (p2 &&& (3 : Int32)))] [])) t
      refine XS.iconst X20.here hx rfl (hb hby at_114) ?_
      exact k
    exact doneN (t := .boolean) X20 (by simp) hx hret hlk (hb hby at_115) ⟨rfl, N20⟩ (by decide) (by decide)
theorem own_cv (x : Int32) : (own_c x).toInt = x.toInt % 128 - 128 := own_cont x
theorem own_cn (x : Int32) : own_c x < 0 := by
  have := own_cv x
  have l : (0 : Int32).toInt = 0 := rfl
  rw [Int32.lt_iff_toInt_lt]; omega
theorem own_cm (x : Int32) : (own_c x &&& (127 : Int32)).toInt = x.toInt % 128 := by
  have h := own_cv x
  have m := c_mask (own_c x) 127 7 (by decide) (by decide)
  rw [m]; omega
theorem own_bv (x : Int32) (h : (x &&& (-128 : Int32)) = 0) : (own_b x).toInt = x.toInt := by
  obtain ⟨h0, h1⟩ := (own_z x).mp h
  exact own_lastb x h0 h1
theorem own_sh0 (x : Int32) : x <<< ((0 : Int32) &&& 31) = x := by
  have s := c_ishl x 0 0 (by decide)
  have r := rng32 x
  have r' := rng32 (x <<< ((0 : Int32) &&& 31))
  rw [← Int32.toInt_inj]; omega
theorem own_r1 (v b0 : Int32) (h : (v &&& (-128 : Int32)) = 0) (e : b0 = own_b v) : (0 : Int32) ||| (b0 <<< ((0 : Int32) &&& 31)) = v := by
  have k := own_bv v h
  rw [Int32.zero_or, own_sh0, e, ← Int32.toInt_inj, k]
theorem own_r2 (v y0 y1 : Int32) (k0 : y0.toInt = (v.toInt % 4294967296) % 128) (k1 : y1.toInt = (v.toInt % 4294967296) / 128) (hy : y1.toInt < 128) :
    ((0 : Int32) ||| (y0 <<< ((0 : Int32) &&& 31))) ||| (y1 <<< ((7 : Int32) &&& 31)) = v := by
  have r := rng32 v
  rw [Int32.zero_or, own_sh0]
  have s1 := c_ishl y1 7 7 (by decide)
  have e1 := rng32 (y1 <<< ((7 : Int32) &&& 31))
  generalize y1 <<< ((7 : Int32) &&& 31) = z1 at *
  have g1 : z1.toInt = y1.toInt * 128 := by omega
  have o1 := c_or' y0 z1 7 (by decide) 128 (by decide) (by omega) (by omega) (by omega)
  have f1 := rng32 (y0 ||| z1)
  rw [← Int32.toInt_inj]; omega
theorem own_r3 (v y0 y1 y2 : Int32) (k0 : y0.toInt = (v.toInt % 4294967296) % 128) (k1 : y1.toInt = (v.toInt % 4294967296) / 128 % 128) (k2 : y2.toInt = (v.toInt % 4294967296) / 128 / 128) (hy : y2.toInt < 128) :
    (((0 : Int32) ||| (y0 <<< ((0 : Int32) &&& 31))) ||| (y1 <<< ((7 : Int32) &&& 31))) ||| (y2 <<< ((14 : Int32) &&& 31)) = v := by
  have r := rng32 v
  rw [Int32.zero_or, own_sh0]
  have s1 := c_ishl y1 7 7 (by decide)
  have e1 := rng32 (y1 <<< ((7 : Int32) &&& 31))
  have s2 := c_ishl y2 14 14 (by decide)
  have e2 := rng32 (y2 <<< ((14 : Int32) &&& 31))
  generalize y1 <<< ((7 : Int32) &&& 31) = z1 at *
  generalize y2 <<< ((14 : Int32) &&& 31) = z2 at *
  have g1 : z1.toInt = y1.toInt * 128 := by omega
  have g2 : z2.toInt = y2.toInt * 16384 := by omega
  have o1 := c_or' y0 z1 7 (by decide) 128 (by decide) (by omega) (by omega) (by omega)
  have f1 := rng32 (y0 ||| z1)
  generalize y0 ||| z1 = t1 at *
  have d1 : t1.toInt = y0.toInt + z1.toInt := by omega
  have o2 := c_or' t1 z2 14 (by decide) 16384 (by decide) (by omega) (by omega) (by omega)
  have f2 := rng32 (t1 ||| z2)
  rw [← Int32.toInt_inj]; omega
theorem own_r4 (v y0 y1 y2 y3 : Int32) (k0 : y0.toInt = (v.toInt % 4294967296) % 128) (k1 : y1.toInt = (v.toInt % 4294967296) / 128 % 128) (k2 : y2.toInt = (v.toInt % 4294967296) / 128 / 128 % 128) (k3 : y3.toInt = (v.toInt % 4294967296) / 128 / 128 / 128) (hy : y3.toInt < 128) :
    ((((0 : Int32) ||| (y0 <<< ((0 : Int32) &&& 31))) ||| (y1 <<< ((7 : Int32) &&& 31))) ||| (y2 <<< ((14 : Int32) &&& 31))) ||| (y3 <<< ((21 : Int32) &&& 31)) = v := by
  have r := rng32 v
  rw [Int32.zero_or, own_sh0]
  have s1 := c_ishl y1 7 7 (by decide)
  have e1 := rng32 (y1 <<< ((7 : Int32) &&& 31))
  have s2 := c_ishl y2 14 14 (by decide)
  have e2 := rng32 (y2 <<< ((14 : Int32) &&& 31))
  have s3 := c_ishl y3 21 21 (by decide)
  have e3 := rng32 (y3 <<< ((21 : Int32) &&& 31))
  generalize y1 <<< ((7 : Int32) &&& 31) = z1 at *
  generalize y2 <<< ((14 : Int32) &&& 31) = z2 at *
  generalize y3 <<< ((21 : Int32) &&& 31) = z3 at *
  have g1 : z1.toInt = y1.toInt * 128 := by omega
  have g2 : z2.toInt = y2.toInt * 16384 := by omega
  have g3 : z3.toInt = y3.toInt * 2097152 := by omega
  have o1 := c_or' y0 z1 7 (by decide) 128 (by decide) (by omega) (by omega) (by omega)
  have f1 := rng32 (y0 ||| z1)
  generalize y0 ||| z1 = t1 at *
  have d1 : t1.toInt = y0.toInt + z1.toInt := by omega
  have o2 := c_or' t1 z2 14 (by decide) 16384 (by decide) (by omega) (by omega) (by omega)
  have f2 := rng32 (t1 ||| z2)
  generalize t1 ||| z2 = t2 at *
  have d2 : t2.toInt = t1.toInt + z2.toInt := by omega
  have o3 := c_or' t2 z3 21 (by decide) 2097152 (by decide) (by omega) (by omega) (by omega)
  have f3 := rng32 (t2 ||| z3)
  rw [← Int32.toInt_inj]; omega
theorem own_r5 (v y0 y1 y2 y3 y4 : Int32) (k0 : y0.toInt = (v.toInt % 4294967296) % 128) (k1 : y1.toInt = (v.toInt % 4294967296) / 128 % 128) (k2 : y2.toInt = (v.toInt % 4294967296) / 128 / 128 % 128) (k3 : y3.toInt = (v.toInt % 4294967296) / 128 / 128 / 128 % 128) (k4 : y4.toInt = (v.toInt % 4294967296) / 128 / 128 / 128 / 128) :
    (((((0 : Int32) ||| (y0 <<< ((0 : Int32) &&& 31))) ||| (y1 <<< ((7 : Int32) &&& 31))) ||| (y2 <<< ((14 : Int32) &&& 31))) ||| (y3 <<< ((21 : Int32) &&& 31))) ||| (y4 <<< ((28 : Int32) &&& 31)) = v := by
  have r := rng32 v
  rw [Int32.zero_or, own_sh0]
  have s1 := c_ishl y1 7 7 (by decide)
  have e1 := rng32 (y1 <<< ((7 : Int32) &&& 31))
  have s2 := c_ishl y2 14 14 (by decide)
  have e2 := rng32 (y2 <<< ((14 : Int32) &&& 31))
  have s3 := c_ishl y3 21 21 (by decide)
  have e3 := rng32 (y3 <<< ((21 : Int32) &&& 31))
  have s4 := c_ishl y4 28 28 (by decide)
  have e4 := rng32 (y4 <<< ((28 : Int32) &&& 31))
  generalize y1 <<< ((7 : Int32) &&& 31) = z1 at *
  generalize y2 <<< ((14 : Int32) &&& 31) = z2 at *
  generalize y3 <<< ((21 : Int32) &&& 31) = z3 at *
  generalize y4 <<< ((28 : Int32) &&& 31) = z4 at *
  have g1 : z1.toInt = y1.toInt * 128 := by omega
  have g2 : z2.toInt = y2.toInt * 16384 := by omega
  have g3 : z3.toInt = y3.toInt * 2097152 := by omega
  have o1 := c_or' y0 z1 7 (by decide) 128 (by decide) (by omega) (by omega) (by omega)
  have f1 := rng32 (y0 ||| z1)
  generalize y0 ||| z1 = t1 at *
  have d1 : t1.toInt = y0.toInt + z1.toInt := by omega
  have o2 := c_or' t1 z2 14 (by decide) 16384 (by decide) (by omega) (by omega) (by omega)
  have f2 := rng32 (t1 ||| z2)
  generalize t1 ||| z2 = t2 at *
  have d2 : t2.toInt = t1.toInt + z2.toInt := by omega
  have o3 := c_or' t2 z3 21 (by decide) 2097152 (by decide) (by omega) (by omega) (by omega)
  have f3 := rng32 (t2 ||| z3)
  generalize t2 ||| z3 = t3 at *
  have d3 : t3.toInt = t2.toInt + z3.toInt := by omega
  have o4 := c_or' t3 z4 28 (by decide) 268435456 (by decide) (by omega) (by omega) (by omega)
  have f4 := rng32 (t3 ||| z4)
  rw [← Int32.toInt_inj]; omega
theorem own_read (v p : Int32) (g : Nat → Int32) (pl : own_at v (g p.toNatClampNeg) (g (p + 1).toNatClampNeg) (g (p + 1 + 1).toNatClampNeg) (g (p + 1 + 1 + 1).toNatClampNeg) (g (p + 1 + 1 + 1 + 1).toNatClampNeg)) : F2_0 p g = v := by
  have r := rng32 v
  have v1 := own_sv v
  have v2 := own_sv (own_s v)
  have v3 := own_sv (own_s (own_s v))
  have v4 := own_sv (own_s (own_s (own_s v)))
  unfold F2_0
  generalize g p.toNatClampNeg = b0 at *
  generalize g (p + 1).toNatClampNeg = b1 at *
  generalize g (p + 1 + 1).toNatClampNeg = b2 at *
  generalize g (p + 1 + 1 + 1).toNatClampNeg = b3 at *
  generalize g (p + 1 + 1 + 1 + 1).toNatClampNeg = b4 at *
  rcases pl with ⟨h, e0⟩ | ⟨_, h, rfl, rfl⟩ | ⟨_, _, h, rfl, rfl, rfl⟩ | ⟨_, _, _, h, rfl, rfl, rfl, rfl⟩ | ⟨_, _, _, _, rfl, rfl, rfl, rfl, rfl⟩
  · rw [if_neg (by rw [e0]; exact own_bn _ h)]; exact own_r1 v b0 h e0
  · rw [if_pos (own_cn _), if_neg (own_bn _ h)]
    obtain ⟨a0, a1⟩ := (own_z _).mp h
    exact own_r2 v _ _ (by rw [own_cm]; omega) (by rw [own_bv _ h]; omega) (by rw [own_bv _ h]; omega)
  · rw [if_pos (own_cn _), if_pos (own_cn _), if_neg (own_bn _ h)]
    obtain ⟨a0, a1⟩ := (own_z _).mp h
    exact own_r3 v _ _ _ (by rw [own_cm]; omega) (by rw [own_cm]; omega) (by rw [own_bv _ h]; omega) (by rw [own_bv _ h]; omega)
  · rw [if_pos (own_cn _), if_pos (own_cn _), if_pos (own_cn _), if_neg (own_bn _ h)]
    obtain ⟨a0, a1⟩ := (own_z _).mp h
    exact own_r4 v _ _ _ _ (by rw [own_cm]; omega) (by rw [own_cm]; omega) (by rw [own_cm]; omega) (by rw [own_bv _ h]; omega) (by rw [own_bv _ h]; omega)
  · rw [if_pos (own_cn _), if_pos (own_cn _), if_pos (own_cn _), if_pos (own_cn _)]
    exact own_r5 v _ _ _ _ _ (by rw [own_cm]; omega) (by rw [own_cm]; omega) (by rw [own_cm]; omega) (by rw [own_cm]; omega) (by rw [own_bv (own_s (own_s (own_s (own_s v)))) (own_last v)]; omega)
theorem own_law (p1 p2 : Int32) (q3 : Int64) : F0_0 p1 p2 q3 = 1 := by
  unfold F0_0
  rw [if_pos (own_read _ _ _ (own_places p1 (p2 &&& 3) _ (own_hat3 p2)))]
theorem ef_0 (m : MethodId) (p1 : Int32) (p2 : Int32) (q3 : Int64) : entryFrame m #[(.int p1), (.int p2), (.long q3)] maxLocals = mkF m 0 #[.val (.int p1), .val (.int p2), .val (.long q3), .second, .unset, .unset] [] := by first | (simp [entryFrame, mkF, argsToLocals, Value.category, maxLocals]; done) | rfl
theorem pn_0 : plainName "com/example/holdfast/holdfast/VarintReadPinLaw" = true := by first | (simp [plainName, overriddenIn]; done) | decide +kernel
set_option maxRecDepth 65536 in
set_option maxHeartbeats 40000000 in
theorem rm0 (l : Launch) (Z : State) (a0 : Array Value) (hw : ∀ d ∈ tables_1, d.before a0 Z = true) (ws : List Jvm.Cond) (p1 : Int32) (p2 : Int32) (q3 : Int64) (h0 : Heap) (n0 : Nat) (Z0 : n0 ≤ h0.size) :
    MetFree l x (head1 (Jvm.Cond.code x code maxLocals ret :: ws) room_1) (fun a U => a = #[(.int p1), (.int p2), (.long q3)] ∧ Z.Warmed39 U.vm ∧ U.heap = h0) (fun _ _ _ _ _ => True) (fun _ U o U' => ∃ v L, o = .returned v ∧ (Ql n0 (.int 1)) v U'.heap L ∧ FrameEnd U o U' L room_1.cells room_1.slots) := by
  refine MetFree.of_bodySF (plainFor_of_name pn_0) hisR ?_
  intro p e s m args below meth c s₁ Bd hml0 hP hK
  obtain ⟨rfl, hZ, hh⟩ := hP
  have hown : s.vm.findClass "com/example/holdfast/holdfast/VarintReadPinLaw" = some m.cls := findClass_of_methodNamed Bd.named
  have hnm := (name_of_methodNamed Bd.named Bd.method).1
  have X0 : Stand p l e room_1 s m #[(.int p1), (.int p2), (.long q3)] below meth c s₁ [] 0 0 := Stand.of_body Bd
  have e0 : s₁.heap = h0 := by rw [← hh, Bd.state]; rfl
  have d := bk0_0 (n0 := n0) Bd.exec hZ hw Bd.bytes hml0 hown hnm Bd.returns (BodyLoose.notSynchronized Bd) X0 (Fr.nil n0) e0 p1 p2 q3 Z0
  rw [own_law p1 p2 q3] at d
  have d2 : Done p e below s room_1 (Ql n0 (.int 1)) s₁ (entryFrame m #[(.int p1), (.int p2), (.long q3)] maxLocals) := by rw [ef_0]; exact d
  exact d2
set_option maxRecDepth 65536 in
set_option maxHeartbeats 40000000 in
theorem comes_1 {Post : Tables → Env → Array Value → State → Outcome → State → Prop} (hpost : ∀ tb e args s v u, (limb_1_1.after args s (.returned v) u = true ∧ limb_1_2.after args s (.returned v) u = true ∧ True) → FrameEnd s (.returned v) u (Jvm.fieldLocs frame_1_writes args s ++ Jvm.arrayLocs frame_1_arrays args s ++ Jvm.staticLocs frame_1_statics s) 16 128 → Post tb e args s (.returned v) u) :
    ArmFor flags0 classFile x code maxLocals ret World_1 tables_1 room_1 Calls_1 rest_1 Pre_1 Post := by
  intro l hfl _ _ p e ha hc hk s m args below hf hA hF happ hP
  obtain ⟨hcalls, hrest, hpre⟩ := hP
  obtain ⟨-, -, -, hnamed, -, -, -, hat⟩ := (Spec.applies_iff hf).mp happ
  obtain ⟨hg, hn⟩ := and_e (Cond.before_iff.mp (show (Jvm.Cond.and given_1 narrow_1).before args s = true from hpre))
  obtain ⟨g0, r0⟩ := and_e hg
  obtain ⟨v0, r1⟩ := and_e r0
  obtain ⟨v1, r2⟩ := and_e r1
  obtain ⟨w0, w1, w2, rfl⟩ : ∃ w0 w1 w2 : Value, args = #[w0, w1, w2] := by
    have hs : args.size = 3 := by simpa [Cond.value, given_1] using g0
    obtain ⟨L⟩ := args
    match L, hs with
    | [w0, w1, w2], _ => exact ⟨w0, w1, w2, rfl⟩
  have hw := fun d (hd : d ∈ tables_1) => atoms_spec (ws := Jvm.Cond.code x code maxLocals ret :: tables_1) hat d (List.mem_cons_of_mem _ hd)
  obtain ⟨i0, ei0⟩ := is_v v0
  obtain rfl : w0 = (.int i0) := Option.some.inj ei0
  obtain ⟨i1, ei1⟩ := is_v v1
  obtain rfl : w1 = (.int i1) := Option.some.inj ei1
  obtain ⟨i2, ei2⟩ := isL_v r2
  obtain rfl : w2 = (.long i2) := Option.some.inj ei2
  obtain ⟨n, o, h1, h2, h3, _, L, rfl, ⟨rfl, N⟩, hq⟩ := rm0 l s _ hw tables_1 i0 i1 i2 s.heap s.heap.size (Nat.le_refl _) p e ha hc hk s m _ below hf ((Spec.applies_iff_loose hf).mp happ).1 ⟨rfl, State.Warmed39.refl s, rfl⟩ trivial
  refine ⟨n, _, h1, h2, h3, hpost _ _ _ _ _ _ ⟨Cond.after_iff.mpr rfl, Cond.after_iff.mpr (eq_i res_at (Term.int_eval (1)) rfl), trivial⟩ ⟨hq.1, hq.2.1, (hq.2.2.sift fun y hy => Or.inr (N y hy)).mono (by decide) (by decide)⟩⟩
theorem main_1_1 : Claimed_1_1 := comes_1 fun _ _ _ _ _ _ h hF => ⟨h.1, hF⟩
theorem main_1_2 : Claimed_1_2 := comes_1 fun _ _ _ _ _ _ h hF => ⟨h.2.1, hF⟩
end Jvm.Pilot.@@N@@
namespace Jvm.Pilot.@@N@@
open Jvm Jvm.ClassFile Sem Op Lib Jvm.Free Jvm.Stand Jvm.Pilot.@@N@@.Jvm.D
/-! MADE BY PROGRAM (witnessworld.py) out of the Statement's table words and the real class files: 9 classes; the members and pool entries that the words name. The judged class is class 1, her method 1. -/
namespace start1
open Jvm.ClassFile
def u (s : String) : CpInfo := .utf8 (stringToUtf16 s)
/-- a pool by its gaps: so many unusable entries, then the entry; so many at the end -/
def gap : Nat → List CpInfo → List CpInfo
  | 0, r => r
  | n + 1, r => .unusable :: gap n r
def poolList (es : List (Nat × CpInfo)) (last : Nat) : List CpInfo := es.foldr (fun e r => gap e.1 (e.2 :: r)) (gap last [])
def pool (es : List (Nat × CpInfo)) (last : Nat) : Array CpInfo := ⟨poolList es last⟩
def fileOf (pool : Array CpInfo) (this : Nat) (attrs : Array Attribute := #[]) (ms : Array MethodInfo := #[]) (fl : Nat := 33) (sup : Nat := 0) (ifs : Array Nat := #[]) (fds : Array FieldInfo := #[]) : ClassFile where
  minorVersion := 0
  majorVersion := 65
  constantPool := pool
  accessFlags := fl
  thisClass := this
  superClass := sup
  interfaces := ifs
  fields := fds
  methods := ms
  attributes := attrs
def plain (name : String) (sup : Option ClassId) : Class where
  name := name
  kind := .ordinary
  loader := none
  accessFlags := 33
  super := sup
  interfaces := #[]
  cf := none
  fields := #[]
  methods := #[]
  instanceTypes := #[]
  staticTypes := #[]
  resolved := #[]
  callSites := []
  init := .initialized
  statics := none
  mirror := none

def pool0 : Array CpInfo := pool [(5, u "<init>"), (0, u "()V"), (1, .class_ 10), (1, u "java/lang/Object")] 113

def k0m0 : Method := { name := "<init>", desc := "()V", sig := { parameters := [], returnType := none }, accessFlags := 1, code := none }
/-- java/lang/Object -/
def k0 : Class := { plain "java/lang/Object" none with
  accessFlags := 33
  interfaces := #[]
  cf := some (fileOf pool0 8 #[] #[{ accessFlags := 1, nameIndex := 5, descriptorIndex := 6, attributes := #[] }] 33 0 #[] #[])
  fields := #[]
  methods := #[k0m0]
  instanceTypes := #[]
  staticTypes := #[]
  resolved := Array.replicate 124 none
  statics := none }

def pool1 : Array CpInfo := pool [(2, .class_ 4), (1, u "java/lang/Object"), (0, u "<init>"), (0, u "()V"), (0, .methodref 8 9), (0, .class_ 10), (0, .nameAndType 11 12), (0, u "com/example/holdfast/holdfast/Varint"), (0, u "write"), (0, u "(I[BI)I"), (0, .methodref 8 14), (0, .nameAndType 15 16), (0, u "read"), (0, u "([BI)I"), (0, .class_ 18), (0, u "com/example/holdfast/holdfast/VarintReadPinLaw"), (2, u "law"), (0, u "(IIJ)Z")] 5

def k1m0 : Method := { name := "<init>", desc := "()V", sig := { parameters := [], returnType := none }, accessFlags := 1, code := none }
def k1c1 : Code := { maxStack := 5, maxLocals := 6, code := code, exceptionTable := #[], attributes := #[] }
def k1m1 : Method := { name := "law", desc := "(IIJ)Z", sig := { parameters := [.int, .int, .long], returnType := some .boolean }, accessFlags := 9, code := some k1c1 }
/-- com/example/holdfast/holdfast/VarintReadPinLaw -/
def k1 : Class := { plain "com/example/holdfast/holdfast/VarintReadPinLaw" (some 0) with
  accessFlags := 49
  interfaces := #[]
  cf := some (fileOf pool1 17 #[] #[{ accessFlags := 1, nameIndex := 5, descriptorIndex := 6, attributes := #[] }, { accessFlags := 9, nameIndex := 21, descriptorIndex := 22, attributes := #[] }] 49 2 #[] #[])
  fields := #[]
  methods := #[k1m0, k1m1]
  instanceTypes := #[]
  staticTypes := #[]
  resolved := Array.replicate 28 none
  statics := none }

def pool2 : Array CpInfo := pool [(2, .class_ 4), (1, u "java/lang/Object"), (0, u "<init>"), (0, u "()V"), (0, .class_ 8), (0, u "com/example/holdfast/holdfast/Varint"), (0, u "MAX"), (0, u "I"), (7, u "write"), (0, u "(I[BI)I"), (0, u "read"), (0, u "([BI)I")] 4

def k2m0 : Method := { name := "<init>", desc := "()V", sig := { parameters := [], returnType := none }, accessFlags := 2, code := none }
def k2c1 : Code := { maxStack := 4, maxLocals := 5, code := prog_78_method_3_code, exceptionTable := #[], attributes := #[] }
def k2m1 : Method := { name := "write", desc := "(I[BI)I", sig := { parameters := [.int, (.array .byte), .int], returnType := some .int }, accessFlags := 8, code := some k2c1 }
def k2c2 : Code := { maxStack := 3, maxLocals := 6, code := prog_78_method_4_code, exceptionTable := #[], attributes := #[] }
def k2m2 : Method := { name := "read", desc := "([BI)I", sig := { parameters := [(.array .byte), .int], returnType := some .int }, accessFlags := 8, code := some k2c2 }
/-- com/example/holdfast/holdfast/Varint -/
def k2 : Class := { plain "com/example/holdfast/holdfast/Varint" (some 0) with
  accessFlags := 48
  interfaces := #[]
  cf := some (fileOf pool2 7 #[] #[{ accessFlags := 2, nameIndex := 5, descriptorIndex := 6, attributes := #[] }, { accessFlags := 8, nameIndex := 18, descriptorIndex := 19, attributes := #[] }, { accessFlags := 8, nameIndex := 20, descriptorIndex := 21, attributes := #[] }] 48 2 #[] #[{ accessFlags := 24, nameIndex := 9, descriptorIndex := 10, attributes := #[] }])
  fields := #[{ name := "MAX", type := .int, accessFlags := 24, slot := 0, constantValue := 0 }]
  methods := #[k2m0, k2m1, k2m2]
  instanceTypes := #[]
  staticTypes := #[.int]
  resolved := Array.replicate 26 none
  statics := none }

def pool3 : Array CpInfo := pool [(1, u "java/lang/Cloneable"), (0, .class_ 1), (0, u "java/lang/Object"), (0, .class_ 3)] 3

/-- java/lang/Cloneable -/
def k3 : Class := { plain "java/lang/Cloneable" (some 0) with
  accessFlags := 1537
  interfaces := #[]
  cf := some (fileOf pool3 2 #[] #[] 1537 4 #[] #[])
  fields := #[]
  methods := #[]
  instanceTypes := #[]
  staticTypes := #[]
  resolved := Array.replicate 8 none
  statics := none }

def pool4 : Array CpInfo := pool [(1, u "java/io/Serializable"), (0, .class_ 1), (0, u "java/lang/Object"), (0, .class_ 3)] 3

/-- java/io/Serializable -/
def k4 : Class := { plain "java/io/Serializable" (some 0) with
  accessFlags := 1537
  interfaces := #[]
  cf := some (fileOf pool4 2 #[] #[] 1537 4 #[] #[])
  fields := #[]
  methods := #[]
  instanceTypes := #[]
  staticTypes := #[]
  resolved := Array.replicate 8 none
  statics := none }

/-- the primitive byte -/
def k5 : Class := { plain "byte" none with kind := .primitive 'B', accessFlags := 0x411 }
/-- [B -/
def k6 : Class := { plain "[B" (some 0) with kind := .array 5 .byte, interfaces := #[3, 4], accessFlags := 1041 }

/-- the primitive int -/
def k7 : Class := { plain "int" none with kind := .primitive 'I', accessFlags := 0x411 }
/-- [I -/
def k8 : Class := { plain "[I" (some 0) with kind := .array 7 .int, interfaces := #[3, 4], accessFlags := 1041 }

def heap : Heap := #[]
def classes : Array Class := #[k0, k1, k2, k3, k4, k5, k6, k7, k8]
def interned : List (Array UInt16 × Addr) := []
def slotsUsed : Nat := 0
def theMethod : MethodId := ⟨1, 1⟩
def args0 : Array Value := #[.int 5, .int 5, .long 5]
def aboutOver (below : List Frame) : State where
  vm := { classes := classes, interned := interned.toArray }
  heap := heap
  slotsUsed := slotsUsed
  threads := #[{ frames := .invoking theMethod args0 :: below }]
def below0 : List Frame := [.native { method := ⟨0, 0⟩, args := #[] }]
def about1 : State := aboutOver below0
def p0 : Program := .bare "" "" ""
def e0 : Env := launch0.env 0 0 0
theorem w_frames : about1.frames = Frame.invoking theMethod args0 :: below0 := rfl
set_option maxRecDepth 65536 in
theorem w_args : argsFit about1.vm theMethod args0 = true := by decide +kernel
set_option maxRecDepth 65536 in
theorem w_heap : heapFits about1 = true := by decide +kernel
set_option maxRecDepth 65536 in
theorem w_runnable : about1.curStatus? = some .runnable := by decide +kernel
set_option maxRecDepth 65536 in
theorem w_alone : about1.alone = true := by decide +kernel
set_option maxRecDepth 65536 in
theorem w_named : about1.methodNamed? x = some theMethod := by decide +kernel
set_option maxRecDepth 65536 in
theorem w_hears : about1.hears theMethod below0 = true := by decide +kernel
set_option maxRecDepth 65536 in
theorem w_ripe : about1.ripe theMethod args0 below0 = true := by decide +kernel
theorem w_running : about1.status = .running := rfl
set_option maxRecDepth 65536 in
theorem w_room : about1.hasRoom e0.platform room_1 = true :=
  launch0.hasRoom_least _ room_1 (by decide +kernel) (by decide +kernel) (by decide +kernel) (by decide +kernel) (by decide +kernel) (by decide +kernel)
theorem allAtoms_all (ts : List Jvm.Cond) (a : Array Jvm.Value) (st : Jvm.State) : (allAtoms ts).before a st = ts.all (fun c => c.before a st) := by
  induction ts with
  | nil => rfl
  | cons c t ih =>
    show (Jvm.Cond.and c (allAtoms t)).before a st = _
    rw [Jvm.Cond.before_and, ih, List.all_cons]
def words1 : List Jvm.Cond := Jvm.Cond.code x code maxLocals ret :: tables_1
/-- a 'code' word, met by the world's own term for the bytes: nothing is compared byte by byte -/
theorem code_word {y : MethodName} {bytes : ByteArray} {mx : Nat} {rt : Option FieldType} {a : Array Value} {s : State} {m : MethodId} {meth : Method} {c : Code} (h1 : s.methodNamed? y = some m) (h2 : s.vm.method? m = some meth) (h3 : meth.code = some c) (h4 : c.code = bytes)
    (h5 : (c.maxLocals == mx && c.exceptionTable.isEmpty && decide (c.maxStack ≤ mostOperands) && decide (meth.sig.returnType = rt) && !meth.locks && decide (parseMethodDescriptor y.desc = some meth.sig)) = true) : (Jvm.Cond.code y bytes mx rt).before a s = true := by
  simp only [Bool.and_eq_true, beq_iff_eq, Bool.not_eq_true', decide_eq_true_eq] at h5
  obtain ⟨⟨⟨⟨⟨g1, g2⟩, g3⟩, g4⟩, g5⟩, g6⟩ := h5
  simp [Cond.before, Cond.holds, Cond.value, h1, h2, h3, h4, g1, g2, g3, g4, g5, g6]
def isCode : Jvm.Cond → Bool
  | .code _ _ _ _ => true
  | _ => false
theorem all_split {L : List Jvm.Cond} {P : Jvm.Cond → Bool} (h1 : L.all (fun c => isCode c || P c) = true) (h2 : ∀ c ∈ L.filter isCode, P c = true) : L.all P = true := by
  refine List.all_eq_true.mpr fun c hc => ?_
  have h := List.all_eq_true.mp h1 c hc
  rcases Bool.eq_false_or_eq_true (isCode c) with hi | hi
  · exact h2 c (List.mem_filter.mpr ⟨hc, hi⟩)
  · simpa [hi] using h
set_option maxRecDepth 65536 in
theorem w_c0 : (Jvm.Cond.code x code maxLocals ret).before args0 about1 = true := code_word (m := ⟨1, 1⟩) (meth := k1m1) (c := k1c1) (by decide +kernel) rfl rfl rfl (by decide +kernel)
set_option maxRecDepth 65536 in
theorem w_c1 : (Jvm.Cond.code ({ cls := "com/example/holdfast/holdfast/Varint", name := "write", desc := "(I[BI)I" } : Jvm.MethodName) prog_78_method_3_code (5 : Nat) (Option.some Jvm.ClassFile.FieldType.int)).before args0 about1 = true := code_word (m := ⟨2, 1⟩) (meth := k2m1) (c := k2c1) (by decide +kernel) rfl rfl rfl (by decide +kernel)
set_option maxRecDepth 65536 in
theorem w_c2 : (Jvm.Cond.code ({ cls := "com/example/holdfast/holdfast/Varint", name := "read", desc := "([BI)I" } : Jvm.MethodName) prog_78_method_4_code (6 : Nat) (Option.some Jvm.ClassFile.FieldType.int)).before args0 about1 = true := code_word (m := ⟨2, 2⟩) (meth := k2m2) (c := k2c2) (by decide +kernel) rfl rfl rfl (by decide +kernel)
def codes1 : List Jvm.Cond := [Jvm.Cond.code x code maxLocals ret, Jvm.Cond.code ({ cls := "com/example/holdfast/holdfast/Varint", name := "write", desc := "(I[BI)I" } : Jvm.MethodName) prog_78_method_3_code (5 : Nat) (Option.some Jvm.ClassFile.FieldType.int), Jvm.Cond.code ({ cls := "com/example/holdfast/holdfast/Varint", name := "read", desc := "([BI)I" } : Jvm.MethodName) prog_78_method_4_code (6 : Nat) (Option.some Jvm.ClassFile.FieldType.int)]
set_option maxRecDepth 65536 in
theorem codes_eq : words1.filter isCode = codes1 := rfl
theorem w_codes : ∀ c ∈ words1.filter isCode, c.before args0 about1 = true := by
  rw [codes_eq]
  intro c hc
  simp only [codes1, List.mem_cons, List.not_mem_nil, or_false] at hc
  rcases hc with rfl | rfl | rfl
  · exact w_c0
  · exact w_c1
  · exact w_c2
set_option maxRecDepth 65536 in
theorem w_t1 : words1.all (fun c => isCode c || c.before args0 about1) = true := by decide +kernel
theorem w_tables : (allAtoms (Jvm.Cond.code x code maxLocals ret :: tables_1)).before args0 about1 = true := by
  rw [allAtoms_all]
  show words1.all (fun c => c.before args0 about1) = true
  refine all_split ?_ w_codes
  rw [w_t1]
set_option maxRecDepth 65536 in
theorem w_case : (Jvm.Cond.and given_1 narrow_1).before args0 about1 = true := by decide +kernel
theorem w_applies : (headSpec (Jvm.Cond.code x code maxLocals ret :: tables_1) room_1).applies x e0.platform about1 = true :=
  (Spec.applies_iff w_frames).mpr ⟨w_running, w_runnable, w_alone, w_named, w_hears, w_ripe, w_room, w_tables⟩
theorem atStart : AtStart classFile x code maxLocals ret World_1 tables_1 room_1 Calls_1 rest_1 Pre_1 launch0 p0 e0 about1 theMethod args0 below0 :=
  ⟨lists_1, trivial, launch0.admits_env _ _ _, launch0.least_env, fairChoices_fair.cas, fairChoices_fair.clock, w_frames, w_args, w_heap, w_applies, trivial, trivial, w_case⟩
end start1
theorem witness_1 : WitnessClaimed_1 := ⟨start1.p0, start1.e0, start1.about1, start1.theMethod, start1.args0, start1.below0, start1.atStart⟩
end Jvm.Pilot.@@N@@
