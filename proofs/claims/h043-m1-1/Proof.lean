import JvmDerived
import JvmDerived.Pilot.@@N@@Statement
import JvmDerived.Pilot.@@N@@Code
set_option linter.unusedVariables false
set_option linter.unusedSimpArgs false
namespace Jvm.RoadKit
open Sem ClassFile Op Lib Jvm.Stand Jvm.Free Jvm.LawKit
section New
variable {p : Program} {l : Launch} {e : Env} {R : Room} {s : State} {m : MethodId} {args : Array Value} {below : List Frame} {meth : Method} {c : Code} {T : State} {locs : List Loc} {cells slots : Nat}
theorem retI (X : Stand p l e R s m args below meth c T locs cells slots) (hx : p.tables.exec = Jvm.exec) {pc : Nat} {Ls : Array Slot} {z : Int32} {rest : List Value} (hret : meth.sig.returnType = some .int) (hd : decode c.code pc = .ok (.ireturn, 1)) {fs : List Frame}
    (hl : ∀ (f : JFrame) (acts : List Action), f.method = m → f.locked = none → f.entered = [] → (doReturn e (T.setTop f) acts (some (.int z))).1 = T.setFrames fs) : Steps p.tables e below (T.setTop (mkF m pc Ls (.int z :: rest))) (T.setFrames fs) := by
  have hm' : T.vm.method? m = some meth := X.method'
  have hn : narrow .int (.int z) = .int z := rfl
  show Steps p.tables e below (T.setTop { method := m, pc := pc, locals := Ls, stack := _ :: rest, locked := none }) _
  jvm_step X.here [X.here.top, hx, hd, hm', hret, hn]
  first | (intro acts; rw [hl _ acts rfl rfl rfl]) | rw [hl _ _ rfl rfl rfl]
  exact Steps.refl _
theorem retA (X : Stand p l e R s m args below meth c T locs cells slots) (hx : p.tables.exec = Jvm.exec) {pc : Nat} {Ls : Array Slot} {z : Addr} {rest : List Value} {t : FieldType} (hret : meth.sig.returnType = some t) (ht : t.isReference = true) (hd : decode c.code pc = .ok (.areturn, 1)) {fs : List Frame}
    (hl : ∀ (f : JFrame) (acts : List Action), f.method = m → f.locked = none → f.entered = [] → (doReturn e (T.setTop f) acts (some (.ref z))).1 = T.setFrames fs) : Steps p.tables e below (T.setTop (mkF m pc Ls (.ref z :: rest))) (T.setFrames fs) := by
  have hm' : T.vm.method? m = some meth := X.method'
  show Steps p.tables e below (T.setTop { method := m, pc := pc, locals := Ls, stack := _ :: rest, locked := none }) _
  jvm_step X.here [X.here.top, hx, hd, hm', hret, ht, Value.isRef]
  first | (intro acts; rw [hl _ acts rfl rfl rfl]) | rw [hl _ _ rfl rfl rfl]
  exact Steps.refl _
theorem retJ (X : Stand p l e R s m args below meth c T locs cells slots) (hx : p.tables.exec = Jvm.exec) {pc : Nat} {Ls : Array Slot} {z : Int64} {rest : List Value} (hret : meth.sig.returnType = some .long) (hd : decode c.code pc = .ok (.lreturn, 1)) {fs : List Frame}
    (hl : ∀ (f : JFrame) (acts : List Action), f.method = m → f.locked = none → f.entered = [] → (doReturn e (T.setTop f) acts (some (.long z))).1 = T.setFrames fs) : Steps p.tables e below (T.setTop (mkF m pc Ls (.long z :: rest))) (T.setFrames fs) := by
  have hm' : T.vm.method? m = some meth := X.method'
  show Steps p.tables e below (T.setTop { method := m, pc := pc, locals := Ls, stack := _ :: rest, locked := none }) _
  jvm_step X.here [X.here.top, hx, hd, hm', hret]
  first | (intro acts; rw [hl _ acts rfl rfl rfl]) | rw [hl _ _ rfl rfl rfl]
  exact Steps.refl _
end New
end Jvm.RoadKit
namespace Jvm.Pilot.@@N@@
open Jvm Jvm.ClassFile Sem Op Lib Jvm.Free Jvm.Stand Jvm.LawKit Jvm.RoadKit Bundle Jvm.Pilot.@@N@@.Jvm.D
/-! My own frame of a walk: 'Done' says: from this frame the run ends, and Q holds of what came back, of the heap, and of the places written. -/
def Done (p : Program) (e : Env) (below : List Frame) (s : State) (R : Room) (Q : Option Value → Heap → List Loc → Prop) (T : State) (g : JFrame) : Prop :=
  ∃ s₂ o, Steps p.tables e below (T.setTop g) s₂ ∧ s₂.status = .running ∧ Ended s₂ below o ∧ ∃ v L, o = .returned v ∧ Q v s₂.heap L ∧ FrameEnd s o s₂ L R.cells R.slots
def Qp (h0 : Heap) (n0 : Nat) (z : Value) (v : Option Value) (h : Heap) (L : List Loc) : Prop := v = some z ∧ Fr n0 L ∧ h = h0
def Qv (h0 : Heap) (n0 : Nat) (v : Option Value) (h : Heap) (L : List Loc) : Prop := v = none ∧ Fr n0 L ∧ h = h0
def Ql (n0 : Nat) (z : Value) (v : Option Value) (h : Heap) (L : List Loc) : Prop := v = some z ∧ Fr n0 L
theorem Done.of {p : Program} {e : Env} {below : List Frame} {s : State} {R : Room} {Q : Option Value → Heap → List Loc → Prop} {T T' : State} {g g' : JFrame}
    (st : ∀ t, Steps p.tables e below (T'.setTop g') t → Steps p.tables e below (T.setTop g) t) (d : Done p e below s R Q T' g') : Done p e below s R Q T g := by
  obtain ⟨s₂, o, h1, h2⟩ := d
  exact ⟨s₂, o, st _ h1, h2⟩
section Ends
variable {p : Program} {l : Launch} {e : Env} {R : Room} {s : State} {m : MethodId} {args : Array Value} {below : List Frame} {meth : Method} {c : Code} {T : State} {locs : List Loc} {cells slots : Nat} {Q : Option Value → Heap → List Loc → Prop}
theorem doneI (X : Stand p l e R s m args below meth c T locs cells slots) (hx : p.tables.exec = Jvm.exec) {pc : Nat} {Ls : Array Slot} {z : Int32} {rest : List Value} (hret : meth.sig.returnType = some .int) (hlk : meth.locks = false) (hd : decode c.code pc = .ok (.ireturn, 1))
    (hQ : Q (some (.int z)) T.heap locs) (hc : cells ≤ R.cells) (hs : slots ≤ R.slots) : Done p e below s R Q T (mkF m pc Ls (.int z :: rest)) := by
  obtain ⟨fs, hr, hrun, hended, hW, hsame⟩ := X.leave (v := some (.int z)) (fun h => by rw [hret] at h; cases h) hlk
  exact ⟨_, _, retI X hx hret hd hr, hrun, hended, _, _, rfl, hQ, ⟨_, rfl⟩, hW, hsame.mono hc hs⟩
theorem doneN (t : FieldType) (X : Stand p l e R s m args below meth c T locs cells slots) (ht : t = .boolean ∨ t = .byte ∨ t = .char ∨ t = .short) (hx : p.tables.exec = Jvm.exec) {pc : Nat} {Ls : Array Slot} {z : Int32} {rest : List Value} (hret : meth.sig.returnType = some t) (hlk : meth.locks = false) (hd : decode c.code pc = .ok (.ireturn, 1))
    (hQ : Q (some (.int (nar t z))) T.heap locs) (hc : cells ≤ R.cells) (hs : slots ≤ R.slots) : Done p e below s R Q T (mkF m pc Ls (.int z :: rest)) := by
  obtain ⟨fs, hr, hrun, hended, hW, hsame⟩ := X.leave (v := some (.int (nar t z))) (fun h => by rw [hret] at h; cases h) hlk
  exact ⟨_, _, retN X hx hret ht hd hr, hrun, hended, _, _, rfl, hQ, ⟨_, rfl⟩, hW, hsame.mono hc hs⟩
theorem doneJ (X : Stand p l e R s m args below meth c T locs cells slots) (hx : p.tables.exec = Jvm.exec) {pc : Nat} {Ls : Array Slot} {z : Int64} {rest : List Value} (hret : meth.sig.returnType = some .long) (hlk : meth.locks = false) (hd : decode c.code pc = .ok (.lreturn, 1))
    (hQ : Q (some (.long z)) T.heap locs) (hc : cells ≤ R.cells) (hs : slots ≤ R.slots) : Done p e below s R Q T (mkF m pc Ls (.long z :: rest)) := by
  obtain ⟨fs, hr, hrun, hended, hW, hsame⟩ := X.leave (v := some (.long z)) (fun h => by rw [hret] at h; cases h) hlk
  exact ⟨_, _, retJ X hx hret hd hr, hrun, hended, _, _, rfl, hQ, ⟨_, rfl⟩, hW, hsame.mono hc hs⟩
theorem doneA (X : Stand p l e R s m args below meth c T locs cells slots) (hx : p.tables.exec = Jvm.exec) {pc : Nat} {Ls : Array Slot} {z : Addr} {rest : List Value} {t : FieldType} (hret : meth.sig.returnType = some t) (ht : t.isReference = true) (hlk : meth.locks = false) (hd : decode c.code pc = .ok (.areturn, 1))
    (hQ : Q (some (.ref z)) T.heap locs) (hc : cells ≤ R.cells) (hs : slots ≤ R.slots) : Done p e below s R Q T (mkF m pc Ls (.ref z :: rest)) := by
  obtain ⟨fs, hr, hrun, hended, hW, hsame⟩ := X.leave (v := some (.ref z)) (fun h => by rw [hret] at h; cases h) hlk
  exact ⟨_, _, retA X hx hret ht hd hr, hrun, hended, _, _, rfl, hQ, ⟨_, rfl⟩, hW, hsame.mono hc hs⟩
theorem doneV (X : Stand p l e R s m args below meth c T locs cells slots) (hx : p.tables.exec = Jvm.exec) {pc : Nat} {Ls : Array Slot} (hret : meth.sig.returnType = none) (hlk : meth.locks = false) (hd : decode c.code pc = .ok (.return_, 1))
    (hQ : Q none T.heap locs) (hc : cells ≤ R.cells) (hs : slots ≤ R.slots) : Done p e below s R Q T (mkF m pc Ls []) := by
  obtain ⟨fs, hr, hrun, hended, hW, hsame⟩ := X.leave (v := none) (fun _ => rfl) hlk
  exact ⟨_, _, X.returnOut hx hret hd hr, hrun, hended, _, _, rfl, hQ, ⟨_, rfl⟩, hW, hsame.mono hc hs⟩
end Ends
theorem lcLt_t {x y : Int64} (h : x < y) : ifCond.holds .lt (lcmpW x y) = true ∧ ifCond.holds .ge (lcmpW x y) = false := ⟨(if0 _ _).trans (tlt ((lw_lt x y).mpr h)).1, (if0 _ _).trans (tlt ((lw_lt x y).mpr h)).2.1⟩
theorem lcLt_f {x y : Int64} (h : ¬ x < y) : ifCond.holds .lt (lcmpW x y) = false ∧ ifCond.holds .ge (lcmpW x y) = true := ⟨(if0 _ _).trans (flt (fun q => h ((lw_lt x y).mp q))).1, (if0 _ _).trans (flt (fun q => h ((lw_lt x y).mp q))).2.1⟩
theorem lcGt_t {x y : Int64} (h : y < x) : ifCond.holds .gt (lcmpW x y) = true ∧ ifCond.holds .le (lcmpW x y) = false := ⟨(if0 _ _).trans (tlt ((lw_gt x y).mpr h)).2.2.1, (if0 _ _).trans (tlt ((lw_gt x y).mpr h)).2.2.2⟩
theorem lcGt_f {x y : Int64} (h : ¬ y < x) : ifCond.holds .gt (lcmpW x y) = false ∧ ifCond.holds .le (lcmpW x y) = true := ⟨(if0 _ _).trans (flt (fun q => h ((lw_gt x y).mp q))).2.2.1, (if0 _ _).trans (flt (fun q => h ((lw_gt x y).mp q))).2.2.2⟩
theorem lcEq_t {x y : Int64} (h : x = y) : ifCond.holds .eq (lcmpW x y) = true ∧ ifCond.holds .ne (lcmpW x y) = false := ⟨(if0 _ _).trans (teq ((lw_eq x y).mpr h)).1, (if0 _ _).trans (teq ((lw_eq x y).mpr h)).2⟩
theorem lcEq_f {x y : Int64} (h : ¬ x = y) : ifCond.holds .eq (lcmpW x y) = false ∧ ifCond.holds .ne (lcmpW x y) = true := ⟨(if0 _ _).trans (feq (fun q => h ((lw_eq x y).mp q))).1, (if0 _ _).trans (feq (fun q => h ((lw_eq x y).mp q))).2⟩
theorem own_selP {s : State} {args : Array Value} {y : MethodName} {n : Nat} (hins : (Cond.instantiable y.cls n).before args s = true) (hpriv : (Cond.privateMethod y).before args s = true) (hinst : (Cond.instanceMethod y).before args s = true) (hy : y.cls ≠ "java/lang/invoke/MethodHandle" ∧ y.cls ≠ "java/lang/invoke/VarHandle") :
    (Cond.selects y.cls y y).before args s = true := by
  obtain ⟨c, k, hc, hk, -, hniab, -, -⟩ := Cond.instantiable_spec hins
  exact selects_self_of_private hc hk (Bool.or_eq_false_iff.mp hniab).1 (Cond.privateMethod_at hpriv) hinst hy
theorem own_hat {c : Cell} {vs : List Int32} {j : Int32} (H : Has c (vs.map Value.int) (.int (0 : Int32))) (hin : ¬ (j < 0 ∨ c.slots.size ≤ j.toNatClampNeg)) : c.slots[j.toNatClampNeg]? = some (.int (vs.getD j.toNatClampNeg 0)) := by
  rw [H j.toNatClampNeg (Nat.lt_of_not_le fun q => hin (Or.inr q))]
  simp only [List.getD_eq_getElem?_getD, List.getElem?_map]
  cases vs[j.toNatClampNeg]? <;> rfl
theorem own_fin {n : Nat} (c : Int32) (h0 : 0 ≤ c.toInt) (h1 : c.toInt < n) : ∃ i : Fin n, c = Int32.ofInt (i.1 : Int) :=
  ⟨⟨c.toInt.toNat, by omega⟩, by show c = Int32.ofInt ((c.toInt.toNat : Nat) : Int); rw [Int.toNat_of_nonneg h0]; exact (Int32.ofInt_toInt c).symm⟩
theorem own_set (N i : Nat) (f : Nat → Int32) (v : Int32) : ((List.range N).map fun j => Value.int (f j)).set i (.int v) = (List.range N).map fun j => Value.int (if j = i then v else f j) := by
  apply List.ext_getElem
  · simp
  · intro k h1 h2
    rw [List.getElem_set]
    simp only [List.getElem_map, List.getElem_range]
    by_cases q : i = k
    · rw [if_pos q, if_pos q.symm]
    · rw [if_neg q, if_neg (Ne.symm q)]
theorem own_setA {Z : State} {h : Heap} {a : Addr} {k : ClassId} {ty : FieldType} {z : Int32} {N i : Nat} {f : Nat → Int32} {v : Int32} {dv : Value} (A : Arv Z h a k ty z (((List.range N).map fun j => Value.int (f j)).set i (.int v)) dv) :
    Arv Z h a k ty z ((List.range N).map fun j => Value.int (if j = i then v else f j)) dv := by rw [← own_set]; exact A
theorem own_hatF {c : Cell} {N : Nat} {f : Nat → Int32} {j : Int32} {d : Value} (H : Has c ((List.range N).map fun j => Value.int (f j)) d) (hN : c.slots.size = N) (hin : ¬ (j < 0 ∨ c.slots.size ≤ j.toNatClampNeg)) : c.slots[j.toNatClampNeg]? = some (.int (f j.toNatClampNeg)) := by
  have hl : j.toNatClampNeg < c.slots.size := Nat.lt_of_not_le fun q => hin (Or.inr q)
  rw [H j.toNatClampNeg hl, List.getD_eq_getElem?_getD, List.getElem?_map, List.getElem?_range (by omega)]
  rfl
theorem own_sz {c : Cell} {z : Int32} {N : Nat} (S : c.slots.size = z.toNatClampNeg) (h : z.toNatClampNeg = N := by decide) : c.slots.size = N := S.trans h
theorem own_len {c : Cell} {z j : Int32} {N : Nat} {f : Nat → Int32} (S : c.slots.size = z.toNatClampNeg) (hin : ¬ (j < 0 ∨ c.slots.size ≤ j.toNatClampNeg)) (h : z.toNatClampNeg = N := by decide) : j.toNatClampNeg < ((List.range N).map fun j => Value.int (f j)).length := by
  have : j.toNatClampNeg < c.slots.size := Nat.lt_of_not_le fun q => hin (Or.inr q)
  rw [List.length_map, List.length_range]; omega
theorem d1_0 : decode prog_113_method_2_code 0 = .ok (.iload_n 0, 1) := by decide +kernel
theorem d1_1 : decode prog_113_method_2_code 1 = .ok (.bipush 65, 2) := by decide +kernel
theorem d1_3 : decode prog_113_method_2_code 3 = .ok (.if_icmp .lt 9, 3) := by decide +kernel
theorem d1_6 : decode prog_113_method_2_code 6 = .ok (.iload_n 0, 1) := by decide +kernel
theorem d1_7 : decode prog_113_method_2_code 7 = .ok (.bipush 90, 2) := by decide +kernel
theorem d1_9 : decode prog_113_method_2_code 9 = .ok (.if_icmp .le 176, 3) := by decide +kernel
theorem d1_12 : decode prog_113_method_2_code 12 = .ok (.iload_n 0, 1) := by decide +kernel
theorem d1_13 : decode prog_113_method_2_code 13 = .ok (.bipush 97, 2) := by decide +kernel
theorem d1_15 : decode prog_113_method_2_code 15 = .ok (.if_icmp .lt 9, 3) := by decide +kernel
theorem d1_18 : decode prog_113_method_2_code 18 = .ok (.iload_n 0, 1) := by decide +kernel
theorem d1_19 : decode prog_113_method_2_code 19 = .ok (.bipush 122, 2) := by decide +kernel
theorem d1_21 : decode prog_113_method_2_code 21 = .ok (.if_icmp .le 164, 3) := by decide +kernel
theorem d1_24 : decode prog_113_method_2_code 24 = .ok (.iload_n 0, 1) := by decide +kernel
theorem d1_25 : decode prog_113_method_2_code 25 = .ok (.sipush 192, 3) := by decide +kernel
theorem d1_28 : decode prog_113_method_2_code 28 = .ok (.if_icmp .lt 10, 3) := by decide +kernel
theorem d1_31 : decode prog_113_method_2_code 31 = .ok (.iload_n 0, 1) := by decide +kernel
theorem d1_32 : decode prog_113_method_2_code 32 = .ok (.sipush 214, 3) := by decide +kernel
theorem d1_35 : decode prog_113_method_2_code 35 = .ok (.if_icmp .le 150, 3) := by decide +kernel
theorem d1_38 : decode prog_113_method_2_code 38 = .ok (.iload_n 0, 1) := by decide +kernel
theorem d1_39 : decode prog_113_method_2_code 39 = .ok (.sipush 216, 3) := by decide +kernel
theorem d1_42 : decode prog_113_method_2_code 42 = .ok (.if_icmp .lt 10, 3) := by decide +kernel
theorem d1_45 : decode prog_113_method_2_code 45 = .ok (.iload_n 0, 1) := by decide +kernel
theorem d1_46 : decode prog_113_method_2_code 46 = .ok (.sipush 246, 3) := by decide +kernel
theorem d1_49 : decode prog_113_method_2_code 49 = .ok (.if_icmp .le 136, 3) := by decide +kernel
theorem d1_52 : decode prog_113_method_2_code 52 = .ok (.iload_n 0, 1) := by decide +kernel
theorem d1_53 : decode prog_113_method_2_code 53 = .ok (.sipush 248, 3) := by decide +kernel
theorem d1_56 : decode prog_113_method_2_code 56 = .ok (.if_icmp .lt 10, 3) := by decide +kernel
theorem d1_59 : decode prog_113_method_2_code 59 = .ok (.iload_n 0, 1) := by decide +kernel
theorem d1_60 : decode prog_113_method_2_code 60 = .ok (.sipush 767, 3) := by decide +kernel
theorem d1_63 : decode prog_113_method_2_code 63 = .ok (.if_icmp .le 122, 3) := by decide +kernel
theorem d1_66 : decode prog_113_method_2_code 66 = .ok (.iload_n 0, 1) := by decide +kernel
theorem d1_67 : decode prog_113_method_2_code 67 = .ok (.sipush 880, 3) := by decide +kernel
theorem d1_70 : decode prog_113_method_2_code 70 = .ok (.if_icmp .lt 10, 3) := by decide +kernel
theorem d1_73 : decode prog_113_method_2_code 73 = .ok (.iload_n 0, 1) := by decide +kernel
theorem d1_74 : decode prog_113_method_2_code 74 = .ok (.sipush 893, 3) := by decide +kernel
theorem d1_77 : decode prog_113_method_2_code 77 = .ok (.if_icmp .le 108, 3) := by decide +kernel
theorem d1_80 : decode prog_113_method_2_code 80 = .ok (.iload_n 0, 1) := by decide +kernel
theorem d1_81 : decode prog_113_method_2_code 81 = .ok (.sipush 895, 3) := by decide +kernel
theorem d1_84 : decode prog_113_method_2_code 84 = .ok (.if_icmp .lt 10, 3) := by decide +kernel
theorem d1_87 : decode prog_113_method_2_code 87 = .ok (.iload_n 0, 1) := by decide +kernel
theorem d1_88 : decode prog_113_method_2_code 88 = .ok (.sipush 8191, 3) := by decide +kernel
theorem d1_91 : decode prog_113_method_2_code 91 = .ok (.if_icmp .le 94, 3) := by decide +kernel
theorem d1_94 : decode prog_113_method_2_code 94 = .ok (.iload_n 0, 1) := by decide +kernel
theorem d1_95 : decode prog_113_method_2_code 95 = .ok (.sipush 8204, 3) := by decide +kernel
theorem d1_98 : decode prog_113_method_2_code 98 = .ok (.if_icmp .lt 10, 3) := by decide +kernel
theorem d1_101 : decode prog_113_method_2_code 101 = .ok (.iload_n 0, 1) := by decide +kernel
theorem d1_102 : decode prog_113_method_2_code 102 = .ok (.sipush 8205, 3) := by decide +kernel
theorem d1_105 : decode prog_113_method_2_code 105 = .ok (.if_icmp .le 80, 3) := by decide +kernel
theorem d1_108 : decode prog_113_method_2_code 108 = .ok (.iload_n 0, 1) := by decide +kernel
theorem d1_109 : decode prog_113_method_2_code 109 = .ok (.sipush 8304, 3) := by decide +kernel
theorem d1_112 : decode prog_113_method_2_code 112 = .ok (.if_icmp .lt 10, 3) := by decide +kernel
theorem d1_115 : decode prog_113_method_2_code 115 = .ok (.iload_n 0, 1) := by decide +kernel
theorem d1_116 : decode prog_113_method_2_code 116 = .ok (.sipush 8591, 3) := by decide +kernel
theorem d1_119 : decode prog_113_method_2_code 119 = .ok (.if_icmp .le 66, 3) := by decide +kernel
theorem d1_122 : decode prog_113_method_2_code 122 = .ok (.iload_n 0, 1) := by decide +kernel
theorem d1_123 : decode prog_113_method_2_code 123 = .ok (.sipush 11264, 3) := by decide +kernel
theorem d1_126 : decode prog_113_method_2_code 126 = .ok (.if_icmp .lt 10, 3) := by decide +kernel
theorem d1_129 : decode prog_113_method_2_code 129 = .ok (.iload_n 0, 1) := by decide +kernel
theorem d1_130 : decode prog_113_method_2_code 130 = .ok (.sipush 12271, 3) := by decide +kernel
theorem d1_133 : decode prog_113_method_2_code 133 = .ok (.if_icmp .le 52, 3) := by decide +kernel
theorem d1_136 : decode prog_113_method_2_code 136 = .ok (.iload_n 0, 1) := by decide +kernel
theorem d1_137 : decode prog_113_method_2_code 137 = .ok (.sipush 12289, 3) := by decide +kernel
theorem d1_140 : decode prog_113_method_2_code 140 = .ok (.if_icmp .lt 9, 3) := by decide +kernel
theorem d1_143 : decode prog_113_method_2_code 143 = .ok (.iload_n 0, 1) := by decide +kernel
theorem d1_144 : decode prog_113_method_2_code 144 = .ok (.ldc 7, 2) := by decide +kernel
theorem d1_146 : decode prog_113_method_2_code 146 = .ok (.if_icmp .le 39, 3) := by decide +kernel
theorem d1_149 : decode prog_113_method_2_code 149 = .ok (.iload_n 0, 1) := by decide +kernel
theorem d1_150 : decode prog_113_method_2_code 150 = .ok (.ldc 8, 2) := by decide +kernel
theorem d1_152 : decode prog_113_method_2_code 152 = .ok (.if_icmp .lt 9, 3) := by decide +kernel
theorem d1_155 : decode prog_113_method_2_code 155 = .ok (.iload_n 0, 1) := by decide +kernel
theorem d1_156 : decode prog_113_method_2_code 156 = .ok (.ldc 9, 2) := by decide +kernel
theorem d1_158 : decode prog_113_method_2_code 158 = .ok (.if_icmp .le 27, 3) := by decide +kernel
theorem d1_161 : decode prog_113_method_2_code 161 = .ok (.iload_n 0, 1) := by decide +kernel
theorem d1_162 : decode prog_113_method_2_code 162 = .ok (.ldc 10, 2) := by decide +kernel
theorem d1_164 : decode prog_113_method_2_code 164 = .ok (.if_icmp .lt 9, 3) := by decide +kernel
theorem d1_167 : decode prog_113_method_2_code 167 = .ok (.iload_n 0, 1) := by decide +kernel
theorem d1_168 : decode prog_113_method_2_code 168 = .ok (.ldc 11, 2) := by decide +kernel
theorem d1_170 : decode prog_113_method_2_code 170 = .ok (.if_icmp .le 15, 3) := by decide +kernel
theorem d1_173 : decode prog_113_method_2_code 173 = .ok (.iload_n 0, 1) := by decide +kernel
theorem d1_174 : decode prog_113_method_2_code 174 = .ok (.ldc 12, 2) := by decide +kernel
theorem d1_176 : decode prog_113_method_2_code 176 = .ok (.if_icmp .lt 13, 3) := by decide +kernel
theorem d1_179 : decode prog_113_method_2_code 179 = .ok (.iload_n 0, 1) := by decide +kernel
theorem d1_180 : decode prog_113_method_2_code 180 = .ok (.ldc 13, 2) := by decide +kernel
theorem d1_182 : decode prog_113_method_2_code 182 = .ok (.if_icmp .gt 7, 3) := by decide +kernel
theorem d1_185 : decode prog_113_method_2_code 185 = .ok (.iconst 1, 1) := by decide +kernel
theorem d1_186 : decode prog_113_method_2_code 186 = .ok (.goto 4, 3) := by decide +kernel
theorem d1_189 : decode prog_113_method_2_code 189 = .ok (.iconst 0, 1) := by decide +kernel
theorem d1_190 : decode prog_113_method_2_code 190 = .ok (.ireturn, 1) := by decide +kernel
def F1_173 (i0 : Int32) : Int32 := (if i0 < (65536 : Int32) then (0 : Int32) else (if (983039 : Int32) < i0 then (0 : Int32) else (1 : Int32)))
set_option maxRecDepth 65536 in
set_option maxHeartbeats 40000000 in
theorem bk1_173 {p : Program} {l : Launch} {e : Env} {s : State} {m : MethodId} {args : Array Value} {below : List Frame} {meth : Method} {c : Code} {T0 : State} {locs : List Loc} {Z : State} {a0 : Array Value} {h0 : Heap} {n0 : Nat}
    (hx : p.tables.exec = Jvm.exec) (hZ : Z.Warmed39 s.vm) (hw : ∀ d ∈ tables_1, d.before a0 Z = true) (hby : c.code = prog_113_method_2_code) (hml : c.maxLocals = 1) (hown : s.vm.findClass "com/example/orbweave/orbweave/term/NameChars" = some m.cls) (hnm : meth.name = "isPnCharsBase") (hret : meth.sig.returnType = some .boolean) (hlk : meth.locks = false)
    (X0 : Stand p l e ({ frames := 0, cells := 0, slots := 0, locals := 0 } : Room) s m args below meth c T0 locs 0 0) (N0 : Fr n0 locs) (e0 : T0.heap = h0) (i0 : Int32) :
    Done p e below s ({ frames := 0, cells := 0, slots := 0, locals := 0 } : Room) (Qp h0 n0 (.int (F1_173 i0))) T0 (mkF m 173 #[.val (.int i0)] []) := by
  unfold F1_173
  refine Done.of (T' := T0) (g' := (mkF m 176 #[.val (.int i0)] [(.int (65536 : Int32)), (.int i0)])) (fun t k => ?_) ?_
  · show Steps p.tables e below (T0.setTop (mkF m 173 #[.val (.int i0)] [])) t
    refine XS.iloadN X0.here hx rfl (hb hby d1_173) rfl ?_
    show Steps p.tables e below (T0.setTop (mkF m 174 #[.val (.int i0)] [(.int i0)])) t
    refine X0.ldcInt hx hown (mvT hZ (hw _ (List.mem_of_getElem? (i := 16) rfl))) (g := (mkF m 174 #[.val (.int i0)] [(.int i0)])) rfl (hb hby d1_174) _ ?_
    exact k
  by_cases hc176_0 : i0 < (65536 : Int32)
  · rw [if_pos hc176_0]
    refine Done.of (T' := T0) (g' := (mkF m 190 #[.val (.int i0)] [(.int (0 : Int32))])) (fun t k => ?_) ?_
    · show Steps p.tables e below (T0.setTop (mkF m 176 #[.val (.int i0)] [(.int (65536 : Int32)), (.int i0)])) t
      refine XS.icmpYes X0.here hx rfl (pc0 := 176) (pc' := 189) rfl (hb hby d1_176) rfl (tlt hc176_0).1 (by decide) (by decide) ?_
      show Steps p.tables e below (T0.setTop (mkF m 189 #[.val (.int i0)] [])) t
      refine XS.iconst X0.here hx rfl (hb hby d1_189) ?_
      exact k
    exact doneN (t := .boolean) X0 (by simp) hx hret hlk (hb hby d1_190) ⟨rfl, N0, e0⟩ (by decide) (by decide)
  · rw [if_neg hc176_0]
    refine Done.of (T' := T0) (g' := (mkF m 182 #[.val (.int i0)] [(.int (983039 : Int32)), (.int i0)])) (fun t k => ?_) ?_
    · show Steps p.tables e below (T0.setTop (mkF m 176 #[.val (.int i0)] [(.int (65536 : Int32)), (.int i0)])) t
      refine XS.icmpNo X0.here hx rfl (hb hby d1_176) rfl (flt hc176_0).1 ?_
      show Steps p.tables e below (T0.setTop (mkF m 179 #[.val (.int i0)] [])) t
      refine XS.iloadN X0.here hx rfl (hb hby d1_179) rfl ?_
      show Steps p.tables e below (T0.setTop (mkF m 180 #[.val (.int i0)] [(.int i0)])) t
      refine X0.ldcInt hx hown (mvT hZ (hw _ (List.mem_of_getElem? (i := 27) rfl))) (g := (mkF m 180 #[.val (.int i0)] [(.int i0)])) rfl (hb hby d1_180) _ ?_
      exact k
    by_cases hc182_1 : (983039 : Int32) < i0
    · rw [if_pos hc182_1]
      refine Done.of (T' := T0) (g' := (mkF m 190 #[.val (.int i0)] [(.int (0 : Int32))])) (fun t k => ?_) ?_
      · show Steps p.tables e below (T0.setTop (mkF m 182 #[.val (.int i0)] [(.int (983039 : Int32)), (.int i0)])) t
        refine XS.icmpYes X0.here hx rfl (pc0 := 182) (pc' := 189) rfl (hb hby d1_182) rfl (tlt hc182_1).2.2.1 (by decide) (by decide) ?_
        show Steps p.tables e below (T0.setTop (mkF m 189 #[.val (.int i0)] [])) t
        refine XS.iconst X0.here hx rfl (hb hby d1_189) ?_
        exact k
      exact doneN (t := .boolean) X0 (by simp) hx hret hlk (hb hby d1_190) ⟨rfl, N0, e0⟩ (by decide) (by decide)
    · rw [if_neg hc182_1]
      refine Done.of (T' := T0) (g' := (mkF m 190 #[.val (.int i0)] [(.int (1 : Int32))])) (fun t k => ?_) ?_
      · show Steps p.tables e below (T0.setTop (mkF m 182 #[.val (.int i0)] [(.int (983039 : Int32)), (.int i0)])) t
        refine XS.icmpNo X0.here hx rfl (hb hby d1_182) rfl (flt hc182_1).2.2.1 ?_
        show Steps p.tables e below (T0.setTop (mkF m 185 #[.val (.int i0)] [])) t
        refine XS.iconst X0.here hx rfl (hb hby d1_185) ?_
        show Steps p.tables e below (T0.setTop (mkF m 186 #[.val (.int i0)] [(.int (1 : Int32))])) t
        refine XS.goto X0.here hx rfl (pc0 := 186) (pc' := 190) rfl (hb hby d1_186) (by decide) (by decide) ?_
        exact k
      exact doneN (t := .boolean) X0 (by simp) hx hret hlk (hb hby d1_190) ⟨rfl, N0, e0⟩ (by decide) (by decide)
def F1_161 (i0 : Int32) : Int32 := (if i0 < (65008 : Int32) then (F1_173 i0) else (if (65533 : Int32) < i0 then (F1_173 i0) else (1 : Int32)))
set_option maxRecDepth 65536 in
set_option maxHeartbeats 40000000 in
theorem bk1_161 {p : Program} {l : Launch} {e : Env} {s : State} {m : MethodId} {args : Array Value} {below : List Frame} {meth : Method} {c : Code} {T0 : State} {locs : List Loc} {Z : State} {a0 : Array Value} {h0 : Heap} {n0 : Nat}
    (hx : p.tables.exec = Jvm.exec) (hZ : Z.Warmed39 s.vm) (hw : ∀ d ∈ tables_1, d.before a0 Z = true) (hby : c.code = prog_113_method_2_code) (hml : c.maxLocals = 1) (hown : s.vm.findClass "com/example/orbweave/orbweave/term/NameChars" = some m.cls) (hnm : meth.name = "isPnCharsBase") (hret : meth.sig.returnType = some .boolean) (hlk : meth.locks = false)
    (X0 : Stand p l e ({ frames := 0, cells := 0, slots := 0, locals := 0 } : Room) s m args below meth c T0 locs 0 0) (N0 : Fr n0 locs) (e0 : T0.heap = h0) (i0 : Int32) :
    Done p e below s ({ frames := 0, cells := 0, slots := 0, locals := 0 } : Room) (Qp h0 n0 (.int (F1_161 i0))) T0 (mkF m 161 #[.val (.int i0)] []) := by
  unfold F1_161
  refine Done.of (T' := T0) (g' := (mkF m 164 #[.val (.int i0)] [(.int (65008 : Int32)), (.int i0)])) (fun t k => ?_) ?_
  · show Steps p.tables e below (T0.setTop (mkF m 161 #[.val (.int i0)] [])) t
    refine XS.iloadN X0.here hx rfl (hb hby d1_161) rfl ?_
    show Steps p.tables e below (T0.setTop (mkF m 162 #[.val (.int i0)] [(.int i0)])) t
    refine X0.ldcInt hx hown (mvT hZ (hw _ (List.mem_of_getElem? (i := 15) rfl))) (g := (mkF m 162 #[.val (.int i0)] [(.int i0)])) rfl (hb hby d1_162) _ ?_
    exact k
  by_cases hc164_0 : i0 < (65008 : Int32)
  · rw [if_pos hc164_0]
    refine Done.of (T' := T0) (g' := (mkF m 173 #[.val (.int i0)] [])) (fun t k => ?_) ?_
    · show Steps p.tables e below (T0.setTop (mkF m 164 #[.val (.int i0)] [(.int (65008 : Int32)), (.int i0)])) t
      refine XS.icmpYes X0.here hx rfl (pc0 := 164) (pc' := 173) rfl (hb hby d1_164) rfl (tlt hc164_0).1 (by decide) (by decide) ?_
      exact k
    exact bk1_173 hx hZ hw hby hml hown hnm hret hlk X0 N0 e0 i0
  · rw [if_neg hc164_0]
    refine Done.of (T' := T0) (g' := (mkF m 170 #[.val (.int i0)] [(.int (65533 : Int32)), (.int i0)])) (fun t k => ?_) ?_
    · show Steps p.tables e below (T0.setTop (mkF m 164 #[.val (.int i0)] [(.int (65008 : Int32)), (.int i0)])) t
      refine XS.icmpNo X0.here hx rfl (hb hby d1_164) rfl (flt hc164_0).1 ?_
      show Steps p.tables e below (T0.setTop (mkF m 167 #[.val (.int i0)] [])) t
      refine XS.iloadN X0.here hx rfl (hb hby d1_167) rfl ?_
      show Steps p.tables e below (T0.setTop (mkF m 168 #[.val (.int i0)] [(.int i0)])) t
      refine X0.ldcInt hx hown (mvT hZ (hw _ (List.mem_of_getElem? (i := 26) rfl))) (g := (mkF m 168 #[.val (.int i0)] [(.int i0)])) rfl (hb hby d1_168) _ ?_
      exact k
    by_cases hc170_1 : (65533 : Int32) < i0
    · rw [if_pos hc170_1]
      refine Done.of (T' := T0) (g' := (mkF m 173 #[.val (.int i0)] [])) (fun t k => ?_) ?_
      · show Steps p.tables e below (T0.setTop (mkF m 170 #[.val (.int i0)] [(.int (65533 : Int32)), (.int i0)])) t
        refine XS.icmpNo X0.here hx rfl (hb hby d1_170) rfl (tlt hc170_1).2.2.2 ?_
        exact k
      exact bk1_173 hx hZ hw hby hml hown hnm hret hlk X0 N0 e0 i0
    · rw [if_neg hc170_1]
      refine Done.of (T' := T0) (g' := (mkF m 190 #[.val (.int i0)] [(.int (1 : Int32))])) (fun t k => ?_) ?_
      · show Steps p.tables e below (T0.setTop (mkF m 170 #[.val (.int i0)] [(.int (65533 : Int32)), (.int i0)])) t
        refine XS.icmpYes X0.here hx rfl (pc0 := 170) (pc' := 185) rfl (hb hby d1_170) rfl (flt hc170_1).2.2.2 (by decide) (by decide) ?_
        show Steps p.tables e below (T0.setTop (mkF m 185 #[.val (.int i0)] [])) t
        refine XS.iconst X0.here hx rfl (hb hby d1_185) ?_
        show Steps p.tables e below (T0.setTop (mkF m 186 #[.val (.int i0)] [(.int (1 : Int32))])) t
        refine XS.goto X0.here hx rfl (pc0 := 186) (pc' := 190) rfl (hb hby d1_186) (by decide) (by decide) ?_
        exact k
      exact doneN (t := .boolean) X0 (by simp) hx hret hlk (hb hby d1_190) ⟨rfl, N0, e0⟩ (by decide) (by decide)
def F1_149 (i0 : Int32) : Int32 := (if i0 < (63744 : Int32) then (F1_161 i0) else (if (64975 : Int32) < i0 then (F1_161 i0) else (1 : Int32)))
set_option maxRecDepth 65536 in
set_option maxHeartbeats 40000000 in
theorem bk1_149 {p : Program} {l : Launch} {e : Env} {s : State} {m : MethodId} {args : Array Value} {below : List Frame} {meth : Method} {c : Code} {T0 : State} {locs : List Loc} {Z : State} {a0 : Array Value} {h0 : Heap} {n0 : Nat}
    (hx : p.tables.exec = Jvm.exec) (hZ : Z.Warmed39 s.vm) (hw : ∀ d ∈ tables_1, d.before a0 Z = true) (hby : c.code = prog_113_method_2_code) (hml : c.maxLocals = 1) (hown : s.vm.findClass "com/example/orbweave/orbweave/term/NameChars" = some m.cls) (hnm : meth.name = "isPnCharsBase") (hret : meth.sig.returnType = some .boolean) (hlk : meth.locks = false)
    (X0 : Stand p l e ({ frames := 0, cells := 0, slots := 0, locals := 0 } : Room) s m args below meth c T0 locs 0 0) (N0 : Fr n0 locs) (e0 : T0.heap = h0) (i0 : Int32) :
    Done p e below s ({ frames := 0, cells := 0, slots := 0, locals := 0 } : Room) (Qp h0 n0 (.int (F1_149 i0))) T0 (mkF m 149 #[.val (.int i0)] []) := by
  unfold F1_149
  refine Done.of (T' := T0) (g' := (mkF m 152 #[.val (.int i0)] [(.int (63744 : Int32)), (.int i0)])) (fun t k => ?_) ?_
  · show Steps p.tables e below (T0.setTop (mkF m 149 #[.val (.int i0)] [])) t
    refine XS.iloadN X0.here hx rfl (hb hby d1_149) rfl ?_
    show Steps p.tables e below (T0.setTop (mkF m 150 #[.val (.int i0)] [(.int i0)])) t
    refine X0.ldcInt hx hown (mvT hZ (hw _ (List.mem_of_getElem? (i := 14) rfl))) (g := (mkF m 150 #[.val (.int i0)] [(.int i0)])) rfl (hb hby d1_150) _ ?_
    exact k
  by_cases hc152_0 : i0 < (63744 : Int32)
  · rw [if_pos hc152_0]
    refine Done.of (T' := T0) (g' := (mkF m 161 #[.val (.int i0)] [])) (fun t k => ?_) ?_
    · show Steps p.tables e below (T0.setTop (mkF m 152 #[.val (.int i0)] [(.int (63744 : Int32)), (.int i0)])) t
      refine XS.icmpYes X0.here hx rfl (pc0 := 152) (pc' := 161) rfl (hb hby d1_152) rfl (tlt hc152_0).1 (by decide) (by decide) ?_
      exact k
    exact bk1_161 hx hZ hw hby hml hown hnm hret hlk X0 N0 e0 i0
  · rw [if_neg hc152_0]
    refine Done.of (T' := T0) (g' := (mkF m 158 #[.val (.int i0)] [(.int (64975 : Int32)), (.int i0)])) (fun t k => ?_) ?_
    · show Steps p.tables e below (T0.setTop (mkF m 152 #[.val (.int i0)] [(.int (63744 : Int32)), (.int i0)])) t
      refine XS.icmpNo X0.here hx rfl (hb hby d1_152) rfl (flt hc152_0).1 ?_
      show Steps p.tables e below (T0.setTop (mkF m 155 #[.val (.int i0)] [])) t
      refine XS.iloadN X0.here hx rfl (hb hby d1_155) rfl ?_
      show Steps p.tables e below (T0.setTop (mkF m 156 #[.val (.int i0)] [(.int i0)])) t
      refine X0.ldcInt hx hown (mvT hZ (hw _ (List.mem_of_getElem? (i := 25) rfl))) (g := (mkF m 156 #[.val (.int i0)] [(.int i0)])) rfl (hb hby d1_156) _ ?_
      exact k
    by_cases hc158_1 : (64975 : Int32) < i0
    · rw [if_pos hc158_1]
      refine Done.of (T' := T0) (g' := (mkF m 161 #[.val (.int i0)] [])) (fun t k => ?_) ?_
      · show Steps p.tables e below (T0.setTop (mkF m 158 #[.val (.int i0)] [(.int (64975 : Int32)), (.int i0)])) t
        refine XS.icmpNo X0.here hx rfl (hb hby d1_158) rfl (tlt hc158_1).2.2.2 ?_
        exact k
      exact bk1_161 hx hZ hw hby hml hown hnm hret hlk X0 N0 e0 i0
    · rw [if_neg hc158_1]
      refine Done.of (T' := T0) (g' := (mkF m 190 #[.val (.int i0)] [(.int (1 : Int32))])) (fun t k => ?_) ?_
      · show Steps p.tables e below (T0.setTop (mkF m 158 #[.val (.int i0)] [(.int (64975 : Int32)), (.int i0)])) t
        refine XS.icmpYes X0.here hx rfl (pc0 := 158) (pc' := 185) rfl (hb hby d1_158) rfl (flt hc158_1).2.2.2 (by decide) (by decide) ?_
        show Steps p.tables e below (T0.setTop (mkF m 185 #[.val (.int i0)] [])) t
        refine XS.iconst X0.here hx rfl (hb hby d1_185) ?_
        show Steps p.tables e below (T0.setTop (mkF m 186 #[.val (.int i0)] [(.int (1 : Int32))])) t
        refine XS.goto X0.here hx rfl (pc0 := 186) (pc' := 190) rfl (hb hby d1_186) (by decide) (by decide) ?_
        exact k
      exact doneN (t := .boolean) X0 (by simp) hx hret hlk (hb hby d1_190) ⟨rfl, N0, e0⟩ (by decide) (by decide)
def F1_136 (i0 : Int32) : Int32 := (if i0 < (12289 : Int32) then (F1_149 i0) else (if (55295 : Int32) < i0 then (F1_149 i0) else (1 : Int32)))
set_option maxRecDepth 65536 in
set_option maxHeartbeats 40000000 in
theorem bk1_136 {p : Program} {l : Launch} {e : Env} {s : State} {m : MethodId} {args : Array Value} {below : List Frame} {meth : Method} {c : Code} {T0 : State} {locs : List Loc} {Z : State} {a0 : Array Value} {h0 : Heap} {n0 : Nat}
    (hx : p.tables.exec = Jvm.exec) (hZ : Z.Warmed39 s.vm) (hw : ∀ d ∈ tables_1, d.before a0 Z = true) (hby : c.code = prog_113_method_2_code) (hml : c.maxLocals = 1) (hown : s.vm.findClass "com/example/orbweave/orbweave/term/NameChars" = some m.cls) (hnm : meth.name = "isPnCharsBase") (hret : meth.sig.returnType = some .boolean) (hlk : meth.locks = false)
    (X0 : Stand p l e ({ frames := 0, cells := 0, slots := 0, locals := 0 } : Room) s m args below meth c T0 locs 0 0) (N0 : Fr n0 locs) (e0 : T0.heap = h0) (i0 : Int32) :
    Done p e below s ({ frames := 0, cells := 0, slots := 0, locals := 0 } : Room) (Qp h0 n0 (.int (F1_136 i0))) T0 (mkF m 136 #[.val (.int i0)] []) := by
  unfold F1_136
  refine Done.of (T' := T0) (g' := (mkF m 140 #[.val (.int i0)] [(.int (12289 : Int32)), (.int i0)])) (fun t k => ?_) ?_
  · show Steps p.tables e below (T0.setTop (mkF m 136 #[.val (.int i0)] [])) t
    refine XS.iloadN X0.here hx rfl (hb hby d1_136) rfl ?_
    show Steps p.tables e below (T0.setTop (mkF m 137 #[.val (.int i0)] [(.int i0)])) t
    refine XS.sipush X0.here hx rfl (hb hby d1_137) ?_
    exact k
  by_cases hc140_0 : i0 < (12289 : Int32)
  · rw [if_pos hc140_0]
    refine Done.of (T' := T0) (g' := (mkF m 149 #[.val (.int i0)] [])) (fun t k => ?_) ?_
    · show Steps p.tables e below (T0.setTop (mkF m 140 #[.val (.int i0)] [(.int (12289 : Int32)), (.int i0)])) t
      refine XS.icmpYes X0.here hx rfl (pc0 := 140) (pc' := 149) rfl (hb hby d1_140) rfl (tlt hc140_0).1 (by decide) (by decide) ?_
      exact k
    exact bk1_149 hx hZ hw hby hml hown hnm hret hlk X0 N0 e0 i0
  · rw [if_neg hc140_0]
    refine Done.of (T' := T0) (g' := (mkF m 146 #[.val (.int i0)] [(.int (55295 : Int32)), (.int i0)])) (fun t k => ?_) ?_
    · show Steps p.tables e below (T0.setTop (mkF m 140 #[.val (.int i0)] [(.int (12289 : Int32)), (.int i0)])) t
      refine XS.icmpNo X0.here hx rfl (hb hby d1_140) rfl (flt hc140_0).1 ?_
      show Steps p.tables e below (T0.setTop (mkF m 143 #[.val (.int i0)] [])) t
      refine XS.iloadN X0.here hx rfl (hb hby d1_143) rfl ?_
      show Steps p.tables e below (T0.setTop (mkF m 144 #[.val (.int i0)] [(.int i0)])) t
      refine X0.ldcInt hx hown (mvT hZ (hw _ (List.mem_of_getElem? (i := 24) rfl))) (g := (mkF m 144 #[.val (.int i0)] [(.int i0)])) rfl (hb hby d1_144) _ ?_
      exact k
    by_cases hc146_1 : (55295 : Int32) < i0
    · rw [if_pos hc146_1]
      refine Done.of (T' := T0) (g' := (mkF m 149 #[.val (.int i0)] [])) (fun t k => ?_) ?_
      · show Steps p.tables e below (T0.setTop (mkF m 146 #[.val (.int i0)] [(.int (55295 : Int32)), (.int i0)])) t
        refine XS.icmpNo X0.here hx rfl (hb hby d1_146) rfl (tlt hc146_1).2.2.2 ?_
        exact k
      exact bk1_149 hx hZ hw hby hml hown hnm hret hlk X0 N0 e0 i0
    · rw [if_neg hc146_1]
      refine Done.of (T' := T0) (g' := (mkF m 190 #[.val (.int i0)] [(.int (1 : Int32))])) (fun t k => ?_) ?_
      · show Steps p.tables e below (T0.setTop (mkF m 146 #[.val (.int i0)] [(.int (55295 : Int32)), (.int i0)])) t
        refine XS.icmpYes X0.here hx rfl (pc0 := 146) (pc' := 185) rfl (hb hby d1_146) rfl (flt hc146_1).2.2.2 (by decide) (by decide) ?_
        show Steps p.tables e below (T0.setTop (mkF m 185 #[.val (.int i0)] [])) t
        refine XS.iconst X0.here hx rfl (hb hby d1_185) ?_
        show Steps p.tables e below (T0.setTop (mkF m 186 #[.val (.int i0)] [(.int (1 : Int32))])) t
        refine XS.goto X0.here hx rfl (pc0 := 186) (pc' := 190) rfl (hb hby d1_186) (by decide) (by decide) ?_
        exact k
      exact doneN (t := .boolean) X0 (by simp) hx hret hlk (hb hby d1_190) ⟨rfl, N0, e0⟩ (by decide) (by decide)
def F1_122 (i0 : Int32) : Int32 := (if i0 < (11264 : Int32) then (F1_136 i0) else (if (12271 : Int32) < i0 then (F1_136 i0) else (1 : Int32)))
set_option maxRecDepth 65536 in
set_option maxHeartbeats 40000000 in
theorem bk1_122 {p : Program} {l : Launch} {e : Env} {s : State} {m : MethodId} {args : Array Value} {below : List Frame} {meth : Method} {c : Code} {T0 : State} {locs : List Loc} {Z : State} {a0 : Array Value} {h0 : Heap} {n0 : Nat}
    (hx : p.tables.exec = Jvm.exec) (hZ : Z.Warmed39 s.vm) (hw : ∀ d ∈ tables_1, d.before a0 Z = true) (hby : c.code = prog_113_method_2_code) (hml : c.maxLocals = 1) (hown : s.vm.findClass "com/example/orbweave/orbweave/term/NameChars" = some m.cls) (hnm : meth.name = "isPnCharsBase") (hret : meth.sig.returnType = some .boolean) (hlk : meth.locks = false)
    (X0 : Stand p l e ({ frames := 0, cells := 0, slots := 0, locals := 0 } : Room) s m args below meth c T0 locs 0 0) (N0 : Fr n0 locs) (e0 : T0.heap = h0) (i0 : Int32) :
    Done p e below s ({ frames := 0, cells := 0, slots := 0, locals := 0 } : Room) (Qp h0 n0 (.int (F1_122 i0))) T0 (mkF m 122 #[.val (.int i0)] []) := by
  unfold F1_122
  refine Done.of (T' := T0) (g' := (mkF m 126 #[.val (.int i0)] [(.int (11264 : Int32)), (.int i0)])) (fun t k => ?_) ?_
  · show Steps p.tables e below (T0.setTop (mkF m 122 #[.val (.int i0)] [])) t
    refine XS.iloadN X0.here hx rfl (hb hby d1_122) rfl ?_
    show Steps p.tables e below (T0.setTop (mkF m 123 #[.val (.int i0)] [(.int i0)])) t
    refine XS.sipush X0.here hx rfl (hb hby d1_123) ?_
    exact k
  by_cases hc126_0 : i0 < (11264 : Int32)
  · rw [if_pos hc126_0]
    refine Done.of (T' := T0) (g' := (mkF m 136 #[.val (.int i0)] [])) (fun t k => ?_) ?_
    · show Steps p.tables e below (T0.setTop (mkF m 126 #[.val (.int i0)] [(.int (11264 : Int32)), (.int i0)])) t
      refine XS.icmpYes X0.here hx rfl (pc0 := 126) (pc' := 136) rfl (hb hby d1_126) rfl (tlt hc126_0).1 (by decide) (by decide) ?_
      exact k
    exact bk1_136 hx hZ hw hby hml hown hnm hret hlk X0 N0 e0 i0
  · rw [if_neg hc126_0]
    refine Done.of (T' := T0) (g' := (mkF m 133 #[.val (.int i0)] [(.int (12271 : Int32)), (.int i0)])) (fun t k => ?_) ?_
    · show Steps p.tables e below (T0.setTop (mkF m 126 #[.val (.int i0)] [(.int (11264 : Int32)), (.int i0)])) t
      refine XS.icmpNo X0.here hx rfl (hb hby d1_126) rfl (flt hc126_0).1 ?_
      show Steps p.tables e below (T0.setTop (mkF m 129 #[.val (.int i0)] [])) t
      refine XS.iloadN X0.here hx rfl (hb hby d1_129) rfl ?_
      show Steps p.tables e below (T0.setTop (mkF m 130 #[.val (.int i0)] [(.int i0)])) t
      refine XS.sipush X0.here hx rfl (hb hby d1_130) ?_
      exact k
    by_cases hc133_1 : (12271 : Int32) < i0
    · rw [if_pos hc133_1]
      refine Done.of (T' := T0) (g' := (mkF m 136 #[.val (.int i0)] [])) (fun t k => ?_) ?_
      · show Steps p.tables e below (T0.setTop (mkF m 133 #[.val (.int i0)] [(.int (12271 : Int32)), (.int i0)])) t
        refine XS.icmpNo X0.here hx rfl (hb hby d1_133) rfl (tlt hc133_1).2.2.2 ?_
        exact k
      exact bk1_136 hx hZ hw hby hml hown hnm hret hlk X0 N0 e0 i0
    · rw [if_neg hc133_1]
      refine Done.of (T' := T0) (g' := (mkF m 190 #[.val (.int i0)] [(.int (1 : Int32))])) (fun t k => ?_) ?_
      · show Steps p.tables e below (T0.setTop (mkF m 133 #[.val (.int i0)] [(.int (12271 : Int32)), (.int i0)])) t
        refine XS.icmpYes X0.here hx rfl (pc0 := 133) (pc' := 185) rfl (hb hby d1_133) rfl (flt hc133_1).2.2.2 (by decide) (by decide) ?_
        show Steps p.tables e below (T0.setTop (mkF m 185 #[.val (.int i0)] [])) t
        refine XS.iconst X0.here hx rfl (hb hby d1_185) ?_
        show Steps p.tables e below (T0.setTop (mkF m 186 #[.val (.int i0)] [(.int (1 : Int32))])) t
        refine XS.goto X0.here hx rfl (pc0 := 186) (pc' := 190) rfl (hb hby d1_186) (by decide) (by decide) ?_
        exact k
      exact doneN (t := .boolean) X0 (by simp) hx hret hlk (hb hby d1_190) ⟨rfl, N0, e0⟩ (by decide) (by decide)
def F1_108 (i0 : Int32) : Int32 := (if i0 < (8304 : Int32) then (F1_122 i0) else (if (8591 : Int32) < i0 then (F1_122 i0) else (1 : Int32)))
set_option maxRecDepth 65536 in
set_option maxHeartbeats 40000000 in
theorem bk1_108 {p : Program} {l : Launch} {e : Env} {s : State} {m : MethodId} {args : Array Value} {below : List Frame} {meth : Method} {c : Code} {T0 : State} {locs : List Loc} {Z : State} {a0 : Array Value} {h0 : Heap} {n0 : Nat}
    (hx : p.tables.exec = Jvm.exec) (hZ : Z.Warmed39 s.vm) (hw : ∀ d ∈ tables_1, d.before a0 Z = true) (hby : c.code = prog_113_method_2_code) (hml : c.maxLocals = 1) (hown : s.vm.findClass "com/example/orbweave/orbweave/term/NameChars" = some m.cls) (hnm : meth.name = "isPnCharsBase") (hret : meth.sig.returnType = some .boolean) (hlk : meth.locks = false)
    (X0 : Stand p l e ({ frames := 0, cells := 0, slots := 0, locals := 0 } : Room) s m args below meth c T0 locs 0 0) (N0 : Fr n0 locs) (e0 : T0.heap = h0) (i0 : Int32) :
    Done p e below s ({ frames := 0, cells := 0, slots := 0, locals := 0 } : Room) (Qp h0 n0 (.int (F1_108 i0))) T0 (mkF m 108 #[.val (.int i0)] []) := by
  unfold F1_108
  refine Done.of (T' := T0) (g' := (mkF m 112 #[.val (.int i0)] [(.int (8304 : Int32)), (.int i0)])) (fun t k => ?_) ?_
  · show Steps p.tables e below (T0.setTop (mkF m 108 #[.val (.int i0)] [])) t
    refine XS.iloadN X0.here hx rfl (hb hby d1_108) rfl ?_
    show Steps p.tables e below (T0.setTop (mkF m 109 #[.val (.int i0)] [(.int i0)])) t
    refine XS.sipush X0.here hx rfl (hb hby d1_109) ?_
    exact k
  by_cases hc112_0 : i0 < (8304 : Int32)
  · rw [if_pos hc112_0]
    refine Done.of (T' := T0) (g' := (mkF m 122 #[.val (.int i0)] [])) (fun t k => ?_) ?_
    · show Steps p.tables e below (T0.setTop (mkF m 112 #[.val (.int i0)] [(.int (8304 : Int32)), (.int i0)])) t
      refine XS.icmpYes X0.here hx rfl (pc0 := 112) (pc' := 122) rfl (hb hby d1_112) rfl (tlt hc112_0).1 (by decide) (by decide) ?_
      exact k
    exact bk1_122 hx hZ hw hby hml hown hnm hret hlk X0 N0 e0 i0
  · rw [if_neg hc112_0]
    refine Done.of (T' := T0) (g' := (mkF m 119 #[.val (.int i0)] [(.int (8591 : Int32)), (.int i0)])) (fun t k => ?_) ?_
    · show Steps p.tables e below (T0.setTop (mkF m 112 #[.val (.int i0)] [(.int (8304 : Int32)), (.int i0)])) t
      refine XS.icmpNo X0.here hx rfl (hb hby d1_112) rfl (flt hc112_0).1 ?_
      show Steps p.tables e below (T0.setTop (mkF m 115 #[.val (.int i0)] [])) t
      refine XS.iloadN X0.here hx rfl (hb hby d1_115) rfl ?_
      show Steps p.tables e below (T0.setTop (mkF m 116 #[.val (.int i0)] [(.int i0)])) t
      refine XS.sipush X0.here hx rfl (hb hby d1_116) ?_
      exact k
    by_cases hc119_1 : (8591 : Int32) < i0
    · rw [if_pos hc119_1]
      refine Done.of (T' := T0) (g' := (mkF m 122 #[.val (.int i0)] [])) (fun t k => ?_) ?_
      · show Steps p.tables e below (T0.setTop (mkF m 119 #[.val (.int i0)] [(.int (8591 : Int32)), (.int i0)])) t
        refine XS.icmpNo X0.here hx rfl (hb hby d1_119) rfl (tlt hc119_1).2.2.2 ?_
        exact k
      exact bk1_122 hx hZ hw hby hml hown hnm hret hlk X0 N0 e0 i0
    · rw [if_neg hc119_1]
      refine Done.of (T' := T0) (g' := (mkF m 190 #[.val (.int i0)] [(.int (1 : Int32))])) (fun t k => ?_) ?_
      · show Steps p.tables e below (T0.setTop (mkF m 119 #[.val (.int i0)] [(.int (8591 : Int32)), (.int i0)])) t
        refine XS.icmpYes X0.here hx rfl (pc0 := 119) (pc' := 185) rfl (hb hby d1_119) rfl (flt hc119_1).2.2.2 (by decide) (by decide) ?_
        show Steps p.tables e below (T0.setTop (mkF m 185 #[.val (.int i0)] [])) t
        refine XS.iconst X0.here hx rfl (hb hby d1_185) ?_
        show Steps p.tables e below (T0.setTop (mkF m 186 #[.val (.int i0)] [(.int (1 : Int32))])) t
        refine XS.goto X0.here hx rfl (pc0 := 186) (pc' := 190) rfl (hb hby d1_186) (by decide) (by decide) ?_
        exact k
      exact doneN (t := .boolean) X0 (by simp) hx hret hlk (hb hby d1_190) ⟨rfl, N0, e0⟩ (by decide) (by decide)
def F1_94 (i0 : Int32) : Int32 := (if i0 < (8204 : Int32) then (F1_108 i0) else (if (8205 : Int32) < i0 then (F1_108 i0) else (1 : Int32)))
set_option maxRecDepth 65536 in
set_option maxHeartbeats 40000000 in
theorem bk1_94 {p : Program} {l : Launch} {e : Env} {s : State} {m : MethodId} {args : Array Value} {below : List Frame} {meth : Method} {c : Code} {T0 : State} {locs : List Loc} {Z : State} {a0 : Array Value} {h0 : Heap} {n0 : Nat}
    (hx : p.tables.exec = Jvm.exec) (hZ : Z.Warmed39 s.vm) (hw : ∀ d ∈ tables_1, d.before a0 Z = true) (hby : c.code = prog_113_method_2_code) (hml : c.maxLocals = 1) (hown : s.vm.findClass "com/example/orbweave/orbweave/term/NameChars" = some m.cls) (hnm : meth.name = "isPnCharsBase") (hret : meth.sig.returnType = some .boolean) (hlk : meth.locks = false)
    (X0 : Stand p l e ({ frames := 0, cells := 0, slots := 0, locals := 0 } : Room) s m args below meth c T0 locs 0 0) (N0 : Fr n0 locs) (e0 : T0.heap = h0) (i0 : Int32) :
    Done p e below s ({ frames := 0, cells := 0, slots := 0, locals := 0 } : Room) (Qp h0 n0 (.int (F1_94 i0))) T0 (mkF m 94 #[.val (.int i0)] []) := by
  unfold F1_94
  refine Done.of (T' := T0) (g' := (mkF m 98 #[.val (.int i0)] [(.int (8204 : Int32)), (.int i0)])) (fun t k => ?_) ?_
  · show Steps p.tables e below (T0.setTop (mkF m 94 #[.val (.int i0)] [])) t
    refine XS.iloadN X0.here hx rfl (hb hby d1_94) rfl ?_
    show Steps p.tables e below (T0.setTop (mkF m 95 #[.val (.int i0)] [(.int i0)])) t
    refine XS.sipush X0.here hx rfl (hb hby d1_95) ?_
    exact k
  by_cases hc98_0 : i0 < (8204 : Int32)
  · rw [if_pos hc98_0]
    refine Done.of (T' := T0) (g' := (mkF m 108 #[.val (.int i0)] [])) (fun t k => ?_) ?_
    · show Steps p.tables e below (T0.setTop (mkF m 98 #[.val (.int i0)] [(.int (8204 : Int32)), (.int i0)])) t
      refine XS.icmpYes X0.here hx rfl (pc0 := 98) (pc' := 108) rfl (hb hby d1_98) rfl (tlt hc98_0).1 (by decide) (by decide) ?_
      exact k
    exact bk1_108 hx hZ hw hby hml hown hnm hret hlk X0 N0 e0 i0
  · rw [if_neg hc98_0]
    refine Done.of (T' := T0) (g' := (mkF m 105 #[.val (.int i0)] [(.int (8205 : Int32)), (.int i0)])) (fun t k => ?_) ?_
    · show Steps p.tables e below (T0.setTop (mkF m 98 #[.val (.int i0)] [(.int (8204 : Int32)), (.int i0)])) t
      refine XS.icmpNo X0.here hx rfl (hb hby d1_98) rfl (flt hc98_0).1 ?_
      show Steps p.tables e below (T0.setTop (mkF m 101 #[.val (.int i0)] [])) t
      refine XS.iloadN X0.here hx rfl (hb hby d1_101) rfl ?_
      show Steps p.tables e below (T0.setTop (mkF m 102 #[.val (.int i0)] [(.int i0)])) t
      refine XS.sipush X0.here hx rfl (hb hby d1_102) ?_
      exact k
    by_cases hc105_1 : (8205 : Int32) < i0
    · rw [if_pos hc105_1]
      refine Done.of (T' := T0) (g' := (mkF m 108 #[.val (.int i0)] [])) (fun t k => ?_) ?_
      · show Steps p.tables e below (T0.setTop (mkF m 105 #[.val (.int i0)] [(.int (8205 : Int32)), (.int i0)])) t
        refine XS.icmpNo X0.here hx rfl (hb hby d1_105) rfl (tlt hc105_1).2.2.2 ?_
        exact k
      exact bk1_108 hx hZ hw hby hml hown hnm hret hlk X0 N0 e0 i0
    · rw [if_neg hc105_1]
      refine Done.of (T' := T0) (g' := (mkF m 190 #[.val (.int i0)] [(.int (1 : Int32))])) (fun t k => ?_) ?_
      · show Steps p.tables e below (T0.setTop (mkF m 105 #[.val (.int i0)] [(.int (8205 : Int32)), (.int i0)])) t
        refine XS.icmpYes X0.here hx rfl (pc0 := 105) (pc' := 185) rfl (hb hby d1_105) rfl (flt hc105_1).2.2.2 (by decide) (by decide) ?_
        show Steps p.tables e below (T0.setTop (mkF m 185 #[.val (.int i0)] [])) t
        refine XS.iconst X0.here hx rfl (hb hby d1_185) ?_
        show Steps p.tables e below (T0.setTop (mkF m 186 #[.val (.int i0)] [(.int (1 : Int32))])) t
        refine XS.goto X0.here hx rfl (pc0 := 186) (pc' := 190) rfl (hb hby d1_186) (by decide) (by decide) ?_
        exact k
      exact doneN (t := .boolean) X0 (by simp) hx hret hlk (hb hby d1_190) ⟨rfl, N0, e0⟩ (by decide) (by decide)
def F1_80 (i0 : Int32) : Int32 := (if i0 < (895 : Int32) then (F1_94 i0) else (if (8191 : Int32) < i0 then (F1_94 i0) else (1 : Int32)))
set_option maxRecDepth 65536 in
set_option maxHeartbeats 40000000 in
theorem bk1_80 {p : Program} {l : Launch} {e : Env} {s : State} {m : MethodId} {args : Array Value} {below : List Frame} {meth : Method} {c : Code} {T0 : State} {locs : List Loc} {Z : State} {a0 : Array Value} {h0 : Heap} {n0 : Nat}
    (hx : p.tables.exec = Jvm.exec) (hZ : Z.Warmed39 s.vm) (hw : ∀ d ∈ tables_1, d.before a0 Z = true) (hby : c.code = prog_113_method_2_code) (hml : c.maxLocals = 1) (hown : s.vm.findClass "com/example/orbweave/orbweave/term/NameChars" = some m.cls) (hnm : meth.name = "isPnCharsBase") (hret : meth.sig.returnType = some .boolean) (hlk : meth.locks = false)
    (X0 : Stand p l e ({ frames := 0, cells := 0, slots := 0, locals := 0 } : Room) s m args below meth c T0 locs 0 0) (N0 : Fr n0 locs) (e0 : T0.heap = h0) (i0 : Int32) :
    Done p e below s ({ frames := 0, cells := 0, slots := 0, locals := 0 } : Room) (Qp h0 n0 (.int (F1_80 i0))) T0 (mkF m 80 #[.val (.int i0)] []) := by
  unfold F1_80
  refine Done.of (T' := T0) (g' := (mkF m 84 #[.val (.int i0)] [(.int (895 : Int32)), (.int i0)])) (fun t k => ?_) ?_
  · show Steps p.tables e below (T0.setTop (mkF m 80 #[.val (.int i0)] [])) t
    refine XS.iloadN X0.here hx rfl (hb hby d1_80) rfl ?_
    show Steps p.tables e below (T0.setTop (mkF m 81 #[.val (.int i0)] [(.int i0)])) t
    refine XS.sipush X0.here hx rfl (hb hby d1_81) ?_
    exact k
  by_cases hc84_0 : i0 < (895 : Int32)
  · rw [if_pos hc84_0]
    refine Done.of (T' := T0) (g' := (mkF m 94 #[.val (.int i0)] [])) (fun t k => ?_) ?_
    · show Steps p.tables e below (T0.setTop (mkF m 84 #[.val (.int i0)] [(.int (895 : Int32)), (.int i0)])) t
      refine XS.icmpYes X0.here hx rfl (pc0 := 84) (pc' := 94) rfl (hb hby d1_84) rfl (tlt hc84_0).1 (by decide) (by decide) ?_
      exact k
    exact bk1_94 hx hZ hw hby hml hown hnm hret hlk X0 N0 e0 i0
  · rw [if_neg hc84_0]
    refine Done.of (T' := T0) (g' := (mkF m 91 #[.val (.int i0)] [(.int (8191 : Int32)), (.int i0)])) (fun t k => ?_) ?_
    · show Steps p.tables e below (T0.setTop (mkF m 84 #[.val (.int i0)] [(.int (895 : Int32)), (.int i0)])) t
      refine XS.icmpNo X0.here hx rfl (hb hby d1_84) rfl (flt hc84_0).1 ?_
      show Steps p.tables e below (T0.setTop (mkF m 87 #[.val (.int i0)] [])) t
      refine XS.iloadN X0.here hx rfl (hb hby d1_87) rfl ?_
      show Steps p.tables e below (T0.setTop (mkF m 88 #[.val (.int i0)] [(.int i0)])) t
      refine XS.sipush X0.here hx rfl (hb hby d1_88) ?_
      exact k
    by_cases hc91_1 : (8191 : Int32) < i0
    · rw [if_pos hc91_1]
      refine Done.of (T' := T0) (g' := (mkF m 94 #[.val (.int i0)] [])) (fun t k => ?_) ?_
      · show Steps p.tables e below (T0.setTop (mkF m 91 #[.val (.int i0)] [(.int (8191 : Int32)), (.int i0)])) t
        refine XS.icmpNo X0.here hx rfl (hb hby d1_91) rfl (tlt hc91_1).2.2.2 ?_
        exact k
      exact bk1_94 hx hZ hw hby hml hown hnm hret hlk X0 N0 e0 i0
    · rw [if_neg hc91_1]
      refine Done.of (T' := T0) (g' := (mkF m 190 #[.val (.int i0)] [(.int (1 : Int32))])) (fun t k => ?_) ?_
      · show Steps p.tables e below (T0.setTop (mkF m 91 #[.val (.int i0)] [(.int (8191 : Int32)), (.int i0)])) t
        refine XS.icmpYes X0.here hx rfl (pc0 := 91) (pc' := 185) rfl (hb hby d1_91) rfl (flt hc91_1).2.2.2 (by decide) (by decide) ?_
        show Steps p.tables e below (T0.setTop (mkF m 185 #[.val (.int i0)] [])) t
        refine XS.iconst X0.here hx rfl (hb hby d1_185) ?_
        show Steps p.tables e below (T0.setTop (mkF m 186 #[.val (.int i0)] [(.int (1 : Int32))])) t
        refine XS.goto X0.here hx rfl (pc0 := 186) (pc' := 190) rfl (hb hby d1_186) (by decide) (by decide) ?_
        exact k
      exact doneN (t := .boolean) X0 (by simp) hx hret hlk (hb hby d1_190) ⟨rfl, N0, e0⟩ (by decide) (by decide)
def F1_66 (i0 : Int32) : Int32 := (if i0 < (880 : Int32) then (F1_80 i0) else (if (893 : Int32) < i0 then (F1_80 i0) else (1 : Int32)))
set_option maxRecDepth 65536 in
set_option maxHeartbeats 40000000 in
theorem bk1_66 {p : Program} {l : Launch} {e : Env} {s : State} {m : MethodId} {args : Array Value} {below : List Frame} {meth : Method} {c : Code} {T0 : State} {locs : List Loc} {Z : State} {a0 : Array Value} {h0 : Heap} {n0 : Nat}
    (hx : p.tables.exec = Jvm.exec) (hZ : Z.Warmed39 s.vm) (hw : ∀ d ∈ tables_1, d.before a0 Z = true) (hby : c.code = prog_113_method_2_code) (hml : c.maxLocals = 1) (hown : s.vm.findClass "com/example/orbweave/orbweave/term/NameChars" = some m.cls) (hnm : meth.name = "isPnCharsBase") (hret : meth.sig.returnType = some .boolean) (hlk : meth.locks = false)
    (X0 : Stand p l e ({ frames := 0, cells := 0, slots := 0, locals := 0 } : Room) s m args below meth c T0 locs 0 0) (N0 : Fr n0 locs) (e0 : T0.heap = h0) (i0 : Int32) :
    Done p e below s ({ frames := 0, cells := 0, slots := 0, locals := 0 } : Room) (Qp h0 n0 (.int (F1_66 i0))) T0 (mkF m 66 #[.val (.int i0)] []) := by
  unfold F1_66
  refine Done.of (T' := T0) (g' := (mkF m 70 #[.val (.int i0)] [(.int (880 : Int32)), (.int i0)])) (fun t k => ?_) ?_
  · show Steps p.tables e below (T0.setTop (mkF m 66 #[.val (.int i0)] [])) t
    refine XS.iloadN X0.here hx rfl (hb hby d1_66) rfl ?_
    show Steps p.tables e below (T0.setTop (mkF m 67 #[.val (.int i0)] [(.int i0)])) t
    refine XS.sipush X0.here hx rfl (hb hby d1_67) ?_
    exact k
  by_cases hc70_0 : i0 < (880 : Int32)
  · rw [if_pos hc70_0]
    refine Done.of (T' := T0) (g' := (mkF m 80 #[.val (.int i0)] [])) (fun t k => ?_) ?_
    · show Steps p.tables e below (T0.setTop (mkF m 70 #[.val (.int i0)] [(.int (880 : Int32)), (.int i0)])) t
      refine XS.icmpYes X0.here hx rfl (pc0 := 70) (pc' := 80) rfl (hb hby d1_70) rfl (tlt hc70_0).1 (by decide) (by decide) ?_
      exact k
    exact bk1_80 hx hZ hw hby hml hown hnm hret hlk X0 N0 e0 i0
  · rw [if_neg hc70_0]
    refine Done.of (T' := T0) (g' := (mkF m 77 #[.val (.int i0)] [(.int (893 : Int32)), (.int i0)])) (fun t k => ?_) ?_
    · show Steps p.tables e below (T0.setTop (mkF m 70 #[.val (.int i0)] [(.int (880 : Int32)), (.int i0)])) t
      refine XS.icmpNo X0.here hx rfl (hb hby d1_70) rfl (flt hc70_0).1 ?_
      show Steps p.tables e below (T0.setTop (mkF m 73 #[.val (.int i0)] [])) t
      refine XS.iloadN X0.here hx rfl (hb hby d1_73) rfl ?_
      show Steps p.tables e below (T0.setTop (mkF m 74 #[.val (.int i0)] [(.int i0)])) t
      refine XS.sipush X0.here hx rfl (hb hby d1_74) ?_
      exact k
    by_cases hc77_1 : (893 : Int32) < i0
    · rw [if_pos hc77_1]
      refine Done.of (T' := T0) (g' := (mkF m 80 #[.val (.int i0)] [])) (fun t k => ?_) ?_
      · show Steps p.tables e below (T0.setTop (mkF m 77 #[.val (.int i0)] [(.int (893 : Int32)), (.int i0)])) t
        refine XS.icmpNo X0.here hx rfl (hb hby d1_77) rfl (tlt hc77_1).2.2.2 ?_
        exact k
      exact bk1_80 hx hZ hw hby hml hown hnm hret hlk X0 N0 e0 i0
    · rw [if_neg hc77_1]
      refine Done.of (T' := T0) (g' := (mkF m 190 #[.val (.int i0)] [(.int (1 : Int32))])) (fun t k => ?_) ?_
      · show Steps p.tables e below (T0.setTop (mkF m 77 #[.val (.int i0)] [(.int (893 : Int32)), (.int i0)])) t
        refine XS.icmpYes X0.here hx rfl (pc0 := 77) (pc' := 185) rfl (hb hby d1_77) rfl (flt hc77_1).2.2.2 (by decide) (by decide) ?_
        show Steps p.tables e below (T0.setTop (mkF m 185 #[.val (.int i0)] [])) t
        refine XS.iconst X0.here hx rfl (hb hby d1_185) ?_
        show Steps p.tables e below (T0.setTop (mkF m 186 #[.val (.int i0)] [(.int (1 : Int32))])) t
        refine XS.goto X0.here hx rfl (pc0 := 186) (pc' := 190) rfl (hb hby d1_186) (by decide) (by decide) ?_
        exact k
      exact doneN (t := .boolean) X0 (by simp) hx hret hlk (hb hby d1_190) ⟨rfl, N0, e0⟩ (by decide) (by decide)
def F1_52 (i0 : Int32) : Int32 := (if i0 < (248 : Int32) then (F1_66 i0) else (if (767 : Int32) < i0 then (F1_66 i0) else (1 : Int32)))
set_option maxRecDepth 65536 in
set_option maxHeartbeats 40000000 in
theorem bk1_52 {p : Program} {l : Launch} {e : Env} {s : State} {m : MethodId} {args : Array Value} {below : List Frame} {meth : Method} {c : Code} {T0 : State} {locs : List Loc} {Z : State} {a0 : Array Value} {h0 : Heap} {n0 : Nat}
    (hx : p.tables.exec = Jvm.exec) (hZ : Z.Warmed39 s.vm) (hw : ∀ d ∈ tables_1, d.before a0 Z = true) (hby : c.code = prog_113_method_2_code) (hml : c.maxLocals = 1) (hown : s.vm.findClass "com/example/orbweave/orbweave/term/NameChars" = some m.cls) (hnm : meth.name = "isPnCharsBase") (hret : meth.sig.returnType = some .boolean) (hlk : meth.locks = false)
    (X0 : Stand p l e ({ frames := 0, cells := 0, slots := 0, locals := 0 } : Room) s m args below meth c T0 locs 0 0) (N0 : Fr n0 locs) (e0 : T0.heap = h0) (i0 : Int32) :
    Done p e below s ({ frames := 0, cells := 0, slots := 0, locals := 0 } : Room) (Qp h0 n0 (.int (F1_52 i0))) T0 (mkF m 52 #[.val (.int i0)] []) := by
  unfold F1_52
  refine Done.of (T' := T0) (g' := (mkF m 56 #[.val (.int i0)] [(.int (248 : Int32)), (.int i0)])) (fun t k => ?_) ?_
  · show Steps p.tables e below (T0.setTop (mkF m 52 #[.val (.int i0)] [])) t
    refine XS.iloadN X0.here hx rfl (hb hby d1_52) rfl ?_
    show Steps p.tables e below (T0.setTop (mkF m 53 #[.val (.int i0)] [(.int i0)])) t
    refine XS.sipush X0.here hx rfl (hb hby d1_53) ?_
    exact k
  by_cases hc56_0 : i0 < (248 : Int32)
  · rw [if_pos hc56_0]
    refine Done.of (T' := T0) (g' := (mkF m 66 #[.val (.int i0)] [])) (fun t k => ?_) ?_
    · show Steps p.tables e below (T0.setTop (mkF m 56 #[.val (.int i0)] [(.int (248 : Int32)), (.int i0)])) t
      refine XS.icmpYes X0.here hx rfl (pc0 := 56) (pc' := 66) rfl (hb hby d1_56) rfl (tlt hc56_0).1 (by decide) (by decide) ?_
      exact k
    exact bk1_66 hx hZ hw hby hml hown hnm hret hlk X0 N0 e0 i0
  · rw [if_neg hc56_0]
    refine Done.of (T' := T0) (g' := (mkF m 63 #[.val (.int i0)] [(.int (767 : Int32)), (.int i0)])) (fun t k => ?_) ?_
    · show Steps p.tables e below (T0.setTop (mkF m 56 #[.val (.int i0)] [(.int (248 : Int32)), (.int i0)])) t
      refine XS.icmpNo X0.here hx rfl (hb hby d1_56) rfl (flt hc56_0).1 ?_
      show Steps p.tables e below (T0.setTop (mkF m 59 #[.val (.int i0)] [])) t
      refine XS.iloadN X0.here hx rfl (hb hby d1_59) rfl ?_
      show Steps p.tables e below (T0.setTop (mkF m 60 #[.val (.int i0)] [(.int i0)])) t
      refine XS.sipush X0.here hx rfl (hb hby d1_60) ?_
      exact k
    by_cases hc63_1 : (767 : Int32) < i0
    · rw [if_pos hc63_1]
      refine Done.of (T' := T0) (g' := (mkF m 66 #[.val (.int i0)] [])) (fun t k => ?_) ?_
      · show Steps p.tables e below (T0.setTop (mkF m 63 #[.val (.int i0)] [(.int (767 : Int32)), (.int i0)])) t
        refine XS.icmpNo X0.here hx rfl (hb hby d1_63) rfl (tlt hc63_1).2.2.2 ?_
        exact k
      exact bk1_66 hx hZ hw hby hml hown hnm hret hlk X0 N0 e0 i0
    · rw [if_neg hc63_1]
      refine Done.of (T' := T0) (g' := (mkF m 190 #[.val (.int i0)] [(.int (1 : Int32))])) (fun t k => ?_) ?_
      · show Steps p.tables e below (T0.setTop (mkF m 63 #[.val (.int i0)] [(.int (767 : Int32)), (.int i0)])) t
        refine XS.icmpYes X0.here hx rfl (pc0 := 63) (pc' := 185) rfl (hb hby d1_63) rfl (flt hc63_1).2.2.2 (by decide) (by decide) ?_
        show Steps p.tables e below (T0.setTop (mkF m 185 #[.val (.int i0)] [])) t
        refine XS.iconst X0.here hx rfl (hb hby d1_185) ?_
        show Steps p.tables e below (T0.setTop (mkF m 186 #[.val (.int i0)] [(.int (1 : Int32))])) t
        refine XS.goto X0.here hx rfl (pc0 := 186) (pc' := 190) rfl (hb hby d1_186) (by decide) (by decide) ?_
        exact k
      exact doneN (t := .boolean) X0 (by simp) hx hret hlk (hb hby d1_190) ⟨rfl, N0, e0⟩ (by decide) (by decide)
def F1_38 (i0 : Int32) : Int32 := (if i0 < (216 : Int32) then (F1_52 i0) else (if (246 : Int32) < i0 then (F1_52 i0) else (1 : Int32)))
set_option maxRecDepth 65536 in
set_option maxHeartbeats 40000000 in
theorem bk1_38 {p : Program} {l : Launch} {e : Env} {s : State} {m : MethodId} {args : Array Value} {below : List Frame} {meth : Method} {c : Code} {T0 : State} {locs : List Loc} {Z : State} {a0 : Array Value} {h0 : Heap} {n0 : Nat}
    (hx : p.tables.exec = Jvm.exec) (hZ : Z.Warmed39 s.vm) (hw : ∀ d ∈ tables_1, d.before a0 Z = true) (hby : c.code = prog_113_method_2_code) (hml : c.maxLocals = 1) (hown : s.vm.findClass "com/example/orbweave/orbweave/term/NameChars" = some m.cls) (hnm : meth.name = "isPnCharsBase") (hret : meth.sig.returnType = some .boolean) (hlk : meth.locks = false)
    (X0 : Stand p l e ({ frames := 0, cells := 0, slots := 0, locals := 0 } : Room) s m args below meth c T0 locs 0 0) (N0 : Fr n0 locs) (e0 : T0.heap = h0) (i0 : Int32) :
    Done p e below s ({ frames := 0, cells := 0, slots := 0, locals := 0 } : Room) (Qp h0 n0 (.int (F1_38 i0))) T0 (mkF m 38 #[.val (.int i0)] []) := by
  unfold F1_38
  refine Done.of (T' := T0) (g' := (mkF m 42 #[.val (.int i0)] [(.int (216 : Int32)), (.int i0)])) (fun t k => ?_) ?_
  · show Steps p.tables e below (T0.setTop (mkF m 38 #[.val (.int i0)] [])) t
    refine XS.iloadN X0.here hx rfl (hb hby d1_38) rfl ?_
    show Steps p.tables e below (T0.setTop (mkF m 39 #[.val (.int i0)] [(.int i0)])) t
    refine XS.sipush X0.here hx rfl (hb hby d1_39) ?_
    exact k
  by_cases hc42_0 : i0 < (216 : Int32)
  · rw [if_pos hc42_0]
    refine Done.of (T' := T0) (g' := (mkF m 52 #[.val (.int i0)] [])) (fun t k => ?_) ?_
    · show Steps p.tables e below (T0.setTop (mkF m 42 #[.val (.int i0)] [(.int (216 : Int32)), (.int i0)])) t
      refine XS.icmpYes X0.here hx rfl (pc0 := 42) (pc' := 52) rfl (hb hby d1_42) rfl (tlt hc42_0).1 (by decide) (by decide) ?_
      exact k
    exact bk1_52 hx hZ hw hby hml hown hnm hret hlk X0 N0 e0 i0
  · rw [if_neg hc42_0]
    refine Done.of (T' := T0) (g' := (mkF m 49 #[.val (.int i0)] [(.int (246 : Int32)), (.int i0)])) (fun t k => ?_) ?_
    · show Steps p.tables e below (T0.setTop (mkF m 42 #[.val (.int i0)] [(.int (216 : Int32)), (.int i0)])) t
      refine XS.icmpNo X0.here hx rfl (hb hby d1_42) rfl (flt hc42_0).1 ?_
      show Steps p.tables e below (T0.setTop (mkF m 45 #[.val (.int i0)] [])) t
      refine XS.iloadN X0.here hx rfl (hb hby d1_45) rfl ?_
      show Steps p.tables e below (T0.setTop (mkF m 46 #[.val (.int i0)] [(.int i0)])) t
      refine XS.sipush X0.here hx rfl (hb hby d1_46) ?_
      exact k
    by_cases hc49_1 : (246 : Int32) < i0
    · rw [if_pos hc49_1]
      refine Done.of (T' := T0) (g' := (mkF m 52 #[.val (.int i0)] [])) (fun t k => ?_) ?_
      · show Steps p.tables e below (T0.setTop (mkF m 49 #[.val (.int i0)] [(.int (246 : Int32)), (.int i0)])) t
        refine XS.icmpNo X0.here hx rfl (hb hby d1_49) rfl (tlt hc49_1).2.2.2 ?_
        exact k
      exact bk1_52 hx hZ hw hby hml hown hnm hret hlk X0 N0 e0 i0
    · rw [if_neg hc49_1]
      refine Done.of (T' := T0) (g' := (mkF m 190 #[.val (.int i0)] [(.int (1 : Int32))])) (fun t k => ?_) ?_
      · show Steps p.tables e below (T0.setTop (mkF m 49 #[.val (.int i0)] [(.int (246 : Int32)), (.int i0)])) t
        refine XS.icmpYes X0.here hx rfl (pc0 := 49) (pc' := 185) rfl (hb hby d1_49) rfl (flt hc49_1).2.2.2 (by decide) (by decide) ?_
        show Steps p.tables e below (T0.setTop (mkF m 185 #[.val (.int i0)] [])) t
        refine XS.iconst X0.here hx rfl (hb hby d1_185) ?_
        show Steps p.tables e below (T0.setTop (mkF m 186 #[.val (.int i0)] [(.int (1 : Int32))])) t
        refine XS.goto X0.here hx rfl (pc0 := 186) (pc' := 190) rfl (hb hby d1_186) (by decide) (by decide) ?_
        exact k
      exact doneN (t := .boolean) X0 (by simp) hx hret hlk (hb hby d1_190) ⟨rfl, N0, e0⟩ (by decide) (by decide)
def F1_24 (i0 : Int32) : Int32 := (if i0 < (192 : Int32) then (F1_38 i0) else (if (214 : Int32) < i0 then (F1_38 i0) else (1 : Int32)))
set_option maxRecDepth 65536 in
set_option maxHeartbeats 40000000 in
theorem bk1_24 {p : Program} {l : Launch} {e : Env} {s : State} {m : MethodId} {args : Array Value} {below : List Frame} {meth : Method} {c : Code} {T0 : State} {locs : List Loc} {Z : State} {a0 : Array Value} {h0 : Heap} {n0 : Nat}
    (hx : p.tables.exec = Jvm.exec) (hZ : Z.Warmed39 s.vm) (hw : ∀ d ∈ tables_1, d.before a0 Z = true) (hby : c.code = prog_113_method_2_code) (hml : c.maxLocals = 1) (hown : s.vm.findClass "com/example/orbweave/orbweave/term/NameChars" = some m.cls) (hnm : meth.name = "isPnCharsBase") (hret : meth.sig.returnType = some .boolean) (hlk : meth.locks = false)
    (X0 : Stand p l e ({ frames := 0, cells := 0, slots := 0, locals := 0 } : Room) s m args below meth c T0 locs 0 0) (N0 : Fr n0 locs) (e0 : T0.heap = h0) (i0 : Int32) :
    Done p e below s ({ frames := 0, cells := 0, slots := 0, locals := 0 } : Room) (Qp h0 n0 (.int (F1_24 i0))) T0 (mkF m 24 #[.val (.int i0)] []) := by
  unfold F1_24
  refine Done.of (T' := T0) (g' := (mkF m 28 #[.val (.int i0)] [(.int (192 : Int32)), (.int i0)])) (fun t k => ?_) ?_
  · show Steps p.tables e below (T0.setTop (mkF m 24 #[.val (.int i0)] [])) t
    refine XS.iloadN X0.here hx rfl (hb hby d1_24) rfl ?_
    show Steps p.tables e below (T0.setTop (mkF m 25 #[.val (.int i0)] [(.int i0)])) t
    refine XS.sipush X0.here hx rfl (hb hby d1_25) ?_
    exact k
  by_cases hc28_0 : i0 < (192 : Int32)
  · rw [if_pos hc28_0]
    refine Done.of (T' := T0) (g' := (mkF m 38 #[.val (.int i0)] [])) (fun t k => ?_) ?_
    · show Steps p.tables e below (T0.setTop (mkF m 28 #[.val (.int i0)] [(.int (192 : Int32)), (.int i0)])) t
      refine XS.icmpYes X0.here hx rfl (pc0 := 28) (pc' := 38) rfl (hb hby d1_28) rfl (tlt hc28_0).1 (by decide) (by decide) ?_
      exact k
    exact bk1_38 hx hZ hw hby hml hown hnm hret hlk X0 N0 e0 i0
  · rw [if_neg hc28_0]
    refine Done.of (T' := T0) (g' := (mkF m 35 #[.val (.int i0)] [(.int (214 : Int32)), (.int i0)])) (fun t k => ?_) ?_
    · show Steps p.tables e below (T0.setTop (mkF m 28 #[.val (.int i0)] [(.int (192 : Int32)), (.int i0)])) t
      refine XS.icmpNo X0.here hx rfl (hb hby d1_28) rfl (flt hc28_0).1 ?_
      show Steps p.tables e below (T0.setTop (mkF m 31 #[.val (.int i0)] [])) t
      refine XS.iloadN X0.here hx rfl (hb hby d1_31) rfl ?_
      show Steps p.tables e below (T0.setTop (mkF m 32 #[.val (.int i0)] [(.int i0)])) t
      refine XS.sipush X0.here hx rfl (hb hby d1_32) ?_
      exact k
    by_cases hc35_1 : (214 : Int32) < i0
    · rw [if_pos hc35_1]
      refine Done.of (T' := T0) (g' := (mkF m 38 #[.val (.int i0)] [])) (fun t k => ?_) ?_
      · show Steps p.tables e below (T0.setTop (mkF m 35 #[.val (.int i0)] [(.int (214 : Int32)), (.int i0)])) t
        refine XS.icmpNo X0.here hx rfl (hb hby d1_35) rfl (tlt hc35_1).2.2.2 ?_
        exact k
      exact bk1_38 hx hZ hw hby hml hown hnm hret hlk X0 N0 e0 i0
    · rw [if_neg hc35_1]
      refine Done.of (T' := T0) (g' := (mkF m 190 #[.val (.int i0)] [(.int (1 : Int32))])) (fun t k => ?_) ?_
      · show Steps p.tables e below (T0.setTop (mkF m 35 #[.val (.int i0)] [(.int (214 : Int32)), (.int i0)])) t
        refine XS.icmpYes X0.here hx rfl (pc0 := 35) (pc' := 185) rfl (hb hby d1_35) rfl (flt hc35_1).2.2.2 (by decide) (by decide) ?_
        show Steps p.tables e below (T0.setTop (mkF m 185 #[.val (.int i0)] [])) t
        refine XS.iconst X0.here hx rfl (hb hby d1_185) ?_
        show Steps p.tables e below (T0.setTop (mkF m 186 #[.val (.int i0)] [(.int (1 : Int32))])) t
        refine XS.goto X0.here hx rfl (pc0 := 186) (pc' := 190) rfl (hb hby d1_186) (by decide) (by decide) ?_
        exact k
      exact doneN (t := .boolean) X0 (by simp) hx hret hlk (hb hby d1_190) ⟨rfl, N0, e0⟩ (by decide) (by decide)
def F1_12 (i0 : Int32) : Int32 := (if i0 < (97 : Int32) then (F1_24 i0) else (if (122 : Int32) < i0 then (F1_24 i0) else (1 : Int32)))
set_option maxRecDepth 65536 in
set_option maxHeartbeats 40000000 in
theorem bk1_12 {p : Program} {l : Launch} {e : Env} {s : State} {m : MethodId} {args : Array Value} {below : List Frame} {meth : Method} {c : Code} {T0 : State} {locs : List Loc} {Z : State} {a0 : Array Value} {h0 : Heap} {n0 : Nat}
    (hx : p.tables.exec = Jvm.exec) (hZ : Z.Warmed39 s.vm) (hw : ∀ d ∈ tables_1, d.before a0 Z = true) (hby : c.code = prog_113_method_2_code) (hml : c.maxLocals = 1) (hown : s.vm.findClass "com/example/orbweave/orbweave/term/NameChars" = some m.cls) (hnm : meth.name = "isPnCharsBase") (hret : meth.sig.returnType = some .boolean) (hlk : meth.locks = false)
    (X0 : Stand p l e ({ frames := 0, cells := 0, slots := 0, locals := 0 } : Room) s m args below meth c T0 locs 0 0) (N0 : Fr n0 locs) (e0 : T0.heap = h0) (i0 : Int32) :
    Done p e below s ({ frames := 0, cells := 0, slots := 0, locals := 0 } : Room) (Qp h0 n0 (.int (F1_12 i0))) T0 (mkF m 12 #[.val (.int i0)] []) := by
  unfold F1_12
  refine Done.of (T' := T0) (g' := (mkF m 15 #[.val (.int i0)] [(.int (97 : Int32)), (.int i0)])) (fun t k => ?_) ?_
  · show Steps p.tables e below (T0.setTop (mkF m 12 #[.val (.int i0)] [])) t
    refine XS.iloadN X0.here hx rfl (hb hby d1_12) rfl ?_
    show Steps p.tables e below (T0.setTop (mkF m 13 #[.val (.int i0)] [(.int i0)])) t
    refine XS.bipush X0.here hx rfl (hb hby d1_13) ?_
    exact k
  by_cases hc15_0 : i0 < (97 : Int32)
  · rw [if_pos hc15_0]
    refine Done.of (T' := T0) (g' := (mkF m 24 #[.val (.int i0)] [])) (fun t k => ?_) ?_
    · show Steps p.tables e below (T0.setTop (mkF m 15 #[.val (.int i0)] [(.int (97 : Int32)), (.int i0)])) t
      refine XS.icmpYes X0.here hx rfl (pc0 := 15) (pc' := 24) rfl (hb hby d1_15) rfl (tlt hc15_0).1 (by decide) (by decide) ?_
      exact k
    exact bk1_24 hx hZ hw hby hml hown hnm hret hlk X0 N0 e0 i0
  · rw [if_neg hc15_0]
    refine Done.of (T' := T0) (g' := (mkF m 21 #[.val (.int i0)] [(.int (122 : Int32)), (.int i0)])) (fun t k => ?_) ?_
    · show Steps p.tables e below (T0.setTop (mkF m 15 #[.val (.int i0)] [(.int (97 : Int32)), (.int i0)])) t
      refine XS.icmpNo X0.here hx rfl (hb hby d1_15) rfl (flt hc15_0).1 ?_
      show Steps p.tables e below (T0.setTop (mkF m 18 #[.val (.int i0)] [])) t
      refine XS.iloadN X0.here hx rfl (hb hby d1_18) rfl ?_
      show Steps p.tables e below (T0.setTop (mkF m 19 #[.val (.int i0)] [(.int i0)])) t
      refine XS.bipush X0.here hx rfl (hb hby d1_19) ?_
      exact k
    by_cases hc21_1 : (122 : Int32) < i0
    · rw [if_pos hc21_1]
      refine Done.of (T' := T0) (g' := (mkF m 24 #[.val (.int i0)] [])) (fun t k => ?_) ?_
      · show Steps p.tables e below (T0.setTop (mkF m 21 #[.val (.int i0)] [(.int (122 : Int32)), (.int i0)])) t
        refine XS.icmpNo X0.here hx rfl (hb hby d1_21) rfl (tlt hc21_1).2.2.2 ?_
        exact k
      exact bk1_24 hx hZ hw hby hml hown hnm hret hlk X0 N0 e0 i0
    · rw [if_neg hc21_1]
      refine Done.of (T' := T0) (g' := (mkF m 190 #[.val (.int i0)] [(.int (1 : Int32))])) (fun t k => ?_) ?_
      · show Steps p.tables e below (T0.setTop (mkF m 21 #[.val (.int i0)] [(.int (122 : Int32)), (.int i0)])) t
        refine XS.icmpYes X0.here hx rfl (pc0 := 21) (pc' := 185) rfl (hb hby d1_21) rfl (flt hc21_1).2.2.2 (by decide) (by decide) ?_
        show Steps p.tables e below (T0.setTop (mkF m 185 #[.val (.int i0)] [])) t
        refine XS.iconst X0.here hx rfl (hb hby d1_185) ?_
        show Steps p.tables e below (T0.setTop (mkF m 186 #[.val (.int i0)] [(.int (1 : Int32))])) t
        refine XS.goto X0.here hx rfl (pc0 := 186) (pc' := 190) rfl (hb hby d1_186) (by decide) (by decide) ?_
        exact k
      exact doneN (t := .boolean) X0 (by simp) hx hret hlk (hb hby d1_190) ⟨rfl, N0, e0⟩ (by decide) (by decide)
def F1_0 (p1 : Int32) : Int32 := (if p1 < (65 : Int32) then (F1_12 p1) else (if (90 : Int32) < p1 then (F1_12 p1) else (1 : Int32)))
set_option maxRecDepth 65536 in
set_option maxHeartbeats 40000000 in
theorem bk1_0 {p : Program} {l : Launch} {e : Env} {s : State} {m : MethodId} {args : Array Value} {below : List Frame} {meth : Method} {c : Code} {T0 : State} {locs : List Loc} {Z : State} {a0 : Array Value} {h0 : Heap} {n0 : Nat}
    (hx : p.tables.exec = Jvm.exec) (hZ : Z.Warmed39 s.vm) (hw : ∀ d ∈ tables_1, d.before a0 Z = true) (hby : c.code = prog_113_method_2_code) (hml : c.maxLocals = 1) (hown : s.vm.findClass "com/example/orbweave/orbweave/term/NameChars" = some m.cls) (hnm : meth.name = "isPnCharsBase") (hret : meth.sig.returnType = some .boolean) (hlk : meth.locks = false)
    (X0 : Stand p l e ({ frames := 0, cells := 0, slots := 0, locals := 0 } : Room) s m args below meth c T0 locs 0 0) (N0 : Fr n0 locs) (e0 : T0.heap = h0) (p1 : Int32) :
    Done p e below s ({ frames := 0, cells := 0, slots := 0, locals := 0 } : Room) (Qp h0 n0 (.int (F1_0 p1))) T0 (mkF m 0 #[.val (.int p1)] []) := by
  unfold F1_0
  refine Done.of (T' := T0) (g' := (mkF m 3 #[.val (.int p1)] [(.int (65 : Int32)), (.int p1)])) (fun t k => ?_) ?_
  · show Steps p.tables e below (T0.setTop (mkF m 0 #[.val (.int p1)] [])) t
    refine XS.iloadN X0.here hx rfl (hb hby d1_0) rfl ?_
    show Steps p.tables e below (T0.setTop (mkF m 1 #[.val (.int p1)] [(.int p1)])) t
    refine XS.bipush X0.here hx rfl (hb hby d1_1) ?_
    exact k
  by_cases hc3_0 : p1 < (65 : Int32)
  · rw [if_pos hc3_0]
    refine Done.of (T' := T0) (g' := (mkF m 12 #[.val (.int p1)] [])) (fun t k => ?_) ?_
    · show Steps p.tables e below (T0.setTop (mkF m 3 #[.val (.int p1)] [(.int (65 : Int32)), (.int p1)])) t
      refine XS.icmpYes X0.here hx rfl (pc0 := 3) (pc' := 12) rfl (hb hby d1_3) rfl (tlt hc3_0).1 (by decide) (by decide) ?_
      exact k
    exact bk1_12 hx hZ hw hby hml hown hnm hret hlk X0 N0 e0 p1
  · rw [if_neg hc3_0]
    refine Done.of (T' := T0) (g' := (mkF m 9 #[.val (.int p1)] [(.int (90 : Int32)), (.int p1)])) (fun t k => ?_) ?_
    · show Steps p.tables e below (T0.setTop (mkF m 3 #[.val (.int p1)] [(.int (65 : Int32)), (.int p1)])) t
      refine XS.icmpNo X0.here hx rfl (hb hby d1_3) rfl (flt hc3_0).1 ?_
      show Steps p.tables e below (T0.setTop (mkF m 6 #[.val (.int p1)] [])) t
      refine XS.iloadN X0.here hx rfl (hb hby d1_6) rfl ?_
      show Steps p.tables e below (T0.setTop (mkF m 7 #[.val (.int p1)] [(.int p1)])) t
      refine XS.bipush X0.here hx rfl (hb hby d1_7) ?_
      exact k
    by_cases hc9_1 : (90 : Int32) < p1
    · rw [if_pos hc9_1]
      refine Done.of (T' := T0) (g' := (mkF m 12 #[.val (.int p1)] [])) (fun t k => ?_) ?_
      · show Steps p.tables e below (T0.setTop (mkF m 9 #[.val (.int p1)] [(.int (90 : Int32)), (.int p1)])) t
        refine XS.icmpNo X0.here hx rfl (hb hby d1_9) rfl (tlt hc9_1).2.2.2 ?_
        exact k
      exact bk1_12 hx hZ hw hby hml hown hnm hret hlk X0 N0 e0 p1
    · rw [if_neg hc9_1]
      refine Done.of (T' := T0) (g' := (mkF m 190 #[.val (.int p1)] [(.int (1 : Int32))])) (fun t k => ?_) ?_
      · show Steps p.tables e below (T0.setTop (mkF m 9 #[.val (.int p1)] [(.int (90 : Int32)), (.int p1)])) t
        refine XS.icmpYes X0.here hx rfl (pc0 := 9) (pc' := 185) rfl (hb hby d1_9) rfl (flt hc9_1).2.2.2 (by decide) (by decide) ?_
        show Steps p.tables e below (T0.setTop (mkF m 185 #[.val (.int p1)] [])) t
        refine XS.iconst X0.here hx rfl (hb hby d1_185) ?_
        show Steps p.tables e below (T0.setTop (mkF m 186 #[.val (.int p1)] [(.int (1 : Int32))])) t
        refine XS.goto X0.here hx rfl (pc0 := 186) (pc' := 190) rfl (hb hby d1_186) (by decide) (by decide) ?_
        exact k
      exact doneN (t := .boolean) X0 (by simp) hx hret hlk (hb hby d1_190) ⟨rfl, N0, e0⟩ (by decide) (by decide)
theorem ef_1 (m : MethodId) (p1 : Int32) : entryFrame m #[(.int p1)] 1 = mkF m 0 #[.val (.int p1)] [] := by first | (simp [entryFrame, mkF, argsToLocals, Value.category, maxLocals]; done) | rfl
theorem pn_1 : plainName "com/example/orbweave/orbweave/term/NameChars" = true := by first | (simp [plainName, overriddenIn]; done) | decide +kernel
set_option maxRecDepth 65536 in
set_option maxHeartbeats 40000000 in
theorem rm1 (l : Launch) (Z : State) (a0 : Array Value) (hw : ∀ d ∈ tables_1, d.before a0 Z = true) (ws : List Jvm.Cond) (p1 : Int32) (h0 : Heap) (n0 : Nat) :
    MetFree l (⟨"com/example/orbweave/orbweave/term/NameChars", "isPnCharsBase", "(I)Z"⟩ : MethodName) (head1 (Jvm.Cond.code (⟨"com/example/orbweave/orbweave/term/NameChars", "isPnCharsBase", "(I)Z"⟩ : MethodName) prog_113_method_2_code 1 (some .boolean) :: ws) ({ frames := 0, cells := 0, slots := 0, locals := 0 } : Room)) (fun a U => a = #[(.int p1)] ∧ Z.Warmed39 U.vm ∧ U.heap = h0) (fun _ _ _ _ _ => True) (fun _ U o U' => ∃ v L, o = .returned v ∧ (Qp h0 n0 (.int (F1_0 p1))) v U'.heap L ∧ FrameEnd U o U' L ({ frames := 0, cells := 0, slots := 0, locals := 0 } : Room).cells ({ frames := 0, cells := 0, slots := 0, locals := 0 } : Room).slots) := by
  refine MetFree.of_bodySF (plainFor_of_name pn_1) hisR ?_
  intro p e s m args below meth c s₁ Bd hml0 hP hK
  obtain ⟨rfl, hZ, hh⟩ := hP
  have hown : s.vm.findClass "com/example/orbweave/orbweave/term/NameChars" = some m.cls := findClass_of_methodNamed Bd.named
  have hnm := (name_of_methodNamed Bd.named Bd.method).1
  have X0 : Stand p l e ({ frames := 0, cells := 0, slots := 0, locals := 0 } : Room) s m #[(.int p1)] below meth c s₁ [] 0 0 := Stand.of_body Bd
  have e0 : s₁.heap = h0 := by rw [← hh, Bd.state]; rfl
  have d := bk1_0 (n0 := n0) Bd.exec hZ hw Bd.bytes hml0 hown hnm Bd.returns (BodyLoose.notSynchronized Bd) X0 (Fr.nil n0) e0 p1
  have d2 : Done p e below s ({ frames := 0, cells := 0, slots := 0, locals := 0 } : Room) (Qp h0 n0 (.int (F1_0 p1))) s₁ (entryFrame m #[(.int p1)] 1) := by rw [ef_1]; exact d
  exact d2
theorem d2_0 : decode method_2_code 0 = .ok (.iload_n 0, 1) := by decide +kernel
theorem d2_1 : decode method_2_code 1 = .ok (.bipush 65, 2) := by decide +kernel
theorem d2_3 : decode method_2_code 3 = .ok (.if_icmp .lt 9, 3) := by decide +kernel
theorem d2_6 : decode method_2_code 6 = .ok (.iload_n 0, 1) := by decide +kernel
theorem d2_7 : decode method_2_code 7 = .ok (.ldc 7, 2) := by decide +kernel
theorem d2_9 : decode method_2_code 9 = .ok (.if_icmp .le 5, 3) := by decide +kernel
theorem d2_12 : decode method_2_code 12 = .ok (.iconst 0, 1) := by decide +kernel
theorem d2_13 : decode method_2_code 13 = .ok (.ireturn, 1) := by decide +kernel
theorem d2_14 : decode method_2_code 14 = .ok (.iload_n 0, 1) := by decide +kernel
theorem d2_15 : decode method_2_code 15 = .ok (.bipush 91, 2) := by decide +kernel
theorem d2_17 : decode method_2_code 17 = .ok (.if_icmp .lt 11, 3) := by decide +kernel
theorem d2_20 : decode method_2_code 20 = .ok (.iload_n 0, 1) := by decide +kernel
theorem d2_21 : decode method_2_code 21 = .ok (.bipush 96, 2) := by decide +kernel
theorem d2_23 : decode method_2_code 23 = .ok (.if_icmp .gt 5, 3) := by decide +kernel
theorem d2_26 : decode method_2_code 26 = .ok (.iconst 0, 1) := by decide +kernel
theorem d2_27 : decode method_2_code 27 = .ok (.ireturn, 1) := by decide +kernel
theorem d2_28 : decode method_2_code 28 = .ok (.iload_n 0, 1) := by decide +kernel
theorem d2_29 : decode method_2_code 29 = .ok (.bipush 123, 2) := by decide +kernel
theorem d2_31 : decode method_2_code 31 = .ok (.if_icmp .lt 12, 3) := by decide +kernel
theorem d2_34 : decode method_2_code 34 = .ok (.iload_n 0, 1) := by decide +kernel
theorem d2_35 : decode method_2_code 35 = .ok (.sipush 191, 3) := by decide +kernel
theorem d2_38 : decode method_2_code 38 = .ok (.if_icmp .gt 5, 3) := by decide +kernel
theorem d2_41 : decode method_2_code 41 = .ok (.iconst 0, 1) := by decide +kernel
theorem d2_42 : decode method_2_code 42 = .ok (.ireturn, 1) := by decide +kernel
theorem d2_43 : decode method_2_code 43 = .ok (.iload_n 0, 1) := by decide +kernel
theorem d2_44 : decode method_2_code 44 = .ok (.sipush 215, 3) := by decide +kernel
theorem d2_47 : decode method_2_code 47 = .ok (.if_icmp .eq 10, 3) := by decide +kernel
theorem d2_50 : decode method_2_code 50 = .ok (.iload_n 0, 1) := by decide +kernel
theorem d2_51 : decode method_2_code 51 = .ok (.sipush 247, 3) := by decide +kernel
theorem d2_54 : decode method_2_code 54 = .ok (.if_icmp .ne 5, 3) := by decide +kernel
theorem d2_57 : decode method_2_code 57 = .ok (.iconst 0, 1) := by decide +kernel
theorem d2_58 : decode method_2_code 58 = .ok (.ireturn, 1) := by decide +kernel
theorem d2_59 : decode method_2_code 59 = .ok (.iload_n 0, 1) := by decide +kernel
theorem d2_60 : decode method_2_code 60 = .ok (.sipush 768, 3) := by decide +kernel
theorem d2_63 : decode method_2_code 63 = .ok (.if_icmp .lt 12, 3) := by decide +kernel
theorem d2_66 : decode method_2_code 66 = .ok (.iload_n 0, 1) := by decide +kernel
theorem d2_67 : decode method_2_code 67 = .ok (.sipush 879, 3) := by decide +kernel
theorem d2_70 : decode method_2_code 70 = .ok (.if_icmp .gt 5, 3) := by decide +kernel
theorem d2_73 : decode method_2_code 73 = .ok (.iconst 0, 1) := by decide +kernel
theorem d2_74 : decode method_2_code 74 = .ok (.ireturn, 1) := by decide +kernel
theorem d2_75 : decode method_2_code 75 = .ok (.iload_n 0, 1) := by decide +kernel
theorem d2_76 : decode method_2_code 76 = .ok (.sipush 894, 3) := by decide +kernel
theorem d2_79 : decode method_2_code 79 = .ok (.if_icmp .ne 5, 3) := by decide +kernel
theorem d2_82 : decode method_2_code 82 = .ok (.iconst 0, 1) := by decide +kernel
theorem d2_83 : decode method_2_code 83 = .ok (.ireturn, 1) := by decide +kernel
theorem d2_84 : decode method_2_code 84 = .ok (.iload_n 0, 1) := by decide +kernel
theorem d2_85 : decode method_2_code 85 = .ok (.sipush 8192, 3) := by decide +kernel
theorem d2_88 : decode method_2_code 88 = .ok (.if_icmp .lt 12, 3) := by decide +kernel
theorem d2_91 : decode method_2_code 91 = .ok (.iload_n 0, 1) := by decide +kernel
theorem d2_92 : decode method_2_code 92 = .ok (.sipush 8203, 3) := by decide +kernel
theorem d2_95 : decode method_2_code 95 = .ok (.if_icmp .gt 5, 3) := by decide +kernel
theorem d2_98 : decode method_2_code 98 = .ok (.iconst 0, 1) := by decide +kernel
theorem d2_99 : decode method_2_code 99 = .ok (.ireturn, 1) := by decide +kernel
theorem d2_100 : decode method_2_code 100 = .ok (.iload_n 0, 1) := by decide +kernel
theorem d2_101 : decode method_2_code 101 = .ok (.sipush 8206, 3) := by decide +kernel
theorem d2_104 : decode method_2_code 104 = .ok (.if_icmp .lt 12, 3) := by decide +kernel
theorem d2_107 : decode method_2_code 107 = .ok (.iload_n 0, 1) := by decide +kernel
theorem d2_108 : decode method_2_code 108 = .ok (.sipush 8303, 3) := by decide +kernel
theorem d2_111 : decode method_2_code 111 = .ok (.if_icmp .gt 5, 3) := by decide +kernel
theorem d2_114 : decode method_2_code 114 = .ok (.iconst 0, 1) := by decide +kernel
theorem d2_115 : decode method_2_code 115 = .ok (.ireturn, 1) := by decide +kernel
theorem d2_116 : decode method_2_code 116 = .ok (.iload_n 0, 1) := by decide +kernel
theorem d2_117 : decode method_2_code 117 = .ok (.sipush 8592, 3) := by decide +kernel
theorem d2_120 : decode method_2_code 120 = .ok (.if_icmp .lt 12, 3) := by decide +kernel
theorem d2_123 : decode method_2_code 123 = .ok (.iload_n 0, 1) := by decide +kernel
theorem d2_124 : decode method_2_code 124 = .ok (.sipush 11263, 3) := by decide +kernel
theorem d2_127 : decode method_2_code 127 = .ok (.if_icmp .gt 5, 3) := by decide +kernel
theorem d2_130 : decode method_2_code 130 = .ok (.iconst 0, 1) := by decide +kernel
theorem d2_131 : decode method_2_code 131 = .ok (.ireturn, 1) := by decide +kernel
theorem d2_132 : decode method_2_code 132 = .ok (.iload_n 0, 1) := by decide +kernel
theorem d2_133 : decode method_2_code 133 = .ok (.sipush 12272, 3) := by decide +kernel
theorem d2_136 : decode method_2_code 136 = .ok (.if_icmp .lt 12, 3) := by decide +kernel
theorem d2_139 : decode method_2_code 139 = .ok (.iload_n 0, 1) := by decide +kernel
theorem d2_140 : decode method_2_code 140 = .ok (.sipush 12288, 3) := by decide +kernel
theorem d2_143 : decode method_2_code 143 = .ok (.if_icmp .gt 5, 3) := by decide +kernel
theorem d2_146 : decode method_2_code 146 = .ok (.iconst 0, 1) := by decide +kernel
theorem d2_147 : decode method_2_code 147 = .ok (.ireturn, 1) := by decide +kernel
theorem d2_148 : decode method_2_code 148 = .ok (.iload_n 0, 1) := by decide +kernel
theorem d2_149 : decode method_2_code 149 = .ok (.ldc 8, 2) := by decide +kernel
theorem d2_151 : decode method_2_code 151 = .ok (.if_icmp .lt 11, 3) := by decide +kernel
theorem d2_154 : decode method_2_code 154 = .ok (.iload_n 0, 1) := by decide +kernel
theorem d2_155 : decode method_2_code 155 = .ok (.ldc 9, 2) := by decide +kernel
theorem d2_157 : decode method_2_code 157 = .ok (.if_icmp .gt 5, 3) := by decide +kernel
theorem d2_160 : decode method_2_code 160 = .ok (.iconst 0, 1) := by decide +kernel
theorem d2_161 : decode method_2_code 161 = .ok (.ireturn, 1) := by decide +kernel
theorem d2_162 : decode method_2_code 162 = .ok (.iload_n 0, 1) := by decide +kernel
theorem d2_163 : decode method_2_code 163 = .ok (.ldc 10, 2) := by decide +kernel
theorem d2_165 : decode method_2_code 165 = .ok (.if_icmp .lt 11, 3) := by decide +kernel
theorem d2_168 : decode method_2_code 168 = .ok (.iload_n 0, 1) := by decide +kernel
theorem d2_169 : decode method_2_code 169 = .ok (.ldc 11, 2) := by decide +kernel
theorem d2_171 : decode method_2_code 171 = .ok (.if_icmp .gt 5, 3) := by decide +kernel
theorem d2_174 : decode method_2_code 174 = .ok (.iconst 0, 1) := by decide +kernel
theorem d2_175 : decode method_2_code 175 = .ok (.ireturn, 1) := by decide +kernel
theorem d2_176 : decode method_2_code 176 = .ok (.iload_n 0, 1) := by decide +kernel
theorem d2_177 : decode method_2_code 177 = .ok (.ldc 12, 2) := by decide +kernel
theorem d2_179 : decode method_2_code 179 = .ok (.if_icmp .lt 11, 3) := by decide +kernel
theorem d2_182 : decode method_2_code 182 = .ok (.iload_n 0, 1) := by decide +kernel
theorem d2_183 : decode method_2_code 183 = .ok (.ldc 13, 2) := by decide +kernel
theorem d2_185 : decode method_2_code 185 = .ok (.if_icmp .gt 5, 3) := by decide +kernel
theorem d2_188 : decode method_2_code 188 = .ok (.iconst 0, 1) := by decide +kernel
theorem d2_189 : decode method_2_code 189 = .ok (.ireturn, 1) := by decide +kernel
theorem d2_190 : decode method_2_code 190 = .ok (.iconst 1, 1) := by decide +kernel
theorem d2_191 : decode method_2_code 191 = .ok (.ireturn, 1) := by decide +kernel
def F2_176 (i0 : Int32) : Int32 := (if i0 < (65534 : Int32) then (1 : Int32) else (if (65535 : Int32) < i0 then (1 : Int32) else (0 : Int32)))
set_option maxRecDepth 65536 in
set_option maxHeartbeats 40000000 in
theorem bk2_176 {p : Program} {l : Launch} {e : Env} {s : State} {m : MethodId} {args : Array Value} {below : List Frame} {meth : Method} {c : Code} {T0 : State} {locs : List Loc} {Z : State} {a0 : Array Value} {h0 : Heap} {n0 : Nat}
    (hx : p.tables.exec = Jvm.exec) (hZ : Z.Warmed39 s.vm) (hw : ∀ d ∈ tables_1, d.before a0 Z = true) (hby : c.code = method_2_code) (hml : c.maxLocals = 1) (hown : s.vm.findClass "com/example/orbweave/orbweave/term/NameCharsIsPnCharsBasePinLaw" = some m.cls) (hnm : meth.name = "ref") (hret : meth.sig.returnType = some .boolean) (hlk : meth.locks = false)
    (X0 : Stand p l e ({ frames := 0, cells := 0, slots := 0, locals := 0 } : Room) s m args below meth c T0 locs 0 0) (N0 : Fr n0 locs) (e0 : T0.heap = h0) (i0 : Int32) :
    Done p e below s ({ frames := 0, cells := 0, slots := 0, locals := 0 } : Room) (Qp h0 n0 (.int (F2_176 i0))) T0 (mkF m 176 #[.val (.int i0)] []) := by
  unfold F2_176
  refine Done.of (T' := T0) (g' := (mkF m 179 #[.val (.int i0)] [(.int (65534 : Int32)), (.int i0)])) (fun t k => ?_) ?_
  · show Steps p.tables e below (T0.setTop (mkF m 176 #[.val (.int i0)] [])) t
    refine XS.iloadN X0.here hx rfl (hb hby d2_176) rfl ?_
    show Steps p.tables e below (T0.setTop (mkF m 177 #[.val (.int i0)] [(.int i0)])) t
    refine X0.ldcInt hx hown (mvT hZ (hw _ (List.mem_of_getElem? (i := 23) rfl))) (g := (mkF m 177 #[.val (.int i0)] [(.int i0)])) rfl (hb hby d2_177) _ ?_
    exact k
  by_cases hc179_0 : i0 < (65534 : Int32)
  · rw [if_pos hc179_0]
    refine Done.of (T' := T0) (g' := (mkF m 191 #[.val (.int i0)] [(.int (1 : Int32))])) (fun t k => ?_) ?_
    · show Steps p.tables e below (T0.setTop (mkF m 179 #[.val (.int i0)] [(.int (65534 : Int32)), (.int i0)])) t
      refine XS.icmpYes X0.here hx rfl (pc0 := 179) (pc' := 190) rfl (hb hby d2_179) rfl (tlt hc179_0).1 (by decide) (by decide) ?_
      show Steps p.tables e below (T0.setTop (mkF m 190 #[.val (.int i0)] [])) t
      refine XS.iconst X0.here hx rfl (hb hby d2_190) ?_
      exact k
    exact doneN (t := .boolean) X0 (by simp) hx hret hlk (hb hby d2_191) ⟨rfl, N0, e0⟩ (by decide) (by decide)
  · rw [if_neg hc179_0]
    refine Done.of (T' := T0) (g' := (mkF m 185 #[.val (.int i0)] [(.int (65535 : Int32)), (.int i0)])) (fun t k => ?_) ?_
    · show Steps p.tables e below (T0.setTop (mkF m 179 #[.val (.int i0)] [(.int (65534 : Int32)), (.int i0)])) t
      refine XS.icmpNo X0.here hx rfl (hb hby d2_179) rfl (flt hc179_0).1 ?_
      show Steps p.tables e below (T0.setTop (mkF m 182 #[.val (.int i0)] [])) t
      refine XS.iloadN X0.here hx rfl (hb hby d2_182) rfl ?_
      show Steps p.tables e below (T0.setTop (mkF m 183 #[.val (.int i0)] [(.int i0)])) t
      refine X0.ldcInt hx hown (mvT hZ (hw _ (List.mem_of_getElem? (i := 30) rfl))) (g := (mkF m 183 #[.val (.int i0)] [(.int i0)])) rfl (hb hby d2_183) _ ?_
      exact k
    by_cases hc185_1 : (65535 : Int32) < i0
    · rw [if_pos hc185_1]
      refine Done.of (T' := T0) (g' := (mkF m 191 #[.val (.int i0)] [(.int (1 : Int32))])) (fun t k => ?_) ?_
      · show Steps p.tables e below (T0.setTop (mkF m 185 #[.val (.int i0)] [(.int (65535 : Int32)), (.int i0)])) t
        refine XS.icmpYes X0.here hx rfl (pc0 := 185) (pc' := 190) rfl (hb hby d2_185) rfl (tlt hc185_1).2.2.1 (by decide) (by decide) ?_
        show Steps p.tables e below (T0.setTop (mkF m 190 #[.val (.int i0)] [])) t
        refine XS.iconst X0.here hx rfl (hb hby d2_190) ?_
        exact k
      exact doneN (t := .boolean) X0 (by simp) hx hret hlk (hb hby d2_191) ⟨rfl, N0, e0⟩ (by decide) (by decide)
    · rw [if_neg hc185_1]
      refine Done.of (T' := T0) (g' := (mkF m 189 #[.val (.int i0)] [(.int (0 : Int32))])) (fun t k => ?_) ?_
      · show Steps p.tables e below (T0.setTop (mkF m 185 #[.val (.int i0)] [(.int (65535 : Int32)), (.int i0)])) t
        refine XS.icmpNo X0.here hx rfl (hb hby d2_185) rfl (flt hc185_1).2.2.1 ?_
        show Steps p.tables e below (T0.setTop (mkF m 188 #[.val (.int i0)] [])) t
        refine XS.iconst X0.here hx rfl (hb hby d2_188) ?_
        exact k
      exact doneN (t := .boolean) X0 (by simp) hx hret hlk (hb hby d2_189) ⟨rfl, N0, e0⟩ (by decide) (by decide)
def F2_162 (i0 : Int32) : Int32 := (if i0 < (64976 : Int32) then (F2_176 i0) else (if (65007 : Int32) < i0 then (F2_176 i0) else (0 : Int32)))
set_option maxRecDepth 65536 in
set_option maxHeartbeats 40000000 in
theorem bk2_162 {p : Program} {l : Launch} {e : Env} {s : State} {m : MethodId} {args : Array Value} {below : List Frame} {meth : Method} {c : Code} {T0 : State} {locs : List Loc} {Z : State} {a0 : Array Value} {h0 : Heap} {n0 : Nat}
    (hx : p.tables.exec = Jvm.exec) (hZ : Z.Warmed39 s.vm) (hw : ∀ d ∈ tables_1, d.before a0 Z = true) (hby : c.code = method_2_code) (hml : c.maxLocals = 1) (hown : s.vm.findClass "com/example/orbweave/orbweave/term/NameCharsIsPnCharsBasePinLaw" = some m.cls) (hnm : meth.name = "ref") (hret : meth.sig.returnType = some .boolean) (hlk : meth.locks = false)
    (X0 : Stand p l e ({ frames := 0, cells := 0, slots := 0, locals := 0 } : Room) s m args below meth c T0 locs 0 0) (N0 : Fr n0 locs) (e0 : T0.heap = h0) (i0 : Int32) :
    Done p e below s ({ frames := 0, cells := 0, slots := 0, locals := 0 } : Room) (Qp h0 n0 (.int (F2_162 i0))) T0 (mkF m 162 #[.val (.int i0)] []) := by
  unfold F2_162
  refine Done.of (T' := T0) (g' := (mkF m 165 #[.val (.int i0)] [(.int (64976 : Int32)), (.int i0)])) (fun t k => ?_) ?_
  · show Steps p.tables e below (T0.setTop (mkF m 162 #[.val (.int i0)] [])) t
    refine XS.iloadN X0.here hx rfl (hb hby d2_162) rfl ?_
    show Steps p.tables e below (T0.setTop (mkF m 163 #[.val (.int i0)] [(.int i0)])) t
    refine X0.ldcInt hx hown (mvT hZ (hw _ (List.mem_of_getElem? (i := 22) rfl))) (g := (mkF m 163 #[.val (.int i0)] [(.int i0)])) rfl (hb hby d2_163) _ ?_
    exact k
  by_cases hc165_0 : i0 < (64976 : Int32)
  · rw [if_pos hc165_0]
    refine Done.of (T' := T0) (g' := (mkF m 176 #[.val (.int i0)] [])) (fun t k => ?_) ?_
    · show Steps p.tables e below (T0.setTop (mkF m 165 #[.val (.int i0)] [(.int (64976 : Int32)), (.int i0)])) t
      refine XS.icmpYes X0.here hx rfl (pc0 := 165) (pc' := 176) rfl (hb hby d2_165) rfl (tlt hc165_0).1 (by decide) (by decide) ?_
      exact k
    exact bk2_176 hx hZ hw hby hml hown hnm hret hlk X0 N0 e0 i0
  · rw [if_neg hc165_0]
    refine Done.of (T' := T0) (g' := (mkF m 171 #[.val (.int i0)] [(.int (65007 : Int32)), (.int i0)])) (fun t k => ?_) ?_
    · show Steps p.tables e below (T0.setTop (mkF m 165 #[.val (.int i0)] [(.int (64976 : Int32)), (.int i0)])) t
      refine XS.icmpNo X0.here hx rfl (hb hby d2_165) rfl (flt hc165_0).1 ?_
      show Steps p.tables e below (T0.setTop (mkF m 168 #[.val (.int i0)] [])) t
      refine XS.iloadN X0.here hx rfl (hb hby d2_168) rfl ?_
      show Steps p.tables e below (T0.setTop (mkF m 169 #[.val (.int i0)] [(.int i0)])) t
      refine X0.ldcInt hx hown (mvT hZ (hw _ (List.mem_of_getElem? (i := 29) rfl))) (g := (mkF m 169 #[.val (.int i0)] [(.int i0)])) rfl (hb hby d2_169) _ ?_
      exact k
    by_cases hc171_1 : (65007 : Int32) < i0
    · rw [if_pos hc171_1]
      refine Done.of (T' := T0) (g' := (mkF m 176 #[.val (.int i0)] [])) (fun t k => ?_) ?_
      · show Steps p.tables e below (T0.setTop (mkF m 171 #[.val (.int i0)] [(.int (65007 : Int32)), (.int i0)])) t
        refine XS.icmpYes X0.here hx rfl (pc0 := 171) (pc' := 176) rfl (hb hby d2_171) rfl (tlt hc171_1).2.2.1 (by decide) (by decide) ?_
        exact k
      exact bk2_176 hx hZ hw hby hml hown hnm hret hlk X0 N0 e0 i0
    · rw [if_neg hc171_1]
      refine Done.of (T' := T0) (g' := (mkF m 175 #[.val (.int i0)] [(.int (0 : Int32))])) (fun t k => ?_) ?_
      · show Steps p.tables e below (T0.setTop (mkF m 171 #[.val (.int i0)] [(.int (65007 : Int32)), (.int i0)])) t
        refine XS.icmpNo X0.here hx rfl (hb hby d2_171) rfl (flt hc171_1).2.2.1 ?_
        show Steps p.tables e below (T0.setTop (mkF m 174 #[.val (.int i0)] [])) t
        refine XS.iconst X0.here hx rfl (hb hby d2_174) ?_
        exact k
      exact doneN (t := .boolean) X0 (by simp) hx hret hlk (hb hby d2_175) ⟨rfl, N0, e0⟩ (by decide) (by decide)
def F2_148 (i0 : Int32) : Int32 := (if i0 < (55296 : Int32) then (F2_162 i0) else (if (63743 : Int32) < i0 then (F2_162 i0) else (0 : Int32)))
set_option maxRecDepth 65536 in
set_option maxHeartbeats 40000000 in
theorem bk2_148 {p : Program} {l : Launch} {e : Env} {s : State} {m : MethodId} {args : Array Value} {below : List Frame} {meth : Method} {c : Code} {T0 : State} {locs : List Loc} {Z : State} {a0 : Array Value} {h0 : Heap} {n0 : Nat}
    (hx : p.tables.exec = Jvm.exec) (hZ : Z.Warmed39 s.vm) (hw : ∀ d ∈ tables_1, d.before a0 Z = true) (hby : c.code = method_2_code) (hml : c.maxLocals = 1) (hown : s.vm.findClass "com/example/orbweave/orbweave/term/NameCharsIsPnCharsBasePinLaw" = some m.cls) (hnm : meth.name = "ref") (hret : meth.sig.returnType = some .boolean) (hlk : meth.locks = false)
    (X0 : Stand p l e ({ frames := 0, cells := 0, slots := 0, locals := 0 } : Room) s m args below meth c T0 locs 0 0) (N0 : Fr n0 locs) (e0 : T0.heap = h0) (i0 : Int32) :
    Done p e below s ({ frames := 0, cells := 0, slots := 0, locals := 0 } : Room) (Qp h0 n0 (.int (F2_148 i0))) T0 (mkF m 148 #[.val (.int i0)] []) := by
  unfold F2_148
  refine Done.of (T' := T0) (g' := (mkF m 151 #[.val (.int i0)] [(.int (55296 : Int32)), (.int i0)])) (fun t k => ?_) ?_
  · show Steps p.tables e below (T0.setTop (mkF m 148 #[.val (.int i0)] [])) t
    refine XS.iloadN X0.here hx rfl (hb hby d2_148) rfl ?_
    show Steps p.tables e below (T0.setTop (mkF m 149 #[.val (.int i0)] [(.int i0)])) t
    refine X0.ldcInt hx hown (mvT hZ (hw _ (List.mem_of_getElem? (i := 21) rfl))) (g := (mkF m 149 #[.val (.int i0)] [(.int i0)])) rfl (hb hby d2_149) _ ?_
    exact k
  by_cases hc151_0 : i0 < (55296 : Int32)
  · rw [if_pos hc151_0]
    refine Done.of (T' := T0) (g' := (mkF m 162 #[.val (.int i0)] [])) (fun t k => ?_) ?_
    · show Steps p.tables e below (T0.setTop (mkF m 151 #[.val (.int i0)] [(.int (55296 : Int32)), (.int i0)])) t
      refine XS.icmpYes X0.here hx rfl (pc0 := 151) (pc' := 162) rfl (hb hby d2_151) rfl (tlt hc151_0).1 (by decide) (by decide) ?_
      exact k
    exact bk2_162 hx hZ hw hby hml hown hnm hret hlk X0 N0 e0 i0
  · rw [if_neg hc151_0]
    refine Done.of (T' := T0) (g' := (mkF m 157 #[.val (.int i0)] [(.int (63743 : Int32)), (.int i0)])) (fun t k => ?_) ?_
    · show Steps p.tables e below (T0.setTop (mkF m 151 #[.val (.int i0)] [(.int (55296 : Int32)), (.int i0)])) t
      refine XS.icmpNo X0.here hx rfl (hb hby d2_151) rfl (flt hc151_0).1 ?_
      show Steps p.tables e below (T0.setTop (mkF m 154 #[.val (.int i0)] [])) t
      refine XS.iloadN X0.here hx rfl (hb hby d2_154) rfl ?_
      show Steps p.tables e below (T0.setTop (mkF m 155 #[.val (.int i0)] [(.int i0)])) t
      refine X0.ldcInt hx hown (mvT hZ (hw _ (List.mem_of_getElem? (i := 28) rfl))) (g := (mkF m 155 #[.val (.int i0)] [(.int i0)])) rfl (hb hby d2_155) _ ?_
      exact k
    by_cases hc157_1 : (63743 : Int32) < i0
    · rw [if_pos hc157_1]
      refine Done.of (T' := T0) (g' := (mkF m 162 #[.val (.int i0)] [])) (fun t k => ?_) ?_
      · show Steps p.tables e below (T0.setTop (mkF m 157 #[.val (.int i0)] [(.int (63743 : Int32)), (.int i0)])) t
        refine XS.icmpYes X0.here hx rfl (pc0 := 157) (pc' := 162) rfl (hb hby d2_157) rfl (tlt hc157_1).2.2.1 (by decide) (by decide) ?_
        exact k
      exact bk2_162 hx hZ hw hby hml hown hnm hret hlk X0 N0 e0 i0
    · rw [if_neg hc157_1]
      refine Done.of (T' := T0) (g' := (mkF m 161 #[.val (.int i0)] [(.int (0 : Int32))])) (fun t k => ?_) ?_
      · show Steps p.tables e below (T0.setTop (mkF m 157 #[.val (.int i0)] [(.int (63743 : Int32)), (.int i0)])) t
        refine XS.icmpNo X0.here hx rfl (hb hby d2_157) rfl (flt hc157_1).2.2.1 ?_
        show Steps p.tables e below (T0.setTop (mkF m 160 #[.val (.int i0)] [])) t
        refine XS.iconst X0.here hx rfl (hb hby d2_160) ?_
        exact k
      exact doneN (t := .boolean) X0 (by simp) hx hret hlk (hb hby d2_161) ⟨rfl, N0, e0⟩ (by decide) (by decide)
def F2_132 (i0 : Int32) : Int32 := (if i0 < (12272 : Int32) then (F2_148 i0) else (if (12288 : Int32) < i0 then (F2_148 i0) else (0 : Int32)))
set_option maxRecDepth 65536 in
set_option maxHeartbeats 40000000 in
theorem bk2_132 {p : Program} {l : Launch} {e : Env} {s : State} {m : MethodId} {args : Array Value} {below : List Frame} {meth : Method} {c : Code} {T0 : State} {locs : List Loc} {Z : State} {a0 : Array Value} {h0 : Heap} {n0 : Nat}
    (hx : p.tables.exec = Jvm.exec) (hZ : Z.Warmed39 s.vm) (hw : ∀ d ∈ tables_1, d.before a0 Z = true) (hby : c.code = method_2_code) (hml : c.maxLocals = 1) (hown : s.vm.findClass "com/example/orbweave/orbweave/term/NameCharsIsPnCharsBasePinLaw" = some m.cls) (hnm : meth.name = "ref") (hret : meth.sig.returnType = some .boolean) (hlk : meth.locks = false)
    (X0 : Stand p l e ({ frames := 0, cells := 0, slots := 0, locals := 0 } : Room) s m args below meth c T0 locs 0 0) (N0 : Fr n0 locs) (e0 : T0.heap = h0) (i0 : Int32) :
    Done p e below s ({ frames := 0, cells := 0, slots := 0, locals := 0 } : Room) (Qp h0 n0 (.int (F2_132 i0))) T0 (mkF m 132 #[.val (.int i0)] []) := by
  unfold F2_132
  refine Done.of (T' := T0) (g' := (mkF m 136 #[.val (.int i0)] [(.int (12272 : Int32)), (.int i0)])) (fun t k => ?_) ?_
  · show Steps p.tables e below (T0.setTop (mkF m 132 #[.val (.int i0)] [])) t
    refine XS.iloadN X0.here hx rfl (hb hby d2_132) rfl ?_
    show Steps p.tables e below (T0.setTop (mkF m 133 #[.val (.int i0)] [(.int i0)])) t
    refine XS.sipush X0.here hx rfl (hb hby d2_133) ?_
    exact k
  by_cases hc136_0 : i0 < (12272 : Int32)
  · rw [if_pos hc136_0]
    refine Done.of (T' := T0) (g' := (mkF m 148 #[.val (.int i0)] [])) (fun t k => ?_) ?_
    · show Steps p.tables e below (T0.setTop (mkF m 136 #[.val (.int i0)] [(.int (12272 : Int32)), (.int i0)])) t
      refine XS.icmpYes X0.here hx rfl (pc0 := 136) (pc' := 148) rfl (hb hby d2_136) rfl (tlt hc136_0).1 (by decide) (by decide) ?_
      exact k
    exact bk2_148 hx hZ hw hby hml hown hnm hret hlk X0 N0 e0 i0
  · rw [if_neg hc136_0]
    refine Done.of (T' := T0) (g' := (mkF m 143 #[.val (.int i0)] [(.int (12288 : Int32)), (.int i0)])) (fun t k => ?_) ?_
    · show Steps p.tables e below (T0.setTop (mkF m 136 #[.val (.int i0)] [(.int (12272 : Int32)), (.int i0)])) t
      refine XS.icmpNo X0.here hx rfl (hb hby d2_136) rfl (flt hc136_0).1 ?_
      show Steps p.tables e below (T0.setTop (mkF m 139 #[.val (.int i0)] [])) t
      refine XS.iloadN X0.here hx rfl (hb hby d2_139) rfl ?_
      show Steps p.tables e below (T0.setTop (mkF m 140 #[.val (.int i0)] [(.int i0)])) t
      refine XS.sipush X0.here hx rfl (hb hby d2_140) ?_
      exact k
    by_cases hc143_1 : (12288 : Int32) < i0
    · rw [if_pos hc143_1]
      refine Done.of (T' := T0) (g' := (mkF m 148 #[.val (.int i0)] [])) (fun t k => ?_) ?_
      · show Steps p.tables e below (T0.setTop (mkF m 143 #[.val (.int i0)] [(.int (12288 : Int32)), (.int i0)])) t
        refine XS.icmpYes X0.here hx rfl (pc0 := 143) (pc' := 148) rfl (hb hby d2_143) rfl (tlt hc143_1).2.2.1 (by decide) (by decide) ?_
        exact k
      exact bk2_148 hx hZ hw hby hml hown hnm hret hlk X0 N0 e0 i0
    · rw [if_neg hc143_1]
      refine Done.of (T' := T0) (g' := (mkF m 147 #[.val (.int i0)] [(.int (0 : Int32))])) (fun t k => ?_) ?_
      · show Steps p.tables e below (T0.setTop (mkF m 143 #[.val (.int i0)] [(.int (12288 : Int32)), (.int i0)])) t
        refine XS.icmpNo X0.here hx rfl (hb hby d2_143) rfl (flt hc143_1).2.2.1 ?_
        show Steps p.tables e below (T0.setTop (mkF m 146 #[.val (.int i0)] [])) t
        refine XS.iconst X0.here hx rfl (hb hby d2_146) ?_
        exact k
      exact doneN (t := .boolean) X0 (by simp) hx hret hlk (hb hby d2_147) ⟨rfl, N0, e0⟩ (by decide) (by decide)
def F2_116 (i0 : Int32) : Int32 := (if i0 < (8592 : Int32) then (F2_132 i0) else (if (11263 : Int32) < i0 then (F2_132 i0) else (0 : Int32)))
set_option maxRecDepth 65536 in
set_option maxHeartbeats 40000000 in
theorem bk2_116 {p : Program} {l : Launch} {e : Env} {s : State} {m : MethodId} {args : Array Value} {below : List Frame} {meth : Method} {c : Code} {T0 : State} {locs : List Loc} {Z : State} {a0 : Array Value} {h0 : Heap} {n0 : Nat}
    (hx : p.tables.exec = Jvm.exec) (hZ : Z.Warmed39 s.vm) (hw : ∀ d ∈ tables_1, d.before a0 Z = true) (hby : c.code = method_2_code) (hml : c.maxLocals = 1) (hown : s.vm.findClass "com/example/orbweave/orbweave/term/NameCharsIsPnCharsBasePinLaw" = some m.cls) (hnm : meth.name = "ref") (hret : meth.sig.returnType = some .boolean) (hlk : meth.locks = false)
    (X0 : Stand p l e ({ frames := 0, cells := 0, slots := 0, locals := 0 } : Room) s m args below meth c T0 locs 0 0) (N0 : Fr n0 locs) (e0 : T0.heap = h0) (i0 : Int32) :
    Done p e below s ({ frames := 0, cells := 0, slots := 0, locals := 0 } : Room) (Qp h0 n0 (.int (F2_116 i0))) T0 (mkF m 116 #[.val (.int i0)] []) := by
  unfold F2_116
  refine Done.of (T' := T0) (g' := (mkF m 120 #[.val (.int i0)] [(.int (8592 : Int32)), (.int i0)])) (fun t k => ?_) ?_
  · show Steps p.tables e below (T0.setTop (mkF m 116 #[.val (.int i0)] [])) t
    refine XS.iloadN X0.here hx rfl (hb hby d2_116) rfl ?_
    show Steps p.tables e below (T0.setTop (mkF m 117 #[.val (.int i0)] [(.int i0)])) t
    refine XS.sipush X0.here hx rfl (hb hby d2_117) ?_
    exact k
  by_cases hc120_0 : i0 < (8592 : Int32)
  · rw [if_pos hc120_0]
    refine Done.of (T' := T0) (g' := (mkF m 132 #[.val (.int i0)] [])) (fun t k => ?_) ?_
    · show Steps p.tables e below (T0.setTop (mkF m 120 #[.val (.int i0)] [(.int (8592 : Int32)), (.int i0)])) t
      refine XS.icmpYes X0.here hx rfl (pc0 := 120) (pc' := 132) rfl (hb hby d2_120) rfl (tlt hc120_0).1 (by decide) (by decide) ?_
      exact k
    exact bk2_132 hx hZ hw hby hml hown hnm hret hlk X0 N0 e0 i0
  · rw [if_neg hc120_0]
    refine Done.of (T' := T0) (g' := (mkF m 127 #[.val (.int i0)] [(.int (11263 : Int32)), (.int i0)])) (fun t k => ?_) ?_
    · show Steps p.tables e below (T0.setTop (mkF m 120 #[.val (.int i0)] [(.int (8592 : Int32)), (.int i0)])) t
      refine XS.icmpNo X0.here hx rfl (hb hby d2_120) rfl (flt hc120_0).1 ?_
      show Steps p.tables e below (T0.setTop (mkF m 123 #[.val (.int i0)] [])) t
      refine XS.iloadN X0.here hx rfl (hb hby d2_123) rfl ?_
      show Steps p.tables e below (T0.setTop (mkF m 124 #[.val (.int i0)] [(.int i0)])) t
      refine XS.sipush X0.here hx rfl (hb hby d2_124) ?_
      exact k
    by_cases hc127_1 : (11263 : Int32) < i0
    · rw [if_pos hc127_1]
      refine Done.of (T' := T0) (g' := (mkF m 132 #[.val (.int i0)] [])) (fun t k => ?_) ?_
      · show Steps p.tables e below (T0.setTop (mkF m 127 #[.val (.int i0)] [(.int (11263 : Int32)), (.int i0)])) t
        refine XS.icmpYes X0.here hx rfl (pc0 := 127) (pc' := 132) rfl (hb hby d2_127) rfl (tlt hc127_1).2.2.1 (by decide) (by decide) ?_
        exact k
      exact bk2_132 hx hZ hw hby hml hown hnm hret hlk X0 N0 e0 i0
    · rw [if_neg hc127_1]
      refine Done.of (T' := T0) (g' := (mkF m 131 #[.val (.int i0)] [(.int (0 : Int32))])) (fun t k => ?_) ?_
      · show Steps p.tables e below (T0.setTop (mkF m 127 #[.val (.int i0)] [(.int (11263 : Int32)), (.int i0)])) t
        refine XS.icmpNo X0.here hx rfl (hb hby d2_127) rfl (flt hc127_1).2.2.1 ?_
        show Steps p.tables e below (T0.setTop (mkF m 130 #[.val (.int i0)] [])) t
        refine XS.iconst X0.here hx rfl (hb hby d2_130) ?_
        exact k
      exact doneN (t := .boolean) X0 (by simp) hx hret hlk (hb hby d2_131) ⟨rfl, N0, e0⟩ (by decide) (by decide)
def F2_100 (i0 : Int32) : Int32 := (if i0 < (8206 : Int32) then (F2_116 i0) else (if (8303 : Int32) < i0 then (F2_116 i0) else (0 : Int32)))
set_option maxRecDepth 65536 in
set_option maxHeartbeats 40000000 in
theorem bk2_100 {p : Program} {l : Launch} {e : Env} {s : State} {m : MethodId} {args : Array Value} {below : List Frame} {meth : Method} {c : Code} {T0 : State} {locs : List Loc} {Z : State} {a0 : Array Value} {h0 : Heap} {n0 : Nat}
    (hx : p.tables.exec = Jvm.exec) (hZ : Z.Warmed39 s.vm) (hw : ∀ d ∈ tables_1, d.before a0 Z = true) (hby : c.code = method_2_code) (hml : c.maxLocals = 1) (hown : s.vm.findClass "com/example/orbweave/orbweave/term/NameCharsIsPnCharsBasePinLaw" = some m.cls) (hnm : meth.name = "ref") (hret : meth.sig.returnType = some .boolean) (hlk : meth.locks = false)
    (X0 : Stand p l e ({ frames := 0, cells := 0, slots := 0, locals := 0 } : Room) s m args below meth c T0 locs 0 0) (N0 : Fr n0 locs) (e0 : T0.heap = h0) (i0 : Int32) :
    Done p e below s ({ frames := 0, cells := 0, slots := 0, locals := 0 } : Room) (Qp h0 n0 (.int (F2_100 i0))) T0 (mkF m 100 #[.val (.int i0)] []) := by
  unfold F2_100
  refine Done.of (T' := T0) (g' := (mkF m 104 #[.val (.int i0)] [(.int (8206 : Int32)), (.int i0)])) (fun t k => ?_) ?_
  · show Steps p.tables e below (T0.setTop (mkF m 100 #[.val (.int i0)] [])) t
    refine XS.iloadN X0.here hx rfl (hb hby d2_100) rfl ?_
    show Steps p.tables e below (T0.setTop (mkF m 101 #[.val (.int i0)] [(.int i0)])) t
    refine XS.sipush X0.here hx rfl (hb hby d2_101) ?_
    exact k
  by_cases hc104_0 : i0 < (8206 : Int32)
  · rw [if_pos hc104_0]
    refine Done.of (T' := T0) (g' := (mkF m 116 #[.val (.int i0)] [])) (fun t k => ?_) ?_
    · show Steps p.tables e below (T0.setTop (mkF m 104 #[.val (.int i0)] [(.int (8206 : Int32)), (.int i0)])) t
      refine XS.icmpYes X0.here hx rfl (pc0 := 104) (pc' := 116) rfl (hb hby d2_104) rfl (tlt hc104_0).1 (by decide) (by decide) ?_
      exact k
    exact bk2_116 hx hZ hw hby hml hown hnm hret hlk X0 N0 e0 i0
  · rw [if_neg hc104_0]
    refine Done.of (T' := T0) (g' := (mkF m 111 #[.val (.int i0)] [(.int (8303 : Int32)), (.int i0)])) (fun t k => ?_) ?_
    · show Steps p.tables e below (T0.setTop (mkF m 104 #[.val (.int i0)] [(.int (8206 : Int32)), (.int i0)])) t
      refine XS.icmpNo X0.here hx rfl (hb hby d2_104) rfl (flt hc104_0).1 ?_
      show Steps p.tables e below (T0.setTop (mkF m 107 #[.val (.int i0)] [])) t
      refine XS.iloadN X0.here hx rfl (hb hby d2_107) rfl ?_
      show Steps p.tables e below (T0.setTop (mkF m 108 #[.val (.int i0)] [(.int i0)])) t
      refine XS.sipush X0.here hx rfl (hb hby d2_108) ?_
      exact k
    by_cases hc111_1 : (8303 : Int32) < i0
    · rw [if_pos hc111_1]
      refine Done.of (T' := T0) (g' := (mkF m 116 #[.val (.int i0)] [])) (fun t k => ?_) ?_
      · show Steps p.tables e below (T0.setTop (mkF m 111 #[.val (.int i0)] [(.int (8303 : Int32)), (.int i0)])) t
        refine XS.icmpYes X0.here hx rfl (pc0 := 111) (pc' := 116) rfl (hb hby d2_111) rfl (tlt hc111_1).2.2.1 (by decide) (by decide) ?_
        exact k
      exact bk2_116 hx hZ hw hby hml hown hnm hret hlk X0 N0 e0 i0
    · rw [if_neg hc111_1]
      refine Done.of (T' := T0) (g' := (mkF m 115 #[.val (.int i0)] [(.int (0 : Int32))])) (fun t k => ?_) ?_
      · show Steps p.tables e below (T0.setTop (mkF m 111 #[.val (.int i0)] [(.int (8303 : Int32)), (.int i0)])) t
        refine XS.icmpNo X0.here hx rfl (hb hby d2_111) rfl (flt hc111_1).2.2.1 ?_
        show Steps p.tables e below (T0.setTop (mkF m 114 #[.val (.int i0)] [])) t
        refine XS.iconst X0.here hx rfl (hb hby d2_114) ?_
        exact k
      exact doneN (t := .boolean) X0 (by simp) hx hret hlk (hb hby d2_115) ⟨rfl, N0, e0⟩ (by decide) (by decide)
def F2_75 (i0 : Int32) : Int32 := (if i0 = (894 : Int32) then (0 : Int32) else (if i0 < (8192 : Int32) then (F2_100 i0) else (if (8203 : Int32) < i0 then (F2_100 i0) else (0 : Int32))))
set_option maxRecDepth 65536 in
set_option maxHeartbeats 40000000 in
theorem bk2_75 {p : Program} {l : Launch} {e : Env} {s : State} {m : MethodId} {args : Array Value} {below : List Frame} {meth : Method} {c : Code} {T0 : State} {locs : List Loc} {Z : State} {a0 : Array Value} {h0 : Heap} {n0 : Nat}
    (hx : p.tables.exec = Jvm.exec) (hZ : Z.Warmed39 s.vm) (hw : ∀ d ∈ tables_1, d.before a0 Z = true) (hby : c.code = method_2_code) (hml : c.maxLocals = 1) (hown : s.vm.findClass "com/example/orbweave/orbweave/term/NameCharsIsPnCharsBasePinLaw" = some m.cls) (hnm : meth.name = "ref") (hret : meth.sig.returnType = some .boolean) (hlk : meth.locks = false)
    (X0 : Stand p l e ({ frames := 0, cells := 0, slots := 0, locals := 0 } : Room) s m args below meth c T0 locs 0 0) (N0 : Fr n0 locs) (e0 : T0.heap = h0) (i0 : Int32) :
    Done p e below s ({ frames := 0, cells := 0, slots := 0, locals := 0 } : Room) (Qp h0 n0 (.int (F2_75 i0))) T0 (mkF m 75 #[.val (.int i0)] []) := by
  unfold F2_75
  refine Done.of (T' := T0) (g' := (mkF m 79 #[.val (.int i0)] [(.int (894 : Int32)), (.int i0)])) (fun t k => ?_) ?_
  · show Steps p.tables e below (T0.setTop (mkF m 75 #[.val (.int i0)] [])) t
    refine XS.iloadN X0.here hx rfl (hb hby d2_75) rfl ?_
    show Steps p.tables e below (T0.setTop (mkF m 76 #[.val (.int i0)] [(.int i0)])) t
    refine XS.sipush X0.here hx rfl (hb hby d2_76) ?_
    exact k
  by_cases hc79_0 : i0 = (894 : Int32)
  · rw [if_pos hc79_0]
    refine Done.of (T' := T0) (g' := (mkF m 83 #[.val (.int i0)] [(.int (0 : Int32))])) (fun t k => ?_) ?_
    · show Steps p.tables e below (T0.setTop (mkF m 79 #[.val (.int i0)] [(.int (894 : Int32)), (.int i0)])) t
      refine XS.icmpNo X0.here hx rfl (hb hby d2_79) rfl (teq hc79_0).2 ?_
      show Steps p.tables e below (T0.setTop (mkF m 82 #[.val (.int i0)] [])) t
      refine XS.iconst X0.here hx rfl (hb hby d2_82) ?_
      exact k
    exact doneN (t := .boolean) X0 (by simp) hx hret hlk (hb hby d2_83) ⟨rfl, N0, e0⟩ (by decide) (by decide)
  · rw [if_neg hc79_0]
    refine Done.of (T' := T0) (g' := (mkF m 88 #[.val (.int i0)] [(.int (8192 : Int32)), (.int i0)])) (fun t k => ?_) ?_
    · show Steps p.tables e below (T0.setTop (mkF m 79 #[.val (.int i0)] [(.int (894 : Int32)), (.int i0)])) t
      refine XS.icmpYes X0.here hx rfl (pc0 := 79) (pc' := 84) rfl (hb hby d2_79) rfl (feq hc79_0).2 (by decide) (by decide) ?_
      show Steps p.tables e below (T0.setTop (mkF m 84 #[.val (.int i0)] [])) t
      refine XS.iloadN X0.here hx rfl (hb hby d2_84) rfl ?_
      show Steps p.tables e below (T0.setTop (mkF m 85 #[.val (.int i0)] [(.int i0)])) t
      refine XS.sipush X0.here hx rfl (hb hby d2_85) ?_
      exact k
    by_cases hc88_1 : i0 < (8192 : Int32)
    · rw [if_pos hc88_1]
      refine Done.of (T' := T0) (g' := (mkF m 100 #[.val (.int i0)] [])) (fun t k => ?_) ?_
      · show Steps p.tables e below (T0.setTop (mkF m 88 #[.val (.int i0)] [(.int (8192 : Int32)), (.int i0)])) t
        refine XS.icmpYes X0.here hx rfl (pc0 := 88) (pc' := 100) rfl (hb hby d2_88) rfl (tlt hc88_1).1 (by decide) (by decide) ?_
        exact k
      exact bk2_100 hx hZ hw hby hml hown hnm hret hlk X0 N0 e0 i0
    · rw [if_neg hc88_1]
      refine Done.of (T' := T0) (g' := (mkF m 95 #[.val (.int i0)] [(.int (8203 : Int32)), (.int i0)])) (fun t k => ?_) ?_
      · show Steps p.tables e below (T0.setTop (mkF m 88 #[.val (.int i0)] [(.int (8192 : Int32)), (.int i0)])) t
        refine XS.icmpNo X0.here hx rfl (hb hby d2_88) rfl (flt hc88_1).1 ?_
        show Steps p.tables e below (T0.setTop (mkF m 91 #[.val (.int i0)] [])) t
        refine XS.iloadN X0.here hx rfl (hb hby d2_91) rfl ?_
        show Steps p.tables e below (T0.setTop (mkF m 92 #[.val (.int i0)] [(.int i0)])) t
        refine XS.sipush X0.here hx rfl (hb hby d2_92) ?_
        exact k
      by_cases hc95_2 : (8203 : Int32) < i0
      · rw [if_pos hc95_2]
        refine Done.of (T' := T0) (g' := (mkF m 100 #[.val (.int i0)] [])) (fun t k => ?_) ?_
        · show Steps p.tables e below (T0.setTop (mkF m 95 #[.val (.int i0)] [(.int (8203 : Int32)), (.int i0)])) t
          refine XS.icmpYes X0.here hx rfl (pc0 := 95) (pc' := 100) rfl (hb hby d2_95) rfl (tlt hc95_2).2.2.1 (by decide) (by decide) ?_
          exact k
        exact bk2_100 hx hZ hw hby hml hown hnm hret hlk X0 N0 e0 i0
      · rw [if_neg hc95_2]
        refine Done.of (T' := T0) (g' := (mkF m 99 #[.val (.int i0)] [(.int (0 : Int32))])) (fun t k => ?_) ?_
        · show Steps p.tables e below (T0.setTop (mkF m 95 #[.val (.int i0)] [(.int (8203 : Int32)), (.int i0)])) t
          refine XS.icmpNo X0.here hx rfl (hb hby d2_95) rfl (flt hc95_2).2.2.1 ?_
          show Steps p.tables e below (T0.setTop (mkF m 98 #[.val (.int i0)] [])) t
          refine XS.iconst X0.here hx rfl (hb hby d2_98) ?_
          exact k
        exact doneN (t := .boolean) X0 (by simp) hx hret hlk (hb hby d2_99) ⟨rfl, N0, e0⟩ (by decide) (by decide)
def F2_43 (i0 : Int32) : Int32 := (if i0 = (215 : Int32) then (0 : Int32) else (if i0 = (247 : Int32) then (0 : Int32) else (if i0 < (768 : Int32) then (F2_75 i0) else (if (879 : Int32) < i0 then (F2_75 i0) else (0 : Int32)))))
set_option maxRecDepth 65536 in
set_option maxHeartbeats 40000000 in
theorem bk2_43 {p : Program} {l : Launch} {e : Env} {s : State} {m : MethodId} {args : Array Value} {below : List Frame} {meth : Method} {c : Code} {T0 : State} {locs : List Loc} {Z : State} {a0 : Array Value} {h0 : Heap} {n0 : Nat}
    (hx : p.tables.exec = Jvm.exec) (hZ : Z.Warmed39 s.vm) (hw : ∀ d ∈ tables_1, d.before a0 Z = true) (hby : c.code = method_2_code) (hml : c.maxLocals = 1) (hown : s.vm.findClass "com/example/orbweave/orbweave/term/NameCharsIsPnCharsBasePinLaw" = some m.cls) (hnm : meth.name = "ref") (hret : meth.sig.returnType = some .boolean) (hlk : meth.locks = false)
    (X0 : Stand p l e ({ frames := 0, cells := 0, slots := 0, locals := 0 } : Room) s m args below meth c T0 locs 0 0) (N0 : Fr n0 locs) (e0 : T0.heap = h0) (i0 : Int32) :
    Done p e below s ({ frames := 0, cells := 0, slots := 0, locals := 0 } : Room) (Qp h0 n0 (.int (F2_43 i0))) T0 (mkF m 43 #[.val (.int i0)] []) := by
  unfold F2_43
  refine Done.of (T' := T0) (g' := (mkF m 47 #[.val (.int i0)] [(.int (215 : Int32)), (.int i0)])) (fun t k => ?_) ?_
  · show Steps p.tables e below (T0.setTop (mkF m 43 #[.val (.int i0)] [])) t
    refine XS.iloadN X0.here hx rfl (hb hby d2_43) rfl ?_
    show Steps p.tables e below (T0.setTop (mkF m 44 #[.val (.int i0)] [(.int i0)])) t
    refine XS.sipush X0.here hx rfl (hb hby d2_44) ?_
    exact k
  by_cases hc47_0 : i0 = (215 : Int32)
  · rw [if_pos hc47_0]
    refine Done.of (T' := T0) (g' := (mkF m 58 #[.val (.int i0)] [(.int (0 : Int32))])) (fun t k => ?_) ?_
    · show Steps p.tables e below (T0.setTop (mkF m 47 #[.val (.int i0)] [(.int (215 : Int32)), (.int i0)])) t
      refine XS.icmpYes X0.here hx rfl (pc0 := 47) (pc' := 57) rfl (hb hby d2_47) rfl (teq hc47_0).1 (by decide) (by decide) ?_
      show Steps p.tables e below (T0.setTop (mkF m 57 #[.val (.int i0)] [])) t
      refine XS.iconst X0.here hx rfl (hb hby d2_57) ?_
      exact k
    exact doneN (t := .boolean) X0 (by simp) hx hret hlk (hb hby d2_58) ⟨rfl, N0, e0⟩ (by decide) (by decide)
  · rw [if_neg hc47_0]
    refine Done.of (T' := T0) (g' := (mkF m 54 #[.val (.int i0)] [(.int (247 : Int32)), (.int i0)])) (fun t k => ?_) ?_
    · show Steps p.tables e below (T0.setTop (mkF m 47 #[.val (.int i0)] [(.int (215 : Int32)), (.int i0)])) t
      refine XS.icmpNo X0.here hx rfl (hb hby d2_47) rfl (feq hc47_0).1 ?_
      show Steps p.tables e below (T0.setTop (mkF m 50 #[.val (.int i0)] [])) t
      refine XS.iloadN X0.here hx rfl (hb hby d2_50) rfl ?_
      show Steps p.tables e below (T0.setTop (mkF m 51 #[.val (.int i0)] [(.int i0)])) t
      refine XS.sipush X0.here hx rfl (hb hby d2_51) ?_
      exact k
    by_cases hc54_1 : i0 = (247 : Int32)
    · rw [if_pos hc54_1]
      refine Done.of (T' := T0) (g' := (mkF m 58 #[.val (.int i0)] [(.int (0 : Int32))])) (fun t k => ?_) ?_
      · show Steps p.tables e below (T0.setTop (mkF m 54 #[.val (.int i0)] [(.int (247 : Int32)), (.int i0)])) t
        refine XS.icmpNo X0.here hx rfl (hb hby d2_54) rfl (teq hc54_1).2 ?_
        show Steps p.tables e below (T0.setTop (mkF m 57 #[.val (.int i0)] [])) t
        refine XS.iconst X0.here hx rfl (hb hby d2_57) ?_
        exact k
      exact doneN (t := .boolean) X0 (by simp) hx hret hlk (hb hby d2_58) ⟨rfl, N0, e0⟩ (by decide) (by decide)
    · rw [if_neg hc54_1]
      refine Done.of (T' := T0) (g' := (mkF m 63 #[.val (.int i0)] [(.int (768 : Int32)), (.int i0)])) (fun t k => ?_) ?_
      · show Steps p.tables e below (T0.setTop (mkF m 54 #[.val (.int i0)] [(.int (247 : Int32)), (.int i0)])) t
        refine XS.icmpYes X0.here hx rfl (pc0 := 54) (pc' := 59) rfl (hb hby d2_54) rfl (feq hc54_1).2 (by decide) (by decide) ?_
        show Steps p.tables e below (T0.setTop (mkF m 59 #[.val (.int i0)] [])) t
        refine XS.iloadN X0.here hx rfl (hb hby d2_59) rfl ?_
        show Steps p.tables e below (T0.setTop (mkF m 60 #[.val (.int i0)] [(.int i0)])) t
        refine XS.sipush X0.here hx rfl (hb hby d2_60) ?_
        exact k
      by_cases hc63_2 : i0 < (768 : Int32)
      · rw [if_pos hc63_2]
        refine Done.of (T' := T0) (g' := (mkF m 75 #[.val (.int i0)] [])) (fun t k => ?_) ?_
        · show Steps p.tables e below (T0.setTop (mkF m 63 #[.val (.int i0)] [(.int (768 : Int32)), (.int i0)])) t
          refine XS.icmpYes X0.here hx rfl (pc0 := 63) (pc' := 75) rfl (hb hby d2_63) rfl (tlt hc63_2).1 (by decide) (by decide) ?_
          exact k
        exact bk2_75 hx hZ hw hby hml hown hnm hret hlk X0 N0 e0 i0
      · rw [if_neg hc63_2]
        refine Done.of (T' := T0) (g' := (mkF m 70 #[.val (.int i0)] [(.int (879 : Int32)), (.int i0)])) (fun t k => ?_) ?_
        · show Steps p.tables e below (T0.setTop (mkF m 63 #[.val (.int i0)] [(.int (768 : Int32)), (.int i0)])) t
          refine XS.icmpNo X0.here hx rfl (hb hby d2_63) rfl (flt hc63_2).1 ?_
          show Steps p.tables e below (T0.setTop (mkF m 66 #[.val (.int i0)] [])) t
          refine XS.iloadN X0.here hx rfl (hb hby d2_66) rfl ?_
          show Steps p.tables e below (T0.setTop (mkF m 67 #[.val (.int i0)] [(.int i0)])) t
          refine XS.sipush X0.here hx rfl (hb hby d2_67) ?_
          exact k
        by_cases hc70_3 : (879 : Int32) < i0
        · rw [if_pos hc70_3]
          refine Done.of (T' := T0) (g' := (mkF m 75 #[.val (.int i0)] [])) (fun t k => ?_) ?_
          · show Steps p.tables e below (T0.setTop (mkF m 70 #[.val (.int i0)] [(.int (879 : Int32)), (.int i0)])) t
            refine XS.icmpYes X0.here hx rfl (pc0 := 70) (pc' := 75) rfl (hb hby d2_70) rfl (tlt hc70_3).2.2.1 (by decide) (by decide) ?_
            exact k
          exact bk2_75 hx hZ hw hby hml hown hnm hret hlk X0 N0 e0 i0
        · rw [if_neg hc70_3]
          refine Done.of (T' := T0) (g' := (mkF m 74 #[.val (.int i0)] [(.int (0 : Int32))])) (fun t k => ?_) ?_
          · show Steps p.tables e below (T0.setTop (mkF m 70 #[.val (.int i0)] [(.int (879 : Int32)), (.int i0)])) t
            refine XS.icmpNo X0.here hx rfl (hb hby d2_70) rfl (flt hc70_3).2.2.1 ?_
            show Steps p.tables e below (T0.setTop (mkF m 73 #[.val (.int i0)] [])) t
            refine XS.iconst X0.here hx rfl (hb hby d2_73) ?_
            exact k
          exact doneN (t := .boolean) X0 (by simp) hx hret hlk (hb hby d2_74) ⟨rfl, N0, e0⟩ (by decide) (by decide)
def F2_28 (i0 : Int32) : Int32 := (if i0 < (123 : Int32) then (F2_43 i0) else (if (191 : Int32) < i0 then (F2_43 i0) else (0 : Int32)))
set_option maxRecDepth 65536 in
set_option maxHeartbeats 40000000 in
theorem bk2_28 {p : Program} {l : Launch} {e : Env} {s : State} {m : MethodId} {args : Array Value} {below : List Frame} {meth : Method} {c : Code} {T0 : State} {locs : List Loc} {Z : State} {a0 : Array Value} {h0 : Heap} {n0 : Nat}
    (hx : p.tables.exec = Jvm.exec) (hZ : Z.Warmed39 s.vm) (hw : ∀ d ∈ tables_1, d.before a0 Z = true) (hby : c.code = method_2_code) (hml : c.maxLocals = 1) (hown : s.vm.findClass "com/example/orbweave/orbweave/term/NameCharsIsPnCharsBasePinLaw" = some m.cls) (hnm : meth.name = "ref") (hret : meth.sig.returnType = some .boolean) (hlk : meth.locks = false)
    (X0 : Stand p l e ({ frames := 0, cells := 0, slots := 0, locals := 0 } : Room) s m args below meth c T0 locs 0 0) (N0 : Fr n0 locs) (e0 : T0.heap = h0) (i0 : Int32) :
    Done p e below s ({ frames := 0, cells := 0, slots := 0, locals := 0 } : Room) (Qp h0 n0 (.int (F2_28 i0))) T0 (mkF m 28 #[.val (.int i0)] []) := by
  unfold F2_28
  refine Done.of (T' := T0) (g' := (mkF m 31 #[.val (.int i0)] [(.int (123 : Int32)), (.int i0)])) (fun t k => ?_) ?_
  · show Steps p.tables e below (T0.setTop (mkF m 28 #[.val (.int i0)] [])) t
    refine XS.iloadN X0.here hx rfl (hb hby d2_28) rfl ?_
    show Steps p.tables e below (T0.setTop (mkF m 29 #[.val (.int i0)] [(.int i0)])) t
    refine XS.bipush X0.here hx rfl (hb hby d2_29) ?_
    exact k
  by_cases hc31_0 : i0 < (123 : Int32)
  · rw [if_pos hc31_0]
    refine Done.of (T' := T0) (g' := (mkF m 43 #[.val (.int i0)] [])) (fun t k => ?_) ?_
    · show Steps p.tables e below (T0.setTop (mkF m 31 #[.val (.int i0)] [(.int (123 : Int32)), (.int i0)])) t
      refine XS.icmpYes X0.here hx rfl (pc0 := 31) (pc' := 43) rfl (hb hby d2_31) rfl (tlt hc31_0).1 (by decide) (by decide) ?_
      exact k
    exact bk2_43 hx hZ hw hby hml hown hnm hret hlk X0 N0 e0 i0
  · rw [if_neg hc31_0]
    refine Done.of (T' := T0) (g' := (mkF m 38 #[.val (.int i0)] [(.int (191 : Int32)), (.int i0)])) (fun t k => ?_) ?_
    · show Steps p.tables e below (T0.setTop (mkF m 31 #[.val (.int i0)] [(.int (123 : Int32)), (.int i0)])) t
      refine XS.icmpNo X0.here hx rfl (hb hby d2_31) rfl (flt hc31_0).1 ?_
      show Steps p.tables e below (T0.setTop (mkF m 34 #[.val (.int i0)] [])) t
      refine XS.iloadN X0.here hx rfl (hb hby d2_34) rfl ?_
      show Steps p.tables e below (T0.setTop (mkF m 35 #[.val (.int i0)] [(.int i0)])) t
      refine XS.sipush X0.here hx rfl (hb hby d2_35) ?_
      exact k
    by_cases hc38_1 : (191 : Int32) < i0
    · rw [if_pos hc38_1]
      refine Done.of (T' := T0) (g' := (mkF m 43 #[.val (.int i0)] [])) (fun t k => ?_) ?_
      · show Steps p.tables e below (T0.setTop (mkF m 38 #[.val (.int i0)] [(.int (191 : Int32)), (.int i0)])) t
        refine XS.icmpYes X0.here hx rfl (pc0 := 38) (pc' := 43) rfl (hb hby d2_38) rfl (tlt hc38_1).2.2.1 (by decide) (by decide) ?_
        exact k
      exact bk2_43 hx hZ hw hby hml hown hnm hret hlk X0 N0 e0 i0
    · rw [if_neg hc38_1]
      refine Done.of (T' := T0) (g' := (mkF m 42 #[.val (.int i0)] [(.int (0 : Int32))])) (fun t k => ?_) ?_
      · show Steps p.tables e below (T0.setTop (mkF m 38 #[.val (.int i0)] [(.int (191 : Int32)), (.int i0)])) t
        refine XS.icmpNo X0.here hx rfl (hb hby d2_38) rfl (flt hc38_1).2.2.1 ?_
        show Steps p.tables e below (T0.setTop (mkF m 41 #[.val (.int i0)] [])) t
        refine XS.iconst X0.here hx rfl (hb hby d2_41) ?_
        exact k
      exact doneN (t := .boolean) X0 (by simp) hx hret hlk (hb hby d2_42) ⟨rfl, N0, e0⟩ (by decide) (by decide)
def F2_0 (p1 : Int32) : Int32 := (if p1 < (65 : Int32) then (0 : Int32) else (if (983039 : Int32) < p1 then (0 : Int32) else (if p1 < (91 : Int32) then (F2_28 p1) else (if (96 : Int32) < p1 then (F2_28 p1) else (0 : Int32)))))
set_option maxRecDepth 65536 in
set_option maxHeartbeats 40000000 in
theorem bk2_0 {p : Program} {l : Launch} {e : Env} {s : State} {m : MethodId} {args : Array Value} {below : List Frame} {meth : Method} {c : Code} {T0 : State} {locs : List Loc} {Z : State} {a0 : Array Value} {h0 : Heap} {n0 : Nat}
    (hx : p.tables.exec = Jvm.exec) (hZ : Z.Warmed39 s.vm) (hw : ∀ d ∈ tables_1, d.before a0 Z = true) (hby : c.code = method_2_code) (hml : c.maxLocals = 1) (hown : s.vm.findClass "com/example/orbweave/orbweave/term/NameCharsIsPnCharsBasePinLaw" = some m.cls) (hnm : meth.name = "ref") (hret : meth.sig.returnType = some .boolean) (hlk : meth.locks = false)
    (X0 : Stand p l e ({ frames := 0, cells := 0, slots := 0, locals := 0 } : Room) s m args below meth c T0 locs 0 0) (N0 : Fr n0 locs) (e0 : T0.heap = h0) (p1 : Int32) :
    Done p e below s ({ frames := 0, cells := 0, slots := 0, locals := 0 } : Room) (Qp h0 n0 (.int (F2_0 p1))) T0 (mkF m 0 #[.val (.int p1)] []) := by
  unfold F2_0
  refine Done.of (T' := T0) (g' := (mkF m 3 #[.val (.int p1)] [(.int (65 : Int32)), (.int p1)])) (fun t k => ?_) ?_
  · show Steps p.tables e below (T0.setTop (mkF m 0 #[.val (.int p1)] [])) t
    refine XS.iloadN X0.here hx rfl (hb hby d2_0) rfl ?_
    show Steps p.tables e below (T0.setTop (mkF m 1 #[.val (.int p1)] [(.int p1)])) t
    refine XS.bipush X0.here hx rfl (hb hby d2_1) ?_
    exact k
  by_cases hc3_0 : p1 < (65 : Int32)
  · rw [if_pos hc3_0]
    refine Done.of (T' := T0) (g' := (mkF m 13 #[.val (.int p1)] [(.int (0 : Int32))])) (fun t k => ?_) ?_
    · show Steps p.tables e below (T0.setTop (mkF m 3 #[.val (.int p1)] [(.int (65 : Int32)), (.int p1)])) t
      refine XS.icmpYes X0.here hx rfl (pc0 := 3) (pc' := 12) rfl (hb hby d2_3) rfl (tlt hc3_0).1 (by decide) (by decide) ?_
      show Steps p.tables e below (T0.setTop (mkF m 12 #[.val (.int p1)] [])) t
      refine XS.iconst X0.here hx rfl (hb hby d2_12) ?_
      exact k
    exact doneN (t := .boolean) X0 (by simp) hx hret hlk (hb hby d2_13) ⟨rfl, N0, e0⟩ (by decide) (by decide)
  · rw [if_neg hc3_0]
    refine Done.of (T' := T0) (g' := (mkF m 9 #[.val (.int p1)] [(.int (983039 : Int32)), (.int p1)])) (fun t k => ?_) ?_
    · show Steps p.tables e below (T0.setTop (mkF m 3 #[.val (.int p1)] [(.int (65 : Int32)), (.int p1)])) t
      refine XS.icmpNo X0.here hx rfl (hb hby d2_3) rfl (flt hc3_0).1 ?_
      show Steps p.tables e below (T0.setTop (mkF m 6 #[.val (.int p1)] [])) t
      refine XS.iloadN X0.here hx rfl (hb hby d2_6) rfl ?_
      show Steps p.tables e below (T0.setTop (mkF m 7 #[.val (.int p1)] [(.int p1)])) t
      refine X0.ldcInt hx hown (mvT hZ (hw _ (List.mem_of_getElem? (i := 7) rfl))) (g := (mkF m 7 #[.val (.int p1)] [(.int p1)])) rfl (hb hby d2_7) _ ?_
      exact k
    by_cases hc9_1 : (983039 : Int32) < p1
    · rw [if_pos hc9_1]
      refine Done.of (T' := T0) (g' := (mkF m 13 #[.val (.int p1)] [(.int (0 : Int32))])) (fun t k => ?_) ?_
      · show Steps p.tables e below (T0.setTop (mkF m 9 #[.val (.int p1)] [(.int (983039 : Int32)), (.int p1)])) t
        refine XS.icmpNo X0.here hx rfl (hb hby d2_9) rfl (tlt hc9_1).2.2.2 ?_
        show Steps p.tables e below (T0.setTop (mkF m 12 #[.val (.int p1)] [])) t
        refine XS.iconst X0.here hx rfl (hb hby d2_12) ?_
        exact k
      exact doneN (t := .boolean) X0 (by simp) hx hret hlk (hb hby d2_13) ⟨rfl, N0, e0⟩ (by decide) (by decide)
    · rw [if_neg hc9_1]
      refine Done.of (T' := T0) (g' := (mkF m 17 #[.val (.int p1)] [(.int (91 : Int32)), (.int p1)])) (fun t k => ?_) ?_
      · show Steps p.tables e below (T0.setTop (mkF m 9 #[.val (.int p1)] [(.int (983039 : Int32)), (.int p1)])) t
        refine XS.icmpYes X0.here hx rfl (pc0 := 9) (pc' := 14) rfl (hb hby d2_9) rfl (flt hc9_1).2.2.2 (by decide) (by decide) ?_
        show Steps p.tables e below (T0.setTop (mkF m 14 #[.val (.int p1)] [])) t
        refine XS.iloadN X0.here hx rfl (hb hby d2_14) rfl ?_
        show Steps p.tables e below (T0.setTop (mkF m 15 #[.val (.int p1)] [(.int p1)])) t
        refine XS.bipush X0.here hx rfl (hb hby d2_15) ?_
        exact k
      by_cases hc17_2 : p1 < (91 : Int32)
      · rw [if_pos hc17_2]
        refine Done.of (T' := T0) (g' := (mkF m 28 #[.val (.int p1)] [])) (fun t k => ?_) ?_
        · show Steps p.tables e below (T0.setTop (mkF m 17 #[.val (.int p1)] [(.int (91 : Int32)), (.int p1)])) t
          refine XS.icmpYes X0.here hx rfl (pc0 := 17) (pc' := 28) rfl (hb hby d2_17) rfl (tlt hc17_2).1 (by decide) (by decide) ?_
          exact k
        exact bk2_28 hx hZ hw hby hml hown hnm hret hlk X0 N0 e0 p1
      · rw [if_neg hc17_2]
        refine Done.of (T' := T0) (g' := (mkF m 23 #[.val (.int p1)] [(.int (96 : Int32)), (.int p1)])) (fun t k => ?_) ?_
        · show Steps p.tables e below (T0.setTop (mkF m 17 #[.val (.int p1)] [(.int (91 : Int32)), (.int p1)])) t
          refine XS.icmpNo X0.here hx rfl (hb hby d2_17) rfl (flt hc17_2).1 ?_
          show Steps p.tables e below (T0.setTop (mkF m 20 #[.val (.int p1)] [])) t
          refine XS.iloadN X0.here hx rfl (hb hby d2_20) rfl ?_
          show Steps p.tables e below (T0.setTop (mkF m 21 #[.val (.int p1)] [(.int p1)])) t
          refine XS.bipush X0.here hx rfl (hb hby d2_21) ?_
          exact k
        by_cases hc23_3 : (96 : Int32) < p1
        · rw [if_pos hc23_3]
          refine Done.of (T' := T0) (g' := (mkF m 28 #[.val (.int p1)] [])) (fun t k => ?_) ?_
          · show Steps p.tables e below (T0.setTop (mkF m 23 #[.val (.int p1)] [(.int (96 : Int32)), (.int p1)])) t
            refine XS.icmpYes X0.here hx rfl (pc0 := 23) (pc' := 28) rfl (hb hby d2_23) rfl (tlt hc23_3).2.2.1 (by decide) (by decide) ?_
            exact k
          exact bk2_28 hx hZ hw hby hml hown hnm hret hlk X0 N0 e0 p1
        · rw [if_neg hc23_3]
          refine Done.of (T' := T0) (g' := (mkF m 27 #[.val (.int p1)] [(.int (0 : Int32))])) (fun t k => ?_) ?_
          · show Steps p.tables e below (T0.setTop (mkF m 23 #[.val (.int p1)] [(.int (96 : Int32)), (.int p1)])) t
            refine XS.icmpNo X0.here hx rfl (hb hby d2_23) rfl (flt hc23_3).2.2.1 ?_
            show Steps p.tables e below (T0.setTop (mkF m 26 #[.val (.int p1)] [])) t
            refine XS.iconst X0.here hx rfl (hb hby d2_26) ?_
            exact k
          exact doneN (t := .boolean) X0 (by simp) hx hret hlk (hb hby d2_27) ⟨rfl, N0, e0⟩ (by decide) (by decide)
theorem ef_2 (m : MethodId) (p1 : Int32) : entryFrame m #[(.int p1)] 1 = mkF m 0 #[.val (.int p1)] [] := by first | (simp [entryFrame, mkF, argsToLocals, Value.category, maxLocals]; done) | rfl
theorem pn_2 : plainName "com/example/orbweave/orbweave/term/NameCharsIsPnCharsBasePinLaw" = true := by first | (simp [plainName, overriddenIn]; done) | decide +kernel
set_option maxRecDepth 65536 in
set_option maxHeartbeats 40000000 in
theorem rm2 (l : Launch) (Z : State) (a0 : Array Value) (hw : ∀ d ∈ tables_1, d.before a0 Z = true) (ws : List Jvm.Cond) (p1 : Int32) (h0 : Heap) (n0 : Nat) :
    MetFree l (⟨"com/example/orbweave/orbweave/term/NameCharsIsPnCharsBasePinLaw", "ref", "(I)Z"⟩ : MethodName) (head1 (Jvm.Cond.code (⟨"com/example/orbweave/orbweave/term/NameCharsIsPnCharsBasePinLaw", "ref", "(I)Z"⟩ : MethodName) method_2_code 1 (some .boolean) :: ws) ({ frames := 0, cells := 0, slots := 0, locals := 0 } : Room)) (fun a U => a = #[(.int p1)] ∧ Z.Warmed39 U.vm ∧ U.heap = h0) (fun _ _ _ _ _ => True) (fun _ U o U' => ∃ v L, o = .returned v ∧ (Qp h0 n0 (.int (F2_0 p1))) v U'.heap L ∧ FrameEnd U o U' L ({ frames := 0, cells := 0, slots := 0, locals := 0 } : Room).cells ({ frames := 0, cells := 0, slots := 0, locals := 0 } : Room).slots) := by
  refine MetFree.of_bodySF (plainFor_of_name pn_2) hisR ?_
  intro p e s m args below meth c s₁ Bd hml0 hP hK
  obtain ⟨rfl, hZ, hh⟩ := hP
  have hown : s.vm.findClass "com/example/orbweave/orbweave/term/NameCharsIsPnCharsBasePinLaw" = some m.cls := findClass_of_methodNamed Bd.named
  have hnm := (name_of_methodNamed Bd.named Bd.method).1
  have X0 : Stand p l e ({ frames := 0, cells := 0, slots := 0, locals := 0 } : Room) s m #[(.int p1)] below meth c s₁ [] 0 0 := Stand.of_body Bd
  have e0 : s₁.heap = h0 := by rw [← hh, Bd.state]; rfl
  have d := bk2_0 (n0 := n0) Bd.exec hZ hw Bd.bytes hml0 hown hnm Bd.returns (BodyLoose.notSynchronized Bd) X0 (Fr.nil n0) e0 p1
  have d2 : Done p e below s ({ frames := 0, cells := 0, slots := 0, locals := 0 } : Room) (Qp h0 n0 (.int (F2_0 p1))) s₁ (entryFrame m #[(.int p1)] 1) := by rw [ef_2]; exact d
  exact d2
def own_tab : List Int32 := [(65 : Int32), (90 : Int32), (97 : Int32), (122 : Int32), (192 : Int32), (214 : Int32), (216 : Int32), (246 : Int32), (248 : Int32), (767 : Int32), (880 : Int32), (893 : Int32), (895 : Int32), (8191 : Int32), (8204 : Int32), (8205 : Int32), (8304 : Int32), (8591 : Int32), (11264 : Int32), (12271 : Int32), (12289 : Int32), (55295 : Int32), (63744 : Int32), (64975 : Int32), (65008 : Int32), (65533 : Int32), (65536 : Int32), (983039 : Int32)]
theorem pd_0 : parseMethodDescriptor "(I)Z" = some ⟨[.int], some .boolean⟩ := by decide +kernel
theorem own_in (p2 : Int32) : ¬ (((p2 &&& (2147483647 : Int32)) % (28 : Int32)) < 0) ∧ ((p2 &&& (2147483647 : Int32)) % (28 : Int32)) < (28 : Int32) := by
  have m := c_and p2 2147483647 (by decide)
  have r := (c_irem (p2 &&& 2147483647) 28 28 rfl).1 m.1
  have l0 : (0 : Int32).toInt = 0 := rfl
  have l1 : (28 : Int32).toInt = 28 := rfl
  rw [Int32.lt_iff_toInt_lt, Int32.lt_iff_toInt_lt]; omega
def F0_273 (i0 : Int32) (i1 : Int32) (i2 : Int32) (i3 : Int32) (i5 : Int32) (i6 : Int32) (i7 : Int32) (i8 : Int32) (i9 : Int32) (x0 : Int32) : Int32 := (if i8 = (0 : Int32) then (0 : Int32) else (if i9 = (0 : Int32) then (0 : Int32) else (if x0 = (0 : Int32) then (0 : Int32) else (1 : Int32))))
set_option maxRecDepth 65536 in
set_option maxHeartbeats 40000000 in
theorem bk0_273 {p : Program} {l : Launch} {e : Env} {s : State} {m : MethodId} {args : Array Value} {below : List Frame} {meth : Method} {c : Code} {T0 : State} {locs : List Loc} {Z : State} {a0 : Array Value} {h0 : Heap} {n0 : Nat}
    (hx : p.tables.exec = Jvm.exec) (hZ : Z.Warmed39 s.vm) (hw : ∀ d ∈ tables_1, d.before a0 Z = true) (hby : c.code = code) (hml : c.maxLocals = 11) (hown : s.vm.findClass "com/example/orbweave/orbweave/term/NameCharsIsPnCharsBasePinLaw" = some m.cls) (hnm : meth.name = "law") (hret : meth.sig.returnType = some .boolean) (hlk : meth.locks = false)
    (X0 : Stand p l e room_1 s m args below meth c T0 locs 1 28) (N0 : Fr n0 locs) (e0 : T0.heap = h0) (i0 : Int32) (i1 : Int32) (i2 : Int32) (i3 : Int32) (o4 : Addr) (i5 : Int32) (i6 : Int32) (i7 : Int32) (i8 : Int32) (i9 : Int32) (x0 : Int32) (Z0 : n0 ≤ h0.size) (g_o4 : n0 ≤ o4) :
    Done p e below s room_1 (Ql n0 (.int (F0_273 i0 i1 i2 i3 i5 i6 i7 i8 i9 x0))) T0 (mkF m 273 #[.val (.int i0), .val (.int i1), .val (.int i2), .val (.int i3), .val (.ref o4), .val (.int i5), .val (.int i6), .val (.int i7), .val (.int i8), .val (.int i9), .unset] [(.int x0)]) := by
  unfold F0_273
  refine Done.of (T' := T0) (g' := (mkF m 277 #[.val (.int i0), .val (.int i1), .val (.int i2), .val (.int i3), .val (.ref o4), .val (.int i5), .val (.int i6), .val (.int i7), .val (.int i8), .val (.int i9), .val (.int x0)] [(.int i8)])) (fun t k => ?_) ?_
  · show Steps p.tables e below (T0.setTop (mkF m 273 #[.val (.int i0), .val (.int i1), .val (.int i2), .val (.int i3), .val (.ref o4), .val (.int i5), .val (.int i6), .val (.int i7), .val (.int i8), .val (.int i9), .unset] [(.int x0)])) t
    refine XS.istore X0.here hx rfl (hb hby at_273) rfl (l' := #[.val (.int i0), .val (.int i1), .val (.int i2), .val (.int i3), .val (.ref o4), .val (.int i5), .val (.int i6), .val (.int i7), .val (.int i8), .val (.int i9), .val (.int x0)]) rfl ?_
    show Steps p.tables e below (T0.setTop (mkF m 275 #[.val (.int i0), .val (.int i1), .val (.int i2), .val (.int i3), .val (.ref o4), .val (.int i5), .val (.int i6), .val (.int i7), .val (.int i8), .val (.int i9), .val (.int x0)] [])) t
    refine XS.iload X0.here hx rfl (hb hby at_275) rfl ?_
    exact k
  by_cases hc277_0 : i8 = (0 : Int32)
  · rw [if_pos hc277_0]
    refine Done.of (T' := T0) (g' := (mkF m 295 #[.val (.int i0), .val (.int i1), .val (.int i2), .val (.int i3), .val (.ref o4), .val (.int i5), .val (.int i6), .val (.int i7), .val (.int i8), .val (.int i9), .val (.int x0)] [(.int (0 : Int32))])) (fun t k => ?_) ?_
    · show Steps p.tables e below (T0.setTop (mkF m 277 #[.val (.int i0), .val (.int i1), .val (.int i2), .val (.int i3), .val (.ref o4), .val (.int i5), .val (.int i6), .val (.int i7), .val (.int i8), .val (.int i9), .val (.int x0)] [(.int i8)])) t
      refine XS.ifYes X0.here hx rfl (pc0 := 277) (pc' := 294) rfl (hb hby at_277) rfl ((if0 _ _).trans (teq hc277_0).1) (by decide) (by decide) ?_
      show Steps p.tables e below (T0.setTop (mkF m 294 #[.val (.int i0), .val (.int i1), .val (.int i2), .val (.int i3), .val (.ref o4), .val (.int i5), .val (.int i6), .val (.int i7), .val (.int i8), .val (.int i9), .val (.int x0)] [])) t
      refine XS.iconst X0.here hx rfl (hb hby at_294) ?_
      exact k
    exact doneN (t := .boolean) X0 (by simp) hx hret hlk (hb hby at_295) ⟨rfl, N0⟩ (by decide) (by decide)
  · rw [if_neg hc277_0]
    refine Done.of (T' := T0) (g' := (mkF m 282 #[.val (.int i0), .val (.int i1), .val (.int i2), .val (.int i3), .val (.ref o4), .val (.int i5), .val (.int i6), .val (.int i7), .val (.int i8), .val (.int i9), .val (.int x0)] [(.int i9)])) (fun t k => ?_) ?_
    · show Steps p.tables e below (T0.setTop (mkF m 277 #[.val (.int i0), .val (.int i1), .val (.int i2), .val (.int i3), .val (.ref o4), .val (.int i5), .val (.int i6), .val (.int i7), .val (.int i8), .val (.int i9), .val (.int x0)] [(.int i8)])) t
      refine XS.ifNo X0.here hx rfl (hb hby at_277) rfl ((if0 _ _).trans (feq hc277_0).1) ?_
      show Steps p.tables e below (T0.setTop (mkF m 280 #[.val (.int i0), .val (.int i1), .val (.int i2), .val (.int i3), .val (.ref o4), .val (.int i5), .val (.int i6), .val (.int i7), .val (.int i8), .val (.int i9), .val (.int x0)] [])) t
      refine XS.iload X0.here hx rfl (hb hby at_280) rfl ?_
      exact k
    by_cases hc282_1 : i9 = (0 : Int32)
    · rw [if_pos hc282_1]
      refine Done.of (T' := T0) (g' := (mkF m 295 #[.val (.int i0), .val (.int i1), .val (.int i2), .val (.int i3), .val (.ref o4), .val (.int i5), .val (.int i6), .val (.int i7), .val (.int i8), .val (.int i9), .val (.int x0)] [(.int (0 : Int32))])) (fun t k => ?_) ?_
      · show Steps p.tables e below (T0.setTop (mkF m 282 #[.val (.int i0), .val (.int i1), .val (.int i2), .val (.int i3), .val (.ref o4), .val (.int i5), .val (.int i6), .val (.int i7), .val (.int i8), .val (.int i9), .val (.int x0)] [(.int i9)])) t
        refine XS.ifYes X0.here hx rfl (pc0 := 282) (pc' := 294) rfl (hb hby at_282) rfl ((if0 _ _).trans (teq hc282_1).1) (by decide) (by decide) ?_
        show Steps p.tables e below (T0.setTop (mkF m 294 #[.val (.int i0), .val (.int i1), .val (.int i2), .val (.int i3), .val (.ref o4), .val (.int i5), .val (.int i6), .val (.int i7), .val (.int i8), .val (.int i9), .val (.int x0)] [])) t
        refine XS.iconst X0.here hx rfl (hb hby at_294) ?_
        exact k
      exact doneN (t := .boolean) X0 (by simp) hx hret hlk (hb hby at_295) ⟨rfl, N0⟩ (by decide) (by decide)
    · rw [if_neg hc282_1]
      refine Done.of (T' := T0) (g' := (mkF m 287 #[.val (.int i0), .val (.int i1), .val (.int i2), .val (.int i3), .val (.ref o4), .val (.int i5), .val (.int i6), .val (.int i7), .val (.int i8), .val (.int i9), .val (.int x0)] [(.int x0)])) (fun t k => ?_) ?_
      · show Steps p.tables e below (T0.setTop (mkF m 282 #[.val (.int i0), .val (.int i1), .val (.int i2), .val (.int i3), .val (.ref o4), .val (.int i5), .val (.int i6), .val (.int i7), .val (.int i8), .val (.int i9), .val (.int x0)] [(.int i9)])) t
        refine XS.ifNo X0.here hx rfl (hb hby at_282) rfl ((if0 _ _).trans (feq hc282_1).1) ?_
        show Steps p.tables e below (T0.setTop (mkF m 285 #[.val (.int i0), .val (.int i1), .val (.int i2), .val (.int i3), .val (.ref o4), .val (.int i5), .val (.int i6), .val (.int i7), .val (.int i8), .val (.int i9), .val (.int x0)] [])) t
        refine XS.iload X0.here hx rfl (hb hby at_285) rfl ?_
        exact k
      by_cases hc287_2 : x0 = (0 : Int32)
      · rw [if_pos hc287_2]
        refine Done.of (T' := T0) (g' := (mkF m 295 #[.val (.int i0), .val (.int i1), .val (.int i2), .val (.int i3), .val (.ref o4), .val (.int i5), .val (.int i6), .val (.int i7), .val (.int i8), .val (.int i9), .val (.int x0)] [(.int (0 : Int32))])) (fun t k => ?_) ?_
        · show Steps p.tables e below (T0.setTop (mkF m 287 #[.val (.int i0), .val (.int i1), .val (.int i2), .val (.int i3), .val (.ref o4), .val (.int i5), .val (.int i6), .val (.int i7), .val (.int i8), .val (.int i9), .val (.int x0)] [(.int x0)])) t
          refine XS.ifYes X0.here hx rfl (pc0 := 287) (pc' := 294) rfl (hb hby at_287) rfl ((if0 _ _).trans (teq hc287_2).1) (by decide) (by decide) ?_
          show Steps p.tables e below (T0.setTop (mkF m 294 #[.val (.int i0), .val (.int i1), .val (.int i2), .val (.int i3), .val (.ref o4), .val (.int i5), .val (.int i6), .val (.int i7), .val (.int i8), .val (.int i9), .val (.int x0)] [])) t
          refine XS.iconst X0.here hx rfl (hb hby at_294) ?_
          exact k
        exact doneN (t := .boolean) X0 (by simp) hx hret hlk (hb hby at_295) ⟨rfl, N0⟩ (by decide) (by decide)
      · rw [if_neg hc287_2]
        refine Done.of (T' := T0) (g' := (mkF m 295 #[.val (.int i0), .val (.int i1), .val (.int i2), .val (.int i3), .val (.ref o4), .val (.int i5), .val (.int i6), .val (.int i7), .val (.int i8), .val (.int i9), .val (.int x0)] [(.int (1 : Int32))])) (fun t k => ?_) ?_
        · show Steps p.tables e below (T0.setTop (mkF m 287 #[.val (.int i0), .val (.int i1), .val (.int i2), .val (.int i3), .val (.ref o4), .val (.int i5), .val (.int i6), .val (.int i7), .val (.int i8), .val (.int i9), .val (.int x0)] [(.int x0)])) t
          refine XS.ifNo X0.here hx rfl (hb hby at_287) rfl ((if0 _ _).trans (feq hc287_2).1) ?_
          show Steps p.tables e below (T0.setTop (mkF m 290 #[.val (.int i0), .val (.int i1), .val (.int i2), .val (.int i3), .val (.ref o4), .val (.int i5), .val (.int i6), .val (.int i7), .val (.int i8), .val (.int i9), .val (.int x0)] [])) t
          refine XS.iconst X0.here hx rfl (hb hby at_290) ?_
          show Steps p.tables e below (T0.setTop (mkF m 291 #[.val (.int i0), .val (.int i1), .val (.int i2), .val (.int i3), .val (.ref o4), .val (.int i5), .val (.int i6), .val (.int i7), .val (.int i8), .val (.int i9), .val (.int x0)] [(.int (1 : Int32))])) t
          refine XS.goto X0.here hx rfl (pc0 := 291) (pc' := 295) rfl (hb hby at_291) (by decide) (by decide) ?_
          exact k
        exact doneN (t := .boolean) X0 (by simp) hx hret hlk (hb hby at_295) ⟨rfl, N0⟩ (by decide) (by decide)
def F0_253 (i0 : Int32) (i1 : Int32) (i2 : Int32) (i3 : Int32) (i5 : Int32) (i6 : Int32) (i7 : Int32) (i8 : Int32) (x0 : Int32) : Int32 := (if (F1_0 i7) = (F2_0 i7) then (F0_273 i0 i1 i2 i3 i5 i6 i7 i8 x0 (1 : Int32)) else (F0_273 i0 i1 i2 i3 i5 i6 i7 i8 x0 (0 : Int32)))
set_option maxRecDepth 65536 in
set_option maxHeartbeats 40000000 in
theorem bk0_253 {p : Program} {l : Launch} {e : Env} {s : State} {m : MethodId} {args : Array Value} {below : List Frame} {meth : Method} {c : Code} {T0 : State} {locs : List Loc} {Z : State} {a0 : Array Value} {h0 : Heap} {n0 : Nat}
    (hx : p.tables.exec = Jvm.exec) (hZ : Z.Warmed39 s.vm) (hw : ∀ d ∈ tables_1, d.before a0 Z = true) (hby : c.code = code) (hml : c.maxLocals = 11) (hown : s.vm.findClass "com/example/orbweave/orbweave/term/NameCharsIsPnCharsBasePinLaw" = some m.cls) (hnm : meth.name = "law") (hret : meth.sig.returnType = some .boolean) (hlk : meth.locks = false)
    (X0 : Stand p l e room_1 s m args below meth c T0 locs 1 28) (N0 : Fr n0 locs) (e0 : T0.heap = h0) (i0 : Int32) (i1 : Int32) (i2 : Int32) (i3 : Int32) (o4 : Addr) (i5 : Int32) (i6 : Int32) (i7 : Int32) (i8 : Int32) (x0 : Int32) (Z0 : n0 ≤ h0.size) (g_o4 : n0 ≤ o4) :
    Done p e below s room_1 (Ql n0 (.int (F0_253 i0 i1 i2 i3 i5 i6 i7 i8 x0))) T0 (mkF m 253 #[.val (.int i0), .val (.int i1), .val (.int i2), .val (.int i3), .val (.ref o4), .val (.int i5), .val (.int i6), .val (.int i7), .val (.int i8), .unset, .unset] [(.int x0)]) := by
  unfold F0_253
  refine Done.of (T' := T0) (g' := (mkF m 257 #[.val (.int i0), .val (.int i1), .val (.int i2), .val (.int i3), .val (.ref o4), .val (.int i5), .val (.int i6), .val (.int i7), .val (.int i8), .val (.int x0), .unset] [(.int i7)])) (fun t k => ?_) ?_
  · show Steps p.tables e below (T0.setTop (mkF m 253 #[.val (.int i0), .val (.int i1), .val (.int i2), .val (.int i3), .val (.ref o4), .val (.int i5), .val (.int i6), .val (.int i7), .val (.int i8), .unset, .unset] [(.int x0)])) t
    refine XS.istore X0.here hx rfl (hb hby at_253) rfl (l' := #[.val (.int i0), .val (.int i1), .val (.int i2), .val (.int i3), .val (.ref o4), .val (.int i5), .val (.int i6), .val (.int i7), .val (.int i8), .val (.int x0), .unset]) rfl ?_
    show Steps p.tables e below (T0.setTop (mkF m 255 #[.val (.int i0), .val (.int i1), .val (.int i2), .val (.int i3), .val (.ref o4), .val (.int i5), .val (.int i6), .val (.int i7), .val (.int i8), .val (.int x0), .unset] [])) t
    refine XS.iload X0.here hx rfl (hb hby at_255) rfl ?_
    exact k
  obtain ⟨_, _, ⟨T1, L1, k1, n1⟩, -, X1, ⟨Lc1, hQ1, l1, y1, z1⟩, st1⟩ := Jvm.LawKit.callS X0 hx (y := (⟨"com/example/orbweave/orbweave/term/NameChars", "isPnCharsBase", "(I)Z"⟩ : MethodName)) hown (mvT hZ (hw _ (List.mem_of_getElem? (i := 10) rfl))) (mvT hZ (hw _ (List.mem_of_getElem? (i := 11) rfl))) (mvT hZ (hw _ (List.mem_of_getElem? (i := 12) rfl))) (mvT hZ (hw _ (List.mem_of_getElem? (i := 13) rfl))) (by decide) (backOf (W := 0) (rm1 l Z a0 hw [] i7 h0 n0) hZ (hw _ (List.mem_of_getElem? (i := 13) rfl)) (hw _ (List.mem_of_getElem? (i := 12) rfl)) (by decide) (by decide)) (g := (mkF m 257 #[.val (.int i0), .val (.int i1), .val (.int i2), .val (.int i3), .val (.ref o4), .val (.int i5), .val (.int i6), .val (.int i7), .val (.int i8), .val (.int x0), .unset] [(.int i7)])) rfl (by rw [hml]; rfl) (argsL := [(.int i7)]) (rest := []) (lenOf pd_0 rfl) rfl (by show 2 * 0 + _ ≤ _; exact Nat.le_of_eq rfl) (hb hby at_257) (fun _ _ => ⟨rfl, e0, (by decide : 1 + 0 ≤ _), (by decide : 28 + 0 ≤ _)⟩)
  dsimp only [Pt.U, Pt.locs, Pt.cells, Pt.slots] at X1 l1 y1 z1 st1 hQ1
  subst l1 y1 z1
  obtain ⟨rfl, N1q, e1⟩ := hQ1
  have N1 := Fr.app N0 N1q
  replace X1 : Stand p l e room_1 s m args below meth c T1 _ 1 28 := X1
  refine Done.of (g' := (mkF m 260 #[.val (.int i0), .val (.int i1), .val (.int i2), .val (.int i3), .val (.ref o4), .val (.int i5), .val (.int i6), .val (.int i7), .val (.int i8), .val (.int x0), .unset] [(.int (F1_0 i7))])) st1 ?_
  refine Done.of (T' := T1) (g' := (mkF m 262 #[.val (.int i0), .val (.int i1), .val (.int i2), .val (.int i3), .val (.ref o4), .val (.int i5), .val (.int i6), .val (.int i7), .val (.int i8), .val (.int x0), .unset] [(.int i7), (.int (F1_0 i7))])) (fun t k => ?_) ?_
  · show Steps p.tables e below (T1.setTop (mkF m 260 #[.val (.int i0), .val (.int i1), .val (.int i2), .val (.int i3), .val (.ref o4), .val (.int i5), .val (.int i6), .val (.int i7), .val (.int i8), .val (.int x0), .unset] [(.int (F1_0 i7))])) t
    refine XS.iload X1.here hx rfl (hb hby at_260) rfl ?_
    exact k
  obtain ⟨_, _, ⟨T2, L2, k2, n2⟩, -, X2, ⟨Lc2, hQ2, l2, y2, z2⟩, st2⟩ := Jvm.LawKit.callS X1 hx (y := (⟨"com/example/orbweave/orbweave/term/NameCharsIsPnCharsBasePinLaw", "ref", "(I)Z"⟩ : MethodName)) hown (mvT hZ (hw _ (List.mem_of_getElem? (i := 17) rfl))) (mvT hZ (hw _ (List.mem_of_getElem? (i := 18) rfl))) (mvT hZ (hw _ (List.mem_of_getElem? (i := 19) rfl))) (mvT hZ (hw _ (List.mem_of_getElem? (i := 20) rfl))) (by decide) (backOf (W := 1) (rm2 l Z a0 hw [] i7 h0 n0) hZ (hw _ (List.mem_of_getElem? (i := 20) rfl)) (hw _ (List.mem_of_getElem? (i := 19) rfl)) (by decide) (by decide)) (g := (mkF m 262 #[.val (.int i0), .val (.int i1), .val (.int i2), .val (.int i3), .val (.ref o4), .val (.int i5), .val (.int i6), .val (.int i7), .val (.int i8), .val (.int x0), .unset] [(.int i7), (.int (F1_0 i7))])) rfl (by rw [hml]; rfl) (argsL := [(.int i7)]) (rest := [(.int (F1_0 i7))]) (lenOf pd_0 rfl) rfl (by show 2 * 0 + _ ≤ _; exact Nat.le_of_eq rfl) (hb hby at_262) (fun _ _ => ⟨rfl, e1, (by decide : 1 + 0 ≤ _), (by decide : 28 + 0 ≤ _)⟩)
  dsimp only [Pt.U, Pt.locs, Pt.cells, Pt.slots] at X2 l2 y2 z2 st2 hQ2
  subst l2 y2 z2
  obtain ⟨rfl, N2q, e2⟩ := hQ2
  have N2 := Fr.app N1 N2q
  replace X2 : Stand p l e room_1 s m args below meth c T2 _ 1 28 := X2
  refine Done.of (g' := (mkF m 265 #[.val (.int i0), .val (.int i1), .val (.int i2), .val (.int i3), .val (.ref o4), .val (.int i5), .val (.int i6), .val (.int i7), .val (.int i8), .val (.int x0), .unset] [(.int (F2_0 i7)), (.int (F1_0 i7))])) st2 ?_
  by_cases hc265_2 : (F1_0 i7) = (F2_0 i7)
  · rw [if_pos hc265_2]
    refine Done.of (T' := T2) (g' := (mkF m 273 #[.val (.int i0), .val (.int i1), .val (.int i2), .val (.int i3), .val (.ref o4), .val (.int i5), .val (.int i6), .val (.int i7), .val (.int i8), .val (.int x0), .unset] [(.int (1 : Int32))])) (fun t k => ?_) ?_
    · show Steps p.tables e below (T2.setTop (mkF m 265 #[.val (.int i0), .val (.int i1), .val (.int i2), .val (.int i3), .val (.ref o4), .val (.int i5), .val (.int i6), .val (.int i7), .val (.int i8), .val (.int x0), .unset] [(.int (F2_0 i7)), (.int (F1_0 i7))])) t
      refine XS.icmpNo X2.here hx rfl (hb hby at_265) rfl (teq hc265_2).2 ?_
      show Steps p.tables e below (T2.setTop (mkF m 268 #[.val (.int i0), .val (.int i1), .val (.int i2), .val (.int i3), .val (.ref o4), .val (.int i5), .val (.int i6), .val (.int i7), .val (.int i8), .val (.int x0), .unset] [])) t
      refine XS.iconst X2.here hx rfl (hb hby at_268) ?_
      show Steps p.tables e below (T2.setTop (mkF m 269 #[.val (.int i0), .val (.int i1), .val (.int i2), .val (.int i3), .val (.ref o4), .val (.int i5), .val (.int i6), .val (.int i7), .val (.int i8), .val (.int x0), .unset] [(.int (1 : Int32))])) t
      refine XS.goto X2.here hx rfl (pc0 := 269) (pc' := 273) rfl (hb hby at_269) (by decide) (by decide) ?_
      exact k
    exact bk0_273 hx hZ hw hby hml hown hnm hret hlk X2 N2 e2 i0 i1 i2 i3 o4 i5 i6 i7 i8 x0 (1 : Int32) Z0 g_o4
  · rw [if_neg hc265_2]
    refine Done.of (T' := T2) (g' := (mkF m 273 #[.val (.int i0), .val (.int i1), .val (.int i2), .val (.int i3), .val (.ref o4), .val (.int i5), .val (.int i6), .val (.int i7), .val (.int i8), .val (.int x0), .unset] [(.int (0 : Int32))])) (fun t k => ?_) ?_
    · show Steps p.tables e below (T2.setTop (mkF m 265 #[.val (.int i0), .val (.int i1), .val (.int i2), .val (.int i3), .val (.ref o4), .val (.int i5), .val (.int i6), .val (.int i7), .val (.int i8), .val (.int x0), .unset] [(.int (F2_0 i7)), (.int (F1_0 i7))])) t
      refine XS.icmpYes X2.here hx rfl (pc0 := 265) (pc' := 272) rfl (hb hby at_265) rfl (feq hc265_2).2 (by decide) (by decide) ?_
      show Steps p.tables e below (T2.setTop (mkF m 272 #[.val (.int i0), .val (.int i1), .val (.int i2), .val (.int i3), .val (.ref o4), .val (.int i5), .val (.int i6), .val (.int i7), .val (.int i8), .val (.int x0), .unset] [])) t
      refine XS.iconst X2.here hx rfl (hb hby at_272) ?_
      exact k
    exact bk0_273 hx hZ hw hby hml hown hnm hret hlk X2 N2 e2 i0 i1 i2 i3 o4 i5 i6 i7 i8 x0 (0 : Int32) Z0 g_o4
def F0_233 (i0 : Int32) (i1 : Int32) (i2 : Int32) (i3 : Int32) (i5 : Int32) (i6 : Int32) (i7 : Int32) (x0 : Int32) : Int32 := (if (F1_0 i6) = (F2_0 i6) then (F0_253 i0 i1 i2 i3 i5 i6 i7 x0 (1 : Int32)) else (F0_253 i0 i1 i2 i3 i5 i6 i7 x0 (0 : Int32)))
set_option maxRecDepth 65536 in
set_option maxHeartbeats 40000000 in
theorem bk0_233 {p : Program} {l : Launch} {e : Env} {s : State} {m : MethodId} {args : Array Value} {below : List Frame} {meth : Method} {c : Code} {T0 : State} {locs : List Loc} {Z : State} {a0 : Array Value} {h0 : Heap} {n0 : Nat}
    (hx : p.tables.exec = Jvm.exec) (hZ : Z.Warmed39 s.vm) (hw : ∀ d ∈ tables_1, d.before a0 Z = true) (hby : c.code = code) (hml : c.maxLocals = 11) (hown : s.vm.findClass "com/example/orbweave/orbweave/term/NameCharsIsPnCharsBasePinLaw" = some m.cls) (hnm : meth.name = "law") (hret : meth.sig.returnType = some .boolean) (hlk : meth.locks = false)
    (X0 : Stand p l e room_1 s m args below meth c T0 locs 1 28) (N0 : Fr n0 locs) (e0 : T0.heap = h0) (i0 : Int32) (i1 : Int32) (i2 : Int32) (i3 : Int32) (o4 : Addr) (i5 : Int32) (i6 : Int32) (i7 : Int32) (x0 : Int32) (Z0 : n0 ≤ h0.size) (g_o4 : n0 ≤ o4) :
    Done p e below s room_1 (Ql n0 (.int (F0_233 i0 i1 i2 i3 i5 i6 i7 x0))) T0 (mkF m 233 #[.val (.int i0), .val (.int i1), .val (.int i2), .val (.int i3), .val (.ref o4), .val (.int i5), .val (.int i6), .val (.int i7), .unset, .unset, .unset] [(.int x0)]) := by
  unfold F0_233
  refine Done.of (T' := T0) (g' := (mkF m 237 #[.val (.int i0), .val (.int i1), .val (.int i2), .val (.int i3), .val (.ref o4), .val (.int i5), .val (.int i6), .val (.int i7), .val (.int x0), .unset, .unset] [(.int i6)])) (fun t k => ?_) ?_
  · show Steps p.tables e below (T0.setTop (mkF m 233 #[.val (.int i0), .val (.int i1), .val (.int i2), .val (.int i3), .val (.ref o4), .val (.int i5), .val (.int i6), .val (.int i7), .unset, .unset, .unset] [(.int x0)])) t
    refine XS.istore X0.here hx rfl (hb hby at_233) rfl (l' := #[.val (.int i0), .val (.int i1), .val (.int i2), .val (.int i3), .val (.ref o4), .val (.int i5), .val (.int i6), .val (.int i7), .val (.int x0), .unset, .unset]) rfl ?_
    show Steps p.tables e below (T0.setTop (mkF m 235 #[.val (.int i0), .val (.int i1), .val (.int i2), .val (.int i3), .val (.ref o4), .val (.int i5), .val (.int i6), .val (.int i7), .val (.int x0), .unset, .unset] [])) t
    refine XS.iload X0.here hx rfl (hb hby at_235) rfl ?_
    exact k
  obtain ⟨_, _, ⟨T1, L1, k1, n1⟩, -, X1, ⟨Lc1, hQ1, l1, y1, z1⟩, st1⟩ := Jvm.LawKit.callS X0 hx (y := (⟨"com/example/orbweave/orbweave/term/NameChars", "isPnCharsBase", "(I)Z"⟩ : MethodName)) hown (mvT hZ (hw _ (List.mem_of_getElem? (i := 10) rfl))) (mvT hZ (hw _ (List.mem_of_getElem? (i := 11) rfl))) (mvT hZ (hw _ (List.mem_of_getElem? (i := 12) rfl))) (mvT hZ (hw _ (List.mem_of_getElem? (i := 13) rfl))) (by decide) (backOf (W := 0) (rm1 l Z a0 hw [] i6 h0 n0) hZ (hw _ (List.mem_of_getElem? (i := 13) rfl)) (hw _ (List.mem_of_getElem? (i := 12) rfl)) (by decide) (by decide)) (g := (mkF m 237 #[.val (.int i0), .val (.int i1), .val (.int i2), .val (.int i3), .val (.ref o4), .val (.int i5), .val (.int i6), .val (.int i7), .val (.int x0), .unset, .unset] [(.int i6)])) rfl (by rw [hml]; rfl) (argsL := [(.int i6)]) (rest := []) (lenOf pd_0 rfl) rfl (by show 2 * 0 + _ ≤ _; exact Nat.le_of_eq rfl) (hb hby at_237) (fun _ _ => ⟨rfl, e0, (by decide : 1 + 0 ≤ _), (by decide : 28 + 0 ≤ _)⟩)
  dsimp only [Pt.U, Pt.locs, Pt.cells, Pt.slots] at X1 l1 y1 z1 st1 hQ1
  subst l1 y1 z1
  obtain ⟨rfl, N1q, e1⟩ := hQ1
  have N1 := Fr.app N0 N1q
  replace X1 : Stand p l e room_1 s m args below meth c T1 _ 1 28 := X1
  refine Done.of (g' := (mkF m 240 #[.val (.int i0), .val (.int i1), .val (.int i2), .val (.int i3), .val (.ref o4), .val (.int i5), .val (.int i6), .val (.int i7), .val (.int x0), .unset, .unset] [(.int (F1_0 i6))])) st1 ?_
  refine Done.of (T' := T1) (g' := (mkF m 242 #[.val (.int i0), .val (.int i1), .val (.int i2), .val (.int i3), .val (.ref o4), .val (.int i5), .val (.int i6), .val (.int i7), .val (.int x0), .unset, .unset] [(.int i6), (.int (F1_0 i6))])) (fun t k => ?_) ?_
  · show Steps p.tables e below (T1.setTop (mkF m 240 #[.val (.int i0), .val (.int i1), .val (.int i2), .val (.int i3), .val (.ref o4), .val (.int i5), .val (.int i6), .val (.int i7), .val (.int x0), .unset, .unset] [(.int (F1_0 i6))])) t
    refine XS.iload X1.here hx rfl (hb hby at_240) rfl ?_
    exact k
  obtain ⟨_, _, ⟨T2, L2, k2, n2⟩, -, X2, ⟨Lc2, hQ2, l2, y2, z2⟩, st2⟩ := Jvm.LawKit.callS X1 hx (y := (⟨"com/example/orbweave/orbweave/term/NameCharsIsPnCharsBasePinLaw", "ref", "(I)Z"⟩ : MethodName)) hown (mvT hZ (hw _ (List.mem_of_getElem? (i := 17) rfl))) (mvT hZ (hw _ (List.mem_of_getElem? (i := 18) rfl))) (mvT hZ (hw _ (List.mem_of_getElem? (i := 19) rfl))) (mvT hZ (hw _ (List.mem_of_getElem? (i := 20) rfl))) (by decide) (backOf (W := 1) (rm2 l Z a0 hw [] i6 h0 n0) hZ (hw _ (List.mem_of_getElem? (i := 20) rfl)) (hw _ (List.mem_of_getElem? (i := 19) rfl)) (by decide) (by decide)) (g := (mkF m 242 #[.val (.int i0), .val (.int i1), .val (.int i2), .val (.int i3), .val (.ref o4), .val (.int i5), .val (.int i6), .val (.int i7), .val (.int x0), .unset, .unset] [(.int i6), (.int (F1_0 i6))])) rfl (by rw [hml]; rfl) (argsL := [(.int i6)]) (rest := [(.int (F1_0 i6))]) (lenOf pd_0 rfl) rfl (by show 2 * 0 + _ ≤ _; exact Nat.le_of_eq rfl) (hb hby at_242) (fun _ _ => ⟨rfl, e1, (by decide : 1 + 0 ≤ _), (by decide : 28 + 0 ≤ _)⟩)
  dsimp only [Pt.U, Pt.locs, Pt.cells, Pt.slots] at X2 l2 y2 z2 st2 hQ2
  subst l2 y2 z2
  obtain ⟨rfl, N2q, e2⟩ := hQ2
  have N2 := Fr.app N1 N2q
  replace X2 : Stand p l e room_1 s m args below meth c T2 _ 1 28 := X2
  refine Done.of (g' := (mkF m 245 #[.val (.int i0), .val (.int i1), .val (.int i2), .val (.int i3), .val (.ref o4), .val (.int i5), .val (.int i6), .val (.int i7), .val (.int x0), .unset, .unset] [(.int (F2_0 i6)), (.int (F1_0 i6))])) st2 ?_
  by_cases hc245_2 : (F1_0 i6) = (F2_0 i6)
  · rw [if_pos hc245_2]
    refine Done.of (T' := T2) (g' := (mkF m 253 #[.val (.int i0), .val (.int i1), .val (.int i2), .val (.int i3), .val (.ref o4), .val (.int i5), .val (.int i6), .val (.int i7), .val (.int x0), .unset, .unset] [(.int (1 : Int32))])) (fun t k => ?_) ?_
    · show Steps p.tables e below (T2.setTop (mkF m 245 #[.val (.int i0), .val (.int i1), .val (.int i2), .val (.int i3), .val (.ref o4), .val (.int i5), .val (.int i6), .val (.int i7), .val (.int x0), .unset, .unset] [(.int (F2_0 i6)), (.int (F1_0 i6))])) t
      refine XS.icmpNo X2.here hx rfl (hb hby at_245) rfl (teq hc245_2).2 ?_
      show Steps p.tables e below (T2.setTop (mkF m 248 #[.val (.int i0), .val (.int i1), .val (.int i2), .val (.int i3), .val (.ref o4), .val (.int i5), .val (.int i6), .val (.int i7), .val (.int x0), .unset, .unset] [])) t
      refine XS.iconst X2.here hx rfl (hb hby at_248) ?_
      show Steps p.tables e below (T2.setTop (mkF m 249 #[.val (.int i0), .val (.int i1), .val (.int i2), .val (.int i3), .val (.ref o4), .val (.int i5), .val (.int i6), .val (.int i7), .val (.int x0), .unset, .unset] [(.int (1 : Int32))])) t
      refine XS.goto X2.here hx rfl (pc0 := 249) (pc' := 253) rfl (hb hby at_249) (by decide) (by decide) ?_
      exact k
    exact bk0_253 hx hZ hw hby hml hown hnm hret hlk X2 N2 e2 i0 i1 i2 i3 o4 i5 i6 i7 x0 (1 : Int32) Z0 g_o4
  · rw [if_neg hc245_2]
    refine Done.of (T' := T2) (g' := (mkF m 253 #[.val (.int i0), .val (.int i1), .val (.int i2), .val (.int i3), .val (.ref o4), .val (.int i5), .val (.int i6), .val (.int i7), .val (.int x0), .unset, .unset] [(.int (0 : Int32))])) (fun t k => ?_) ?_
    · show Steps p.tables e below (T2.setTop (mkF m 245 #[.val (.int i0), .val (.int i1), .val (.int i2), .val (.int i3), .val (.ref o4), .val (.int i5), .val (.int i6), .val (.int i7), .val (.int x0), .unset, .unset] [(.int (F2_0 i6)), (.int (F1_0 i6))])) t
      refine XS.icmpYes X2.here hx rfl (pc0 := 245) (pc' := 252) rfl (hb hby at_245) rfl (feq hc245_2).2 (by decide) (by decide) ?_
      show Steps p.tables e below (T2.setTop (mkF m 252 #[.val (.int i0), .val (.int i1), .val (.int i2), .val (.int i3), .val (.ref o4), .val (.int i5), .val (.int i6), .val (.int i7), .val (.int x0), .unset, .unset] [])) t
      refine XS.iconst X2.here hx rfl (hb hby at_252) ?_
      exact k
    exact bk0_253 hx hZ hw hby hml hown hnm hret hlk X2 N2 e2 i0 i1 i2 i3 o4 i5 i6 i7 x0 (0 : Int32) Z0 g_o4
def F0_215 (i0 : Int32) (i1 : Int32) (i2 : Int32) (i3 : Int32) (i5 : Int32) (i6 : Int32) (i7 : Int32) : Int32 := (if (F1_0 i5) = (F2_0 i5) then (F0_233 i0 i1 i2 i3 i5 i6 i7 (1 : Int32)) else (F0_233 i0 i1 i2 i3 i5 i6 i7 (0 : Int32)))
set_option maxRecDepth 65536 in
set_option maxHeartbeats 40000000 in
theorem bk0_215 {p : Program} {l : Launch} {e : Env} {s : State} {m : MethodId} {args : Array Value} {below : List Frame} {meth : Method} {c : Code} {T0 : State} {locs : List Loc} {Z : State} {a0 : Array Value} {h0 : Heap} {n0 : Nat}
    (hx : p.tables.exec = Jvm.exec) (hZ : Z.Warmed39 s.vm) (hw : ∀ d ∈ tables_1, d.before a0 Z = true) (hby : c.code = code) (hml : c.maxLocals = 11) (hown : s.vm.findClass "com/example/orbweave/orbweave/term/NameCharsIsPnCharsBasePinLaw" = some m.cls) (hnm : meth.name = "law") (hret : meth.sig.returnType = some .boolean) (hlk : meth.locks = false)
    (X0 : Stand p l e room_1 s m args below meth c T0 locs 1 28) (N0 : Fr n0 locs) (e0 : T0.heap = h0) (i0 : Int32) (i1 : Int32) (i2 : Int32) (i3 : Int32) (o4 : Addr) (i5 : Int32) (i6 : Int32) (i7 : Int32) (Z0 : n0 ≤ h0.size) (g_o4 : n0 ≤ o4) :
    Done p e below s room_1 (Ql n0 (.int (F0_215 i0 i1 i2 i3 i5 i6 i7))) T0 (mkF m 215 #[.val (.int i0), .val (.int i1), .val (.int i2), .val (.int i3), .val (.ref o4), .val (.int i5), .val (.int i6), .val (.int i7), .unset, .unset, .unset] []) := by
  unfold F0_215
  refine Done.of (T' := T0) (g' := (mkF m 217 #[.val (.int i0), .val (.int i1), .val (.int i2), .val (.int i3), .val (.ref o4), .val (.int i5), .val (.int i6), .val (.int i7), .unset, .unset, .unset] [(.int i5)])) (fun t k => ?_) ?_
  · show Steps p.tables e below (T0.setTop (mkF m 215 #[.val (.int i0), .val (.int i1), .val (.int i2), .val (.int i3), .val (.ref o4), .val (.int i5), .val (.int i6), .val (.int i7), .unset, .unset, .unset] [])) t
    refine XS.iload X0.here hx rfl (hb hby at_215) rfl ?_
    exact k
  obtain ⟨_, _, ⟨T1, L1, k1, n1⟩, -, X1, ⟨Lc1, hQ1, l1, y1, z1⟩, st1⟩ := Jvm.LawKit.callS X0 hx (y := (⟨"com/example/orbweave/orbweave/term/NameChars", "isPnCharsBase", "(I)Z"⟩ : MethodName)) hown (mvT hZ (hw _ (List.mem_of_getElem? (i := 10) rfl))) (mvT hZ (hw _ (List.mem_of_getElem? (i := 11) rfl))) (mvT hZ (hw _ (List.mem_of_getElem? (i := 12) rfl))) (mvT hZ (hw _ (List.mem_of_getElem? (i := 13) rfl))) (by decide) (backOf (W := 0) (rm1 l Z a0 hw [] i5 h0 n0) hZ (hw _ (List.mem_of_getElem? (i := 13) rfl)) (hw _ (List.mem_of_getElem? (i := 12) rfl)) (by decide) (by decide)) (g := (mkF m 217 #[.val (.int i0), .val (.int i1), .val (.int i2), .val (.int i3), .val (.ref o4), .val (.int i5), .val (.int i6), .val (.int i7), .unset, .unset, .unset] [(.int i5)])) rfl (by rw [hml]; rfl) (argsL := [(.int i5)]) (rest := []) (lenOf pd_0 rfl) rfl (by show 2 * 0 + _ ≤ _; exact Nat.le_of_eq rfl) (hb hby at_217) (fun _ _ => ⟨rfl, e0, (by decide : 1 + 0 ≤ _), (by decide : 28 + 0 ≤ _)⟩)
  dsimp only [Pt.U, Pt.locs, Pt.cells, Pt.slots] at X1 l1 y1 z1 st1 hQ1
  subst l1 y1 z1
  obtain ⟨rfl, N1q, e1⟩ := hQ1
  have N1 := Fr.app N0 N1q
  replace X1 : Stand p l e room_1 s m args below meth c T1 _ 1 28 := X1
  refine Done.of (g' := (mkF m 220 #[.val (.int i0), .val (.int i1), .val (.int i2), .val (.int i3), .val (.ref o4), .val (.int i5), .val (.int i6), .val (.int i7), .unset, .unset, .unset] [(.int (F1_0 i5))])) st1 ?_
  refine Done.of (T' := T1) (g' := (mkF m 222 #[.val (.int i0), .val (.int i1), .val (.int i2), .val (.int i3), .val (.ref o4), .val (.int i5), .val (.int i6), .val (.int i7), .unset, .unset, .unset] [(.int i5), (.int (F1_0 i5))])) (fun t k => ?_) ?_
  · show Steps p.tables e below (T1.setTop (mkF m 220 #[.val (.int i0), .val (.int i1), .val (.int i2), .val (.int i3), .val (.ref o4), .val (.int i5), .val (.int i6), .val (.int i7), .unset, .unset, .unset] [(.int (F1_0 i5))])) t
    refine XS.iload X1.here hx rfl (hb hby at_220) rfl ?_
    exact k
  obtain ⟨_, _, ⟨T2, L2, k2, n2⟩, -, X2, ⟨Lc2, hQ2, l2, y2, z2⟩, st2⟩ := Jvm.LawKit.callS X1 hx (y := (⟨"com/example/orbweave/orbweave/term/NameCharsIsPnCharsBasePinLaw", "ref", "(I)Z"⟩ : MethodName)) hown (mvT hZ (hw _ (List.mem_of_getElem? (i := 17) rfl))) (mvT hZ (hw _ (List.mem_of_getElem? (i := 18) rfl))) (mvT hZ (hw _ (List.mem_of_getElem? (i := 19) rfl))) (mvT hZ (hw _ (List.mem_of_getElem? (i := 20) rfl))) (by decide) (backOf (W := 1) (rm2 l Z a0 hw [] i5 h0 n0) hZ (hw _ (List.mem_of_getElem? (i := 20) rfl)) (hw _ (List.mem_of_getElem? (i := 19) rfl)) (by decide) (by decide)) (g := (mkF m 222 #[.val (.int i0), .val (.int i1), .val (.int i2), .val (.int i3), .val (.ref o4), .val (.int i5), .val (.int i6), .val (.int i7), .unset, .unset, .unset] [(.int i5), (.int (F1_0 i5))])) rfl (by rw [hml]; rfl) (argsL := [(.int i5)]) (rest := [(.int (F1_0 i5))]) (lenOf pd_0 rfl) rfl (by show 2 * 0 + _ ≤ _; exact Nat.le_of_eq rfl) (hb hby at_222) (fun _ _ => ⟨rfl, e1, (by decide : 1 + 0 ≤ _), (by decide : 28 + 0 ≤ _)⟩)
  dsimp only [Pt.U, Pt.locs, Pt.cells, Pt.slots] at X2 l2 y2 z2 st2 hQ2
  subst l2 y2 z2
  obtain ⟨rfl, N2q, e2⟩ := hQ2
  have N2 := Fr.app N1 N2q
  replace X2 : Stand p l e room_1 s m args below meth c T2 _ 1 28 := X2
  refine Done.of (g' := (mkF m 225 #[.val (.int i0), .val (.int i1), .val (.int i2), .val (.int i3), .val (.ref o4), .val (.int i5), .val (.int i6), .val (.int i7), .unset, .unset, .unset] [(.int (F2_0 i5)), (.int (F1_0 i5))])) st2 ?_
  by_cases hc225_2 : (F1_0 i5) = (F2_0 i5)
  · rw [if_pos hc225_2]
    refine Done.of (T' := T2) (g' := (mkF m 233 #[.val (.int i0), .val (.int i1), .val (.int i2), .val (.int i3), .val (.ref o4), .val (.int i5), .val (.int i6), .val (.int i7), .unset, .unset, .unset] [(.int (1 : Int32))])) (fun t k => ?_) ?_
    · show Steps p.tables e below (T2.setTop (mkF m 225 #[.val (.int i0), .val (.int i1), .val (.int i2), .val (.int i3), .val (.ref o4), .val (.int i5), .val (.int i6), .val (.int i7), .unset, .unset, .unset] [(.int (F2_0 i5)), (.int (F1_0 i5))])) t
      refine XS.icmpNo X2.here hx rfl (hb hby at_225) rfl (teq hc225_2).2 ?_
      show Steps p.tables e below (T2.setTop (mkF m 228 #[.val (.int i0), .val (.int i1), .val (.int i2), .val (.int i3), .val (.ref o4), .val (.int i5), .val (.int i6), .val (.int i7), .unset, .unset, .unset] [])) t
      refine XS.iconst X2.here hx rfl (hb hby at_228) ?_
      show Steps p.tables e below (T2.setTop (mkF m 229 #[.val (.int i0), .val (.int i1), .val (.int i2), .val (.int i3), .val (.ref o4), .val (.int i5), .val (.int i6), .val (.int i7), .unset, .unset, .unset] [(.int (1 : Int32))])) t
      refine XS.goto X2.here hx rfl (pc0 := 229) (pc' := 233) rfl (hb hby at_229) (by decide) (by decide) ?_
      exact k
    exact bk0_233 hx hZ hw hby hml hown hnm hret hlk X2 N2 e2 i0 i1 i2 i3 o4 i5 i6 i7 (1 : Int32) Z0 g_o4
  · rw [if_neg hc225_2]
    refine Done.of (T' := T2) (g' := (mkF m 233 #[.val (.int i0), .val (.int i1), .val (.int i2), .val (.int i3), .val (.ref o4), .val (.int i5), .val (.int i6), .val (.int i7), .unset, .unset, .unset] [(.int (0 : Int32))])) (fun t k => ?_) ?_
    · show Steps p.tables e below (T2.setTop (mkF m 225 #[.val (.int i0), .val (.int i1), .val (.int i2), .val (.int i3), .val (.ref o4), .val (.int i5), .val (.int i6), .val (.int i7), .unset, .unset, .unset] [(.int (F2_0 i5)), (.int (F1_0 i5))])) t
      refine XS.icmpYes X2.here hx rfl (pc0 := 225) (pc' := 232) rfl (hb hby at_225) rfl (feq hc225_2).2 (by decide) (by decide) ?_
      show Steps p.tables e below (T2.setTop (mkF m 232 #[.val (.int i0), .val (.int i1), .val (.int i2), .val (.int i3), .val (.ref o4), .val (.int i5), .val (.int i6), .val (.int i7), .unset, .unset, .unset] [])) t
      refine XS.iconst X2.here hx rfl (hb hby at_232) ?_
      exact k
    exact bk0_233 hx hZ hw hby hml hown hnm hret hlk X2 N2 e2 i0 i1 i2 i3 o4 i5 i6 i7 (0 : Int32) Z0 g_o4
def F0_0 (p1 : Int32) (p2 : Int32) (p3 : Int32) (p4 : Int32) : Int32 := (F0_215 p1 p2 p3 p4 p1 (((own_tab.getD (((p2 &&& (2147483647 : Int32)) % (28 : Int32))).toNatClampNeg 0) + ((p3 &&& (2147483647 : Int32)) % (3 : Int32))) - (1 : Int32)) (p4 &&& (1048575 : Int32)))
set_option maxRecDepth 65536 in
set_option maxHeartbeats 40000000 in
theorem bk0_0 {p : Program} {l : Launch} {e : Env} {s : State} {m : MethodId} {args : Array Value} {below : List Frame} {meth : Method} {c : Code} {T0 : State} {locs : List Loc} {Z : State} {a0 : Array Value} {h0 : Heap} {n0 : Nat}
    (hx : p.tables.exec = Jvm.exec) (hZ : Z.Warmed39 s.vm) (hw : ∀ d ∈ tables_1, d.before a0 Z = true) (hby : c.code = code) (hml : c.maxLocals = 11) (hown : s.vm.findClass "com/example/orbweave/orbweave/term/NameCharsIsPnCharsBasePinLaw" = some m.cls) (hnm : meth.name = "law") (hret : meth.sig.returnType = some .boolean) (hlk : meth.locks = false)
    (X0 : Stand p l e room_1 s m args below meth c T0 locs 0 0) (N0 : Fr n0 locs) (e0 : T0.heap = h0) (p1 : Int32) (p2 : Int32) (p3 : Int32) (p4 : Int32) (Z0 : n0 ≤ h0.size) :
    Done p e below s room_1 (Ql n0 (.int (F0_0 p1 p2 p3 p4))) T0 (mkF m 0 #[.val (.int p1), .val (.int p2), .val (.int p3), .val (.int p4), .unset, .unset, .unset, .unset, .unset, .unset, .unset] []) := by
  unfold F0_0
  refine Done.of (T' := T0) (g' := (mkF m 2 #[.val (.int p1), .val (.int p2), .val (.int p3), .val (.int p4), .unset, .unset, .unset, .unset, .unset, .unset, .unset] [(.int (28 : Int32))])) (fun t k => ?_) ?_
  · show Steps p.tables e below (T0.setTop (mkF m 0 #[.val (.int p1), .val (.int p2), .val (.int p3), .val (.int p4), .unset, .unset, .unset, .unset, .unset, .unset, .unset] [])) t
    refine XS.bipush X0.here hx rfl (hb hby at_0) ?_
    exact k
  obtain ⟨T1, h1, k1, X1, e1, E1, A1, st1⟩ := newP X0 hx hZ (hw _ (List.mem_of_getElem? (i := 0) rfl)) e0 (g := (mkF m 2 #[.val (.int p1), .val (.int p2), .val (.int p3), .val (.int p4), .unset, .unset, .unset, .unset, .unset, .unset, .unset] [(.int (28 : Int32))])) rfl (hb hby at_2) rfl (by decide) (cap := 28) (by decide) (by decide) (by decide) (by decide)
  obtain ⟨b1, g1⟩ : ∃ z, z = h0.size := ⟨_, rfl⟩
  rw [← g1] at A1 st1
  have V1 : Arv Z h1 b1 k1 .int (28 : Int32) [(.int (0 : Int32)), (.int (0 : Int32)), (.int (0 : Int32)), (.int (0 : Int32)), (.int (0 : Int32)), (.int (0 : Int32)), (.int (0 : Int32)), (.int (0 : Int32)), (.int (0 : Int32)), (.int (0 : Int32)), (.int (0 : Int32)), (.int (0 : Int32)), (.int (0 : Int32)), (.int (0 : Int32)), (.int (0 : Int32)), (.int (0 : Int32)), (.int (0 : Int32)), (.int (0 : Int32)), (.int (0 : Int32)), (.int (0 : Int32)), (.int (0 : Int32)), (.int (0 : Int32)), (.int (0 : Int32)), (.int (0 : Int32)), (.int (0 : Int32)), (.int (0 : Int32)), (.int (0 : Int32)), (.int (0 : Int32))] (.int (0 : Int32)) := (Arv.new A1 (by decide)).pad (pad_rep [] (.int (0 : Int32)) 28)
  have g_b1 : n0 ≤ b1 := Nat.le_trans Z0 (Nat.le_of_eq g1.symm)
  refine Done.of (g' := (mkF m 4 #[.val (.int p1), .val (.int p2), .val (.int p3), .val (.int p4), .unset, .unset, .unset, .unset, .unset, .unset, .unset] [(.ref b1)])) st1 ?_
  refine Done.of (T' := T1) (g' := (mkF m 8 #[.val (.int p1), .val (.int p2), .val (.int p3), .val (.int p4), .unset, .unset, .unset, .unset, .unset, .unset, .unset] [(.int (65 : Int32)), (.int (0 : Int32)), (.ref b1), (.ref b1)])) (fun t k => ?_) ?_
  · show Steps p.tables e below (T1.setTop (mkF m 4 #[.val (.int p1), .val (.int p2), .val (.int p3), .val (.int p4), .unset, .unset, .unset, .unset, .unset, .unset, .unset] [(.ref b1)])) t
    refine XS.dup X1.here hx rfl (hb hby at_4) rfl rfl ?_
    show Steps p.tables e below (T1.setTop (mkF m 5 #[.val (.int p1), .val (.int p2), .val (.int p3), .val (.int p4), .unset, .unset, .unset, .unset, .unset, .unset, .unset] [(.ref b1), (.ref b1)])) t
    refine XS.iconst X1.here hx rfl (hb hby at_5) ?_
    show Steps p.tables e below (T1.setTop (mkF m 6 #[.val (.int p1), .val (.int p2), .val (.int p3), .val (.int p4), .unset, .unset, .unset, .unset, .unset, .unset, .unset] [(.int (0 : Int32)), (.ref b1), (.ref b1)])) t
    refine XS.bipush X1.here hx rfl (hb hby at_6) ?_
    exact k
  obtain ⟨cl_o3, Ar_o3, q_o3, S_o3, Nn_o3, H_o3, G_o3⟩ := id V1
  have hin2 : ¬ ((0 : Int32) < 0 ∨ cl_o3.slots.size ≤ ((0 : Int32)).toNatClampNeg) := inb_of S_o3 ⟨by decide, by decide⟩
  obtain ⟨T2, h2, X2, e2, W2, st2⟩ := stI X1 hx hZ e1 Ar_o3 (j := (0 : Int32)) hin2 (g := (mkF m 8 #[.val (.int p1), .val (.int p2), .val (.int p3), .val (.int p4), .unset, .unset, .unset, .unset, .unset, .unset, .unset] [(.int (65 : Int32)), (.int (0 : Int32)), (.ref b1), (.ref b1)])) rfl rfl (hb hby at_8)
  have V2 : Arv Z h2 b1 k1 .int (28 : Int32) [(.int (65 : Int32)), (.int (0 : Int32)), (.int (0 : Int32)), (.int (0 : Int32)), (.int (0 : Int32)), (.int (0 : Int32)), (.int (0 : Int32)), (.int (0 : Int32)), (.int (0 : Int32)), (.int (0 : Int32)), (.int (0 : Int32)), (.int (0 : Int32)), (.int (0 : Int32)), (.int (0 : Int32)), (.int (0 : Int32)), (.int (0 : Int32)), (.int (0 : Int32)), (.int (0 : Int32)), (.int (0 : Int32)), (.int (0 : Int32)), (.int (0 : Int32)), (.int (0 : Int32)), (.int (0 : Int32)), (.int (0 : Int32)), (.int (0 : Int32)), (.int (0 : Int32)), (.int (0 : Int32)), (.int (0 : Int32))] (.int (0 : Int32)) := Arv.set Ar_o3 q_o3 S_o3 Nn_o3 H_o3 G_o3 rfl W2 0 rfl (Nat.le_of_ble_eq_true rfl)
  have N2 := Fr.snoc X2 N0 g_b1
  refine Done.of (g' := (mkF m 9 #[.val (.int p1), .val (.int p2), .val (.int p3), .val (.int p4), .unset, .unset, .unset, .unset, .unset, .unset, .unset] [(.ref b1)])) st2 ?_
  refine Done.of (T' := T2) (g' := (mkF m 13 #[.val (.int p1), .val (.int p2), .val (.int p3), .val (.int p4), .unset, .unset, .unset, .unset, .unset, .unset, .unset] [(.int (90 : Int32)), (.int (1 : Int32)), (.ref b1), (.ref b1)])) (fun t k => ?_) ?_
  · show Steps p.tables e below (T2.setTop (mkF m 9 #[.val (.int p1), .val (.int p2), .val (.int p3), .val (.int p4), .unset, .unset, .unset, .unset, .unset, .unset, .unset] [(.ref b1)])) t
    refine XS.dup X2.here hx rfl (hb hby at_9) rfl rfl ?_
    show Steps p.tables e below (T2.setTop (mkF m 10 #[.val (.int p1), .val (.int p2), .val (.int p3), .val (.int p4), .unset, .unset, .unset, .unset, .unset, .unset, .unset] [(.ref b1), (.ref b1)])) t
    refine XS.iconst X2.here hx rfl (hb hby at_10) ?_
    show Steps p.tables e below (T2.setTop (mkF m 11 #[.val (.int p1), .val (.int p2), .val (.int p3), .val (.int p4), .unset, .unset, .unset, .unset, .unset, .unset, .unset] [(.int (1 : Int32)), (.ref b1), (.ref b1)])) t
    refine XS.bipush X2.here hx rfl (hb hby at_11) ?_
    exact k
  obtain ⟨cl_o5, Ar_o5, q_o5, S_o5, Nn_o5, H_o5, G_o5⟩ := id V2
  have hin4 : ¬ ((1 : Int32) < 0 ∨ cl_o5.slots.size ≤ ((1 : Int32)).toNatClampNeg) := inb_of S_o5 ⟨by decide, by decide⟩
  obtain ⟨T4, h4, X4, e4, W4, st4⟩ := stI X2 hx hZ e2 Ar_o5 (j := (1 : Int32)) hin4 (g := (mkF m 13 #[.val (.int p1), .val (.int p2), .val (.int p3), .val (.int p4), .unset, .unset, .unset, .unset, .unset, .unset, .unset] [(.int (90 : Int32)), (.int (1 : Int32)), (.ref b1), (.ref b1)])) rfl rfl (hb hby at_13)
  have V4 : Arv Z h4 b1 k1 .int (28 : Int32) [(.int (65 : Int32)), (.int (90 : Int32)), (.int (0 : Int32)), (.int (0 : Int32)), (.int (0 : Int32)), (.int (0 : Int32)), (.int (0 : Int32)), (.int (0 : Int32)), (.int (0 : Int32)), (.int (0 : Int32)), (.int (0 : Int32)), (.int (0 : Int32)), (.int (0 : Int32)), (.int (0 : Int32)), (.int (0 : Int32)), (.int (0 : Int32)), (.int (0 : Int32)), (.int (0 : Int32)), (.int (0 : Int32)), (.int (0 : Int32)), (.int (0 : Int32)), (.int (0 : Int32)), (.int (0 : Int32)), (.int (0 : Int32)), (.int (0 : Int32)), (.int (0 : Int32)), (.int (0 : Int32)), (.int (0 : Int32))] (.int (0 : Int32)) := Arv.set Ar_o5 q_o5 S_o5 Nn_o5 H_o5 G_o5 rfl W4 1 rfl (Nat.le_of_ble_eq_true rfl)
  have N4 := Fr.snoc X4 N2 g_b1
  refine Done.of (g' := (mkF m 14 #[.val (.int p1), .val (.int p2), .val (.int p3), .val (.int p4), .unset, .unset, .unset, .unset, .unset, .unset, .unset] [(.ref b1)])) st4 ?_
  refine Done.of (T' := T4) (g' := (mkF m 18 #[.val (.int p1), .val (.int p2), .val (.int p3), .val (.int p4), .unset, .unset, .unset, .unset, .unset, .unset, .unset] [(.int (97 : Int32)), (.int (2 : Int32)), (.ref b1), (.ref b1)])) (fun t k => ?_) ?_
  · show Steps p.tables e below (T4.setTop (mkF m 14 #[.val (.int p1), .val (.int p2), .val (.int p3), .val (.int p4), .unset, .unset, .unset, .unset, .unset, .unset, .unset] [(.ref b1)])) t
    refine XS.dup X4.here hx rfl (hb hby at_14) rfl rfl ?_
    show Steps p.tables e below (T4.setTop (mkF m 15 #[.val (.int p1), .val (.int p2), .val (.int p3), .val (.int p4), .unset, .unset, .unset, .unset, .unset, .unset, .unset] [(.ref b1), (.ref b1)])) t
    refine XS.iconst X4.here hx rfl (hb hby at_15) ?_
    show Steps p.tables e below (T4.setTop (mkF m 16 #[.val (.int p1), .val (.int p2), .val (.int p3), .val (.int p4), .unset, .unset, .unset, .unset, .unset, .unset, .unset] [(.int (2 : Int32)), (.ref b1), (.ref b1)])) t
    refine XS.bipush X4.here hx rfl (hb hby at_16) ?_
    exact k
  obtain ⟨cl_o7, Ar_o7, q_o7, S_o7, Nn_o7, H_o7, G_o7⟩ := id V4
  have hin6 : ¬ ((2 : Int32) < 0 ∨ cl_o7.slots.size ≤ ((2 : Int32)).toNatClampNeg) := inb_of S_o7 ⟨by decide, by decide⟩
  obtain ⟨T6, h6, X6, e6, W6, st6⟩ := stI X4 hx hZ e4 Ar_o7 (j := (2 : Int32)) hin6 (g := (mkF m 18 #[.val (.int p1), .val (.int p2), .val (.int p3), .val (.int p4), .unset, .unset, .unset, .unset, .unset, .unset, .unset] [(.int (97 : Int32)), (.int (2 : Int32)), (.ref b1), (.ref b1)])) rfl rfl (hb hby at_18)
  have V6 : Arv Z h6 b1 k1 .int (28 : Int32) [(.int (65 : Int32)), (.int (90 : Int32)), (.int (97 : Int32)), (.int (0 : Int32)), (.int (0 : Int32)), (.int (0 : Int32)), (.int (0 : Int32)), (.int (0 : Int32)), (.int (0 : Int32)), (.int (0 : Int32)), (.int (0 : Int32)), (.int (0 : Int32)), (.int (0 : Int32)), (.int (0 : Int32)), (.int (0 : Int32)), (.int (0 : Int32)), (.int (0 : Int32)), (.int (0 : Int32)), (.int (0 : Int32)), (.int (0 : Int32)), (.int (0 : Int32)), (.int (0 : Int32)), (.int (0 : Int32)), (.int (0 : Int32)), (.int (0 : Int32)), (.int (0 : Int32)), (.int (0 : Int32)), (.int (0 : Int32))] (.int (0 : Int32)) := Arv.set Ar_o7 q_o7 S_o7 Nn_o7 H_o7 G_o7 rfl W6 2 rfl (Nat.le_of_ble_eq_true rfl)
  have N6 := Fr.snoc X6 N4 g_b1
  refine Done.of (g' := (mkF m 19 #[.val (.int p1), .val (.int p2), .val (.int p3), .val (.int p4), .unset, .unset, .unset, .unset, .unset, .unset, .unset] [(.ref b1)])) st6 ?_
  refine Done.of (T' := T6) (g' := (mkF m 23 #[.val (.int p1), .val (.int p2), .val (.int p3), .val (.int p4), .unset, .unset, .unset, .unset, .unset, .unset, .unset] [(.int (122 : Int32)), (.int (3 : Int32)), (.ref b1), (.ref b1)])) (fun t k => ?_) ?_
  · show Steps p.tables e below (T6.setTop (mkF m 19 #[.val (.int p1), .val (.int p2), .val (.int p3), .val (.int p4), .unset, .unset, .unset, .unset, .unset, .unset, .unset] [(.ref b1)])) t
    refine XS.dup X6.here hx rfl (hb hby at_19) rfl rfl ?_
    show Steps p.tables e below (T6.setTop (mkF m 20 #[.val (.int p1), .val (.int p2), .val (.int p3), .val (.int p4), .unset, .unset, .unset, .unset, .unset, .unset, .unset] [(.ref b1), (.ref b1)])) t
    refine XS.iconst X6.here hx rfl (hb hby at_20) ?_
    show Steps p.tables e below (T6.setTop (mkF m 21 #[.val (.int p1), .val (.int p2), .val (.int p3), .val (.int p4), .unset, .unset, .unset, .unset, .unset, .unset, .unset] [(.int (3 : Int32)), (.ref b1), (.ref b1)])) t
    refine XS.bipush X6.here hx rfl (hb hby at_21) ?_
    exact k
  obtain ⟨cl_o9, Ar_o9, q_o9, S_o9, Nn_o9, H_o9, G_o9⟩ := id V6
  have hin8 : ¬ ((3 : Int32) < 0 ∨ cl_o9.slots.size ≤ ((3 : Int32)).toNatClampNeg) := inb_of S_o9 ⟨by decide, by decide⟩
  obtain ⟨T8, h8, X8, e8, W8, st8⟩ := stI X6 hx hZ e6 Ar_o9 (j := (3 : Int32)) hin8 (g := (mkF m 23 #[.val (.int p1), .val (.int p2), .val (.int p3), .val (.int p4), .unset, .unset, .unset, .unset, .unset, .unset, .unset] [(.int (122 : Int32)), (.int (3 : Int32)), (.ref b1), (.ref b1)])) rfl rfl (hb hby at_23)
  have V8 : Arv Z h8 b1 k1 .int (28 : Int32) [(.int (65 : Int32)), (.int (90 : Int32)), (.int (97 : Int32)), (.int (122 : Int32)), (.int (0 : Int32)), (.int (0 : Int32)), (.int (0 : Int32)), (.int (0 : Int32)), (.int (0 : Int32)), (.int (0 : Int32)), (.int (0 : Int32)), (.int (0 : Int32)), (.int (0 : Int32)), (.int (0 : Int32)), (.int (0 : Int32)), (.int (0 : Int32)), (.int (0 : Int32)), (.int (0 : Int32)), (.int (0 : Int32)), (.int (0 : Int32)), (.int (0 : Int32)), (.int (0 : Int32)), (.int (0 : Int32)), (.int (0 : Int32)), (.int (0 : Int32)), (.int (0 : Int32)), (.int (0 : Int32)), (.int (0 : Int32))] (.int (0 : Int32)) := Arv.set Ar_o9 q_o9 S_o9 Nn_o9 H_o9 G_o9 rfl W8 3 rfl (Nat.le_of_ble_eq_true rfl)
  have N8 := Fr.snoc X8 N6 g_b1
  refine Done.of (g' := (mkF m 24 #[.val (.int p1), .val (.int p2), .val (.int p3), .val (.int p4), .unset, .unset, .unset, .unset, .unset, .unset, .unset] [(.ref b1)])) st8 ?_
  refine Done.of (T' := T8) (g' := (mkF m 29 #[.val (.int p1), .val (.int p2), .val (.int p3), .val (.int p4), .unset, .unset, .unset, .unset, .unset, .unset, .unset] [(.int (192 : Int32)), (.int (4 : Int32)), (.ref b1), (.ref b1)])) (fun t k => ?_) ?_
  · show Steps p.tables e below (T8.setTop (mkF m 24 #[.val (.int p1), .val (.int p2), .val (.int p3), .val (.int p4), .unset, .unset, .unset, .unset, .unset, .unset, .unset] [(.ref b1)])) t
    refine XS.dup X8.here hx rfl (hb hby at_24) rfl rfl ?_
    show Steps p.tables e below (T8.setTop (mkF m 25 #[.val (.int p1), .val (.int p2), .val (.int p3), .val (.int p4), .unset, .unset, .unset, .unset, .unset, .unset, .unset] [(.ref b1), (.ref b1)])) t
    refine XS.iconst X8.here hx rfl (hb hby at_25) ?_
    show Steps p.tables e below (T8.setTop (mkF m 26 #[.val (.int p1), .val (.int p2), .val (.int p3), .val (.int p4), .unset, .unset, .unset, .unset, .unset, .unset, .unset] [(.int (4 : Int32)), (.ref b1), (.ref b1)])) t
    refine XS.sipush X8.here hx rfl (hb hby at_26) ?_
    exact k
  obtain ⟨cl_o11, Ar_o11, q_o11, S_o11, Nn_o11, H_o11, G_o11⟩ := id V8
  have hin10 : ¬ ((4 : Int32) < 0 ∨ cl_o11.slots.size ≤ ((4 : Int32)).toNatClampNeg) := inb_of S_o11 ⟨by decide, by decide⟩
  obtain ⟨T10, h10, X10, e10, W10, st10⟩ := stI X8 hx hZ e8 Ar_o11 (j := (4 : Int32)) hin10 (g := (mkF m 29 #[.val (.int p1), .val (.int p2), .val (.int p3), .val (.int p4), .unset, .unset, .unset, .unset, .unset, .unset, .unset] [(.int (192 : Int32)), (.int (4 : Int32)), (.ref b1), (.ref b1)])) rfl rfl (hb hby at_29)
  have V10 : Arv Z h10 b1 k1 .int (28 : Int32) [(.int (65 : Int32)), (.int (90 : Int32)), (.int (97 : Int32)), (.int (122 : Int32)), (.int (192 : Int32)), (.int (0 : Int32)), (.int (0 : Int32)), (.int (0 : Int32)), (.int (0 : Int32)), (.int (0 : Int32)), (.int (0 : Int32)), (.int (0 : Int32)), (.int (0 : Int32)), (.int (0 : Int32)), (.int (0 : Int32)), (.int (0 : Int32)), (.int (0 : Int32)), (.int (0 : Int32)), (.int (0 : Int32)), (.int (0 : Int32)), (.int (0 : Int32)), (.int (0 : Int32)), (.int (0 : Int32)), (.int (0 : Int32)), (.int (0 : Int32)), (.int (0 : Int32)), (.int (0 : Int32)), (.int (0 : Int32))] (.int (0 : Int32)) := Arv.set Ar_o11 q_o11 S_o11 Nn_o11 H_o11 G_o11 rfl W10 4 rfl (Nat.le_of_ble_eq_true rfl)
  have N10 := Fr.snoc X10 N8 g_b1
  refine Done.of (g' := (mkF m 30 #[.val (.int p1), .val (.int p2), .val (.int p3), .val (.int p4), .unset, .unset, .unset, .unset, .unset, .unset, .unset] [(.ref b1)])) st10 ?_
  refine Done.of (T' := T10) (g' := (mkF m 35 #[.val (.int p1), .val (.int p2), .val (.int p3), .val (.int p4), .unset, .unset, .unset, .unset, .unset, .unset, .unset] [(.int (214 : Int32)), (.int (5 : Int32)), (.ref b1), (.ref b1)])) (fun t k => ?_) ?_
  · show Steps p.tables e below (T10.setTop (mkF m 30 #[.val (.int p1), .val (.int p2), .val (.int p3), .val (.int p4), .unset, .unset, .unset, .unset, .unset, .unset, .unset] [(.ref b1)])) t
    refine XS.dup X10.here hx rfl (hb hby at_30) rfl rfl ?_
    show Steps p.tables e below (T10.setTop (mkF m 31 #[.val (.int p1), .val (.int p2), .val (.int p3), .val (.int p4), .unset, .unset, .unset, .unset, .unset, .unset, .unset] [(.ref b1), (.ref b1)])) t
    refine XS.iconst X10.here hx rfl (hb hby at_31) ?_
    show Steps p.tables e below (T10.setTop (mkF m 32 #[.val (.int p1), .val (.int p2), .val (.int p3), .val (.int p4), .unset, .unset, .unset, .unset, .unset, .unset, .unset] [(.int (5 : Int32)), (.ref b1), (.ref b1)])) t
    refine XS.sipush X10.here hx rfl (hb hby at_32) ?_
    exact k
  obtain ⟨cl_o13, Ar_o13, q_o13, S_o13, Nn_o13, H_o13, G_o13⟩ := id V10
  have hin12 : ¬ ((5 : Int32) < 0 ∨ cl_o13.slots.size ≤ ((5 : Int32)).toNatClampNeg) := inb_of S_o13 ⟨by decide, by decide⟩
  obtain ⟨T12, h12, X12, e12, W12, st12⟩ := stI X10 hx hZ e10 Ar_o13 (j := (5 : Int32)) hin12 (g := (mkF m 35 #[.val (.int p1), .val (.int p2), .val (.int p3), .val (.int p4), .unset, .unset, .unset, .unset, .unset, .unset, .unset] [(.int (214 : Int32)), (.int (5 : Int32)), (.ref b1), (.ref b1)])) rfl rfl (hb hby at_35)
  have V12 : Arv Z h12 b1 k1 .int (28 : Int32) [(.int (65 : Int32)), (.int (90 : Int32)), (.int (97 : Int32)), (.int (122 : Int32)), (.int (192 : Int32)), (.int (214 : Int32)), (.int (0 : Int32)), (.int (0 : Int32)), (.int (0 : Int32)), (.int (0 : Int32)), (.int (0 : Int32)), (.int (0 : Int32)), (.int (0 : Int32)), (.int (0 : Int32)), (.int (0 : Int32)), (.int (0 : Int32)), (.int (0 : Int32)), (.int (0 : Int32)), (.int (0 : Int32)), (.int (0 : Int32)), (.int (0 : Int32)), (.int (0 : Int32)), (.int (0 : Int32)), (.int (0 : Int32)), (.int (0 : Int32)), (.int (0 : Int32)), (.int (0 : Int32)), (.int (0 : Int32))] (.int (0 : Int32)) := Arv.set Ar_o13 q_o13 S_o13 Nn_o13 H_o13 G_o13 rfl W12 5 rfl (Nat.le_of_ble_eq_true rfl)
  have N12 := Fr.snoc X12 N10 g_b1
  refine Done.of (g' := (mkF m 36 #[.val (.int p1), .val (.int p2), .val (.int p3), .val (.int p4), .unset, .unset, .unset, .unset, .unset, .unset, .unset] [(.ref b1)])) st12 ?_
  refine Done.of (T' := T12) (g' := (mkF m 42 #[.val (.int p1), .val (.int p2), .val (.int p3), .val (.int p4), .unset, .unset, .unset, .unset, .unset, .unset, .unset] [(.int (216 : Int32)), (.int (6 : Int32)), (.ref b1), (.ref b1)])) (fun t k => ?_) ?_
  · show Steps p.tables e below (T12.setTop (mkF m 36 #[.val (.int p1), .val (.int p2), .val (.int p3), .val (.int p4), .unset, .unset, .unset, .unset, .unset, .unset, .unset] [(.ref b1)])) t
    refine XS.dup X12.here hx rfl (hb hby at_36) rfl rfl ?_
    show Steps p.tables e below (T12.setTop (mkF m 37 #[.val (.int p1), .val (.int p2), .val (.int p3), .val (.int p4), .unset, .unset, .unset, .unset, .unset, .unset, .unset] [(.ref b1), (.ref b1)])) t
    refine XS.bipush X12.here hx rfl (hb hby at_37) ?_
    show Steps p.tables e below (T12.setTop (mkF m 39 #[.val (.int p1), .val (.int p2), .val (.int p3), .val (.int p4), .unset, .unset, .unset, .unset, .unset, .unset, .unset] [(.int (6 : Int32)), (.ref b1), (.ref b1)])) t
    refine XS.sipush X12.here hx rfl (hb hby at_39) ?_
    exact k
  obtain ⟨cl_o15, Ar_o15, q_o15, S_o15, Nn_o15, H_o15, G_o15⟩ := id V12
  have hin14 : ¬ ((6 : Int32) < 0 ∨ cl_o15.slots.size ≤ ((6 : Int32)).toNatClampNeg) := inb_of S_o15 ⟨by decide, by decide⟩
  obtain ⟨T14, h14, X14, e14, W14, st14⟩ := stI X12 hx hZ e12 Ar_o15 (j := (6 : Int32)) hin14 (g := (mkF m 42 #[.val (.int p1), .val (.int p2), .val (.int p3), .val (.int p4), .unset, .unset, .unset, .unset, .unset, .unset, .unset] [(.int (216 : Int32)), (.int (6 : Int32)), (.ref b1), (.ref b1)])) rfl rfl (hb hby at_42)
  have V14 : Arv Z h14 b1 k1 .int (28 : Int32) [(.int (65 : Int32)), (.int (90 : Int32)), (.int (97 : Int32)), (.int (122 : Int32)), (.int (192 : Int32)), (.int (214 : Int32)), (.int (216 : Int32)), (.int (0 : Int32)), (.int (0 : Int32)), (.int (0 : Int32)), (.int (0 : Int32)), (.int (0 : Int32)), (.int (0 : Int32)), (.int (0 : Int32)), (.int (0 : Int32)), (.int (0 : Int32)), (.int (0 : Int32)), (.int (0 : Int32)), (.int (0 : Int32)), (.int (0 : Int32)), (.int (0 : Int32)), (.int (0 : Int32)), (.int (0 : Int32)), (.int (0 : Int32)), (.int (0 : Int32)), (.int (0 : Int32)), (.int (0 : Int32)), (.int (0 : Int32))] (.int (0 : Int32)) := Arv.set Ar_o15 q_o15 S_o15 Nn_o15 H_o15 G_o15 rfl W14 6 rfl (Nat.le_of_ble_eq_true rfl)
  have N14 := Fr.snoc X14 N12 g_b1
  refine Done.of (g' := (mkF m 43 #[.val (.int p1), .val (.int p2), .val (.int p3), .val (.int p4), .unset, .unset, .unset, .unset, .unset, .unset, .unset] [(.ref b1)])) st14 ?_
  refine Done.of (T' := T14) (g' := (mkF m 49 #[.val (.int p1), .val (.int p2), .val (.int p3), .val (.int p4), .unset, .unset, .unset, .unset, .unset, .unset, .unset] [(.int (246 : Int32)), (.int (7 : Int32)), (.ref b1), (.ref b1)])) (fun t k => ?_) ?_
  · show Steps p.tables e below (T14.setTop (mkF m 43 #[.val (.int p1), .val (.int p2), .val (.int p3), .val (.int p4), .unset, .unset, .unset, .unset, .unset, .unset, .unset] [(.ref b1)])) t
    refine XS.dup X14.here hx rfl (hb hby at_43) rfl rfl ?_
    show Steps p.tables e below (T14.setTop (mkF m 44 #[.val (.int p1), .val (.int p2), .val (.int p3), .val (.int p4), .unset, .unset, .unset, .unset, .unset, .unset, .unset] [(.ref b1), (.ref b1)])) t
    refine XS.bipush X14.here hx rfl (hb hby at_44) ?_
    show Steps p.tables e below (T14.setTop (mkF m 46 #[.val (.int p1), .val (.int p2), .val (.int p3), .val (.int p4), .unset, .unset, .unset, .unset, .unset, .unset, .unset] [(.int (7 : Int32)), (.ref b1), (.ref b1)])) t
    refine XS.sipush X14.here hx rfl (hb hby at_46) ?_
    exact k
  obtain ⟨cl_o17, Ar_o17, q_o17, S_o17, Nn_o17, H_o17, G_o17⟩ := id V14
  have hin16 : ¬ ((7 : Int32) < 0 ∨ cl_o17.slots.size ≤ ((7 : Int32)).toNatClampNeg) := inb_of S_o17 ⟨by decide, by decide⟩
  obtain ⟨T16, h16, X16, e16, W16, st16⟩ := stI X14 hx hZ e14 Ar_o17 (j := (7 : Int32)) hin16 (g := (mkF m 49 #[.val (.int p1), .val (.int p2), .val (.int p3), .val (.int p4), .unset, .unset, .unset, .unset, .unset, .unset, .unset] [(.int (246 : Int32)), (.int (7 : Int32)), (.ref b1), (.ref b1)])) rfl rfl (hb hby at_49)
  have V16 : Arv Z h16 b1 k1 .int (28 : Int32) [(.int (65 : Int32)), (.int (90 : Int32)), (.int (97 : Int32)), (.int (122 : Int32)), (.int (192 : Int32)), (.int (214 : Int32)), (.int (216 : Int32)), (.int (246 : Int32)), (.int (0 : Int32)), (.int (0 : Int32)), (.int (0 : Int32)), (.int (0 : Int32)), (.int (0 : Int32)), (.int (0 : Int32)), (.int (0 : Int32)), (.int (0 : Int32)), (.int (0 : Int32)), (.int (0 : Int32)), (.int (0 : Int32)), (.int (0 : Int32)), (.int (0 : Int32)), (.int (0 : Int32)), (.int (0 : Int32)), (.int (0 : Int32)), (.int (0 : Int32)), (.int (0 : Int32)), (.int (0 : Int32)), (.int (0 : Int32))] (.int (0 : Int32)) := Arv.set Ar_o17 q_o17 S_o17 Nn_o17 H_o17 G_o17 rfl W16 7 rfl (Nat.le_of_ble_eq_true rfl)
  have N16 := Fr.snoc X16 N14 g_b1
  refine Done.of (g' := (mkF m 50 #[.val (.int p1), .val (.int p2), .val (.int p3), .val (.int p4), .unset, .unset, .unset, .unset, .unset, .unset, .unset] [(.ref b1)])) st16 ?_
  refine Done.of (T' := T16) (g' := (mkF m 56 #[.val (.int p1), .val (.int p2), .val (.int p3), .val (.int p4), .unset, .unset, .unset, .unset, .unset, .unset, .unset] [(.int (248 : Int32)), (.int (8 : Int32)), (.ref b1), (.ref b1)])) (fun t k => ?_) ?_
  · show Steps p.tables e below (T16.setTop (mkF m 50 #[.val (.int p1), .val (.int p2), .val (.int p3), .val (.int p4), .unset, .unset, .unset, .unset, .unset, .unset, .unset] [(.ref b1)])) t
    refine XS.dup X16.here hx rfl (hb hby at_50) rfl rfl ?_
    show Steps p.tables e below (T16.setTop (mkF m 51 #[.val (.int p1), .val (.int p2), .val (.int p3), .val (.int p4), .unset, .unset, .unset, .unset, .unset, .unset, .unset] [(.ref b1), (.ref b1)])) t
    refine XS.bipush X16.here hx rfl (hb hby at_51) ?_
    show Steps p.tables e below (T16.setTop (mkF m 53 #[.val (.int p1), .val (.int p2), .val (.int p3), .val (.int p4), .unset, .unset, .unset, .unset, .unset, .unset, .unset] [(.int (8 : Int32)), (.ref b1), (.ref b1)])) t
    refine XS.sipush X16.here hx rfl (hb hby at_53) ?_
    exact k
  obtain ⟨cl_o19, Ar_o19, q_o19, S_o19, Nn_o19, H_o19, G_o19⟩ := id V16
  have hin18 : ¬ ((8 : Int32) < 0 ∨ cl_o19.slots.size ≤ ((8 : Int32)).toNatClampNeg) := inb_of S_o19 ⟨by decide, by decide⟩
  obtain ⟨T18, h18, X18, e18, W18, st18⟩ := stI X16 hx hZ e16 Ar_o19 (j := (8 : Int32)) hin18 (g := (mkF m 56 #[.val (.int p1), .val (.int p2), .val (.int p3), .val (.int p4), .unset, .unset, .unset, .unset, .unset, .unset, .unset] [(.int (248 : Int32)), (.int (8 : Int32)), (.ref b1), (.ref b1)])) rfl rfl (hb hby at_56)
  have V18 : Arv Z h18 b1 k1 .int (28 : Int32) [(.int (65 : Int32)), (.int (90 : Int32)), (.int (97 : Int32)), (.int (122 : Int32)), (.int (192 : Int32)), (.int (214 : Int32)), (.int (216 : Int32)), (.int (246 : Int32)), (.int (248 : Int32)), (.int (0 : Int32)), (.int (0 : Int32)), (.int (0 : Int32)), (.int (0 : Int32)), (.int (0 : Int32)), (.int (0 : Int32)), (.int (0 : Int32)), (.int (0 : Int32)), (.int (0 : Int32)), (.int (0 : Int32)), (.int (0 : Int32)), (.int (0 : Int32)), (.int (0 : Int32)), (.int (0 : Int32)), (.int (0 : Int32)), (.int (0 : Int32)), (.int (0 : Int32)), (.int (0 : Int32)), (.int (0 : Int32))] (.int (0 : Int32)) := Arv.set Ar_o19 q_o19 S_o19 Nn_o19 H_o19 G_o19 rfl W18 8 rfl (Nat.le_of_ble_eq_true rfl)
  have N18 := Fr.snoc X18 N16 g_b1
  refine Done.of (g' := (mkF m 57 #[.val (.int p1), .val (.int p2), .val (.int p3), .val (.int p4), .unset, .unset, .unset, .unset, .unset, .unset, .unset] [(.ref b1)])) st18 ?_
  refine Done.of (T' := T18) (g' := (mkF m 63 #[.val (.int p1), .val (.int p2), .val (.int p3), .val (.int p4), .unset, .unset, .unset, .unset, .unset, .unset, .unset] [(.int (767 : Int32)), (.int (9 : Int32)), (.ref b1), (.ref b1)])) (fun t k => ?_) ?_
  · show Steps p.tables e below (T18.setTop (mkF m 57 #[.val (.int p1), .val (.int p2), .val (.int p3), .val (.int p4), .unset, .unset, .unset, .unset, .unset, .unset, .unset] [(.ref b1)])) t
    refine XS.dup X18.here hx rfl (hb hby at_57) rfl rfl ?_
    show Steps p.tables e below (T18.setTop (mkF m 58 #[.val (.int p1), .val (.int p2), .val (.int p3), .val (.int p4), .unset, .unset, .unset, .unset, .unset, .unset, .unset] [(.ref b1), (.ref b1)])) t
    refine XS.bipush X18.here hx rfl (hb hby at_58) ?_
    show Steps p.tables e below (T18.setTop (mkF m 60 #[.val (.int p1), .val (.int p2), .val (.int p3), .val (.int p4), .unset, .unset, .unset, .unset, .unset, .unset, .unset] [(.int (9 : Int32)), (.ref b1), (.ref b1)])) t
    refine XS.sipush X18.here hx rfl (hb hby at_60) ?_
    exact k
  obtain ⟨cl_o21, Ar_o21, q_o21, S_o21, Nn_o21, H_o21, G_o21⟩ := id V18
  have hin20 : ¬ ((9 : Int32) < 0 ∨ cl_o21.slots.size ≤ ((9 : Int32)).toNatClampNeg) := inb_of S_o21 ⟨by decide, by decide⟩
  obtain ⟨T20, h20, X20, e20, W20, st20⟩ := stI X18 hx hZ e18 Ar_o21 (j := (9 : Int32)) hin20 (g := (mkF m 63 #[.val (.int p1), .val (.int p2), .val (.int p3), .val (.int p4), .unset, .unset, .unset, .unset, .unset, .unset, .unset] [(.int (767 : Int32)), (.int (9 : Int32)), (.ref b1), (.ref b1)])) rfl rfl (hb hby at_63)
  have V20 : Arv Z h20 b1 k1 .int (28 : Int32) [(.int (65 : Int32)), (.int (90 : Int32)), (.int (97 : Int32)), (.int (122 : Int32)), (.int (192 : Int32)), (.int (214 : Int32)), (.int (216 : Int32)), (.int (246 : Int32)), (.int (248 : Int32)), (.int (767 : Int32)), (.int (0 : Int32)), (.int (0 : Int32)), (.int (0 : Int32)), (.int (0 : Int32)), (.int (0 : Int32)), (.int (0 : Int32)), (.int (0 : Int32)), (.int (0 : Int32)), (.int (0 : Int32)), (.int (0 : Int32)), (.int (0 : Int32)), (.int (0 : Int32)), (.int (0 : Int32)), (.int (0 : Int32)), (.int (0 : Int32)), (.int (0 : Int32)), (.int (0 : Int32)), (.int (0 : Int32))] (.int (0 : Int32)) := Arv.set Ar_o21 q_o21 S_o21 Nn_o21 H_o21 G_o21 rfl W20 9 rfl (Nat.le_of_ble_eq_true rfl)
  have N20 := Fr.snoc X20 N18 g_b1
  refine Done.of (g' := (mkF m 64 #[.val (.int p1), .val (.int p2), .val (.int p3), .val (.int p4), .unset, .unset, .unset, .unset, .unset, .unset, .unset] [(.ref b1)])) st20 ?_
  refine Done.of (T' := T20) (g' := (mkF m 70 #[.val (.int p1), .val (.int p2), .val (.int p3), .val (.int p4), .unset, .unset, .unset, .unset, .unset, .unset, .unset] [(.int (880 : Int32)), (.int (10 : Int32)), (.ref b1), (.ref b1)])) (fun t k => ?_) ?_
  · show Steps p.tables e below (T20.setTop (mkF m 64 #[.val (.int p1), .val (.int p2), .val (.int p3), .val (.int p4), .unset, .unset, .unset, .unset, .unset, .unset, .unset] [(.ref b1)])) t
    refine XS.dup X20.here hx rfl (hb hby at_64) rfl rfl ?_
    show Steps p.tables e below (T20.setTop (mkF m 65 #[.val (.int p1), .val (.int p2), .val (.int p3), .val (.int p4), .unset, .unset, .unset, .unset, .unset, .unset, .unset] [(.ref b1), (.ref b1)])) t
    refine XS.bipush X20.here hx rfl (hb hby at_65) ?_
    show Steps p.tables e below (T20.setTop (mkF m 67 #[.val (.int p1), .val (.int p2), .val (.int p3), .val (.int p4), .unset, .unset, .unset, .unset, .unset, .unset, .unset] [(.int (10 : Int32)), (.ref b1), (.ref b1)])) t
    refine XS.sipush X20.here hx rfl (hb hby at_67) ?_
    exact k
  obtain ⟨cl_o23, Ar_o23, q_o23, S_o23, Nn_o23, H_o23, G_o23⟩ := id V20
  have hin22 : ¬ ((10 : Int32) < 0 ∨ cl_o23.slots.size ≤ ((10 : Int32)).toNatClampNeg) := inb_of S_o23 ⟨by decide, by decide⟩
  obtain ⟨T22, h22, X22, e22, W22, st22⟩ := stI X20 hx hZ e20 Ar_o23 (j := (10 : Int32)) hin22 (g := (mkF m 70 #[.val (.int p1), .val (.int p2), .val (.int p3), .val (.int p4), .unset, .unset, .unset, .unset, .unset, .unset, .unset] [(.int (880 : Int32)), (.int (10 : Int32)), (.ref b1), (.ref b1)])) rfl rfl (hb hby at_70)
  have V22 : Arv Z h22 b1 k1 .int (28 : Int32) [(.int (65 : Int32)), (.int (90 : Int32)), (.int (97 : Int32)), (.int (122 : Int32)), (.int (192 : Int32)), (.int (214 : Int32)), (.int (216 : Int32)), (.int (246 : Int32)), (.int (248 : Int32)), (.int (767 : Int32)), (.int (880 : Int32)), (.int (0 : Int32)), (.int (0 : Int32)), (.int (0 : Int32)), (.int (0 : Int32)), (.int (0 : Int32)), (.int (0 : Int32)), (.int (0 : Int32)), (.int (0 : Int32)), (.int (0 : Int32)), (.int (0 : Int32)), (.int (0 : Int32)), (.int (0 : Int32)), (.int (0 : Int32)), (.int (0 : Int32)), (.int (0 : Int32)), (.int (0 : Int32)), (.int (0 : Int32))] (.int (0 : Int32)) := Arv.set Ar_o23 q_o23 S_o23 Nn_o23 H_o23 G_o23 rfl W22 10 rfl (Nat.le_of_ble_eq_true rfl)
  have N22 := Fr.snoc X22 N20 g_b1
  refine Done.of (g' := (mkF m 71 #[.val (.int p1), .val (.int p2), .val (.int p3), .val (.int p4), .unset, .unset, .unset, .unset, .unset, .unset, .unset] [(.ref b1)])) st22 ?_
  refine Done.of (T' := T22) (g' := (mkF m 77 #[.val (.int p1), .val (.int p2), .val (.int p3), .val (.int p4), .unset, .unset, .unset, .unset, .unset, .unset, .unset] [(.int (893 : Int32)), (.int (11 : Int32)), (.ref b1), (.ref b1)])) (fun t k => ?_) ?_
  · show Steps p.tables e below (T22.setTop (mkF m 71 #[.val (.int p1), .val (.int p2), .val (.int p3), .val (.int p4), .unset, .unset, .unset, .unset, .unset, .unset, .unset] [(.ref b1)])) t
    refine XS.dup X22.here hx rfl (hb hby at_71) rfl rfl ?_
    show Steps p.tables e below (T22.setTop (mkF m 72 #[.val (.int p1), .val (.int p2), .val (.int p3), .val (.int p4), .unset, .unset, .unset, .unset, .unset, .unset, .unset] [(.ref b1), (.ref b1)])) t
    refine XS.bipush X22.here hx rfl (hb hby at_72) ?_
    show Steps p.tables e below (T22.setTop (mkF m 74 #[.val (.int p1), .val (.int p2), .val (.int p3), .val (.int p4), .unset, .unset, .unset, .unset, .unset, .unset, .unset] [(.int (11 : Int32)), (.ref b1), (.ref b1)])) t
    refine XS.sipush X22.here hx rfl (hb hby at_74) ?_
    exact k
  obtain ⟨cl_o25, Ar_o25, q_o25, S_o25, Nn_o25, H_o25, G_o25⟩ := id V22
  have hin24 : ¬ ((11 : Int32) < 0 ∨ cl_o25.slots.size ≤ ((11 : Int32)).toNatClampNeg) := inb_of S_o25 ⟨by decide, by decide⟩
  obtain ⟨T24, h24, X24, e24, W24, st24⟩ := stI X22 hx hZ e22 Ar_o25 (j := (11 : Int32)) hin24 (g := (mkF m 77 #[.val (.int p1), .val (.int p2), .val (.int p3), .val (.int p4), .unset, .unset, .unset, .unset, .unset, .unset, .unset] [(.int (893 : Int32)), (.int (11 : Int32)), (.ref b1), (.ref b1)])) rfl rfl (hb hby at_77)
  have V24 : Arv Z h24 b1 k1 .int (28 : Int32) [(.int (65 : Int32)), (.int (90 : Int32)), (.int (97 : Int32)), (.int (122 : Int32)), (.int (192 : Int32)), (.int (214 : Int32)), (.int (216 : Int32)), (.int (246 : Int32)), (.int (248 : Int32)), (.int (767 : Int32)), (.int (880 : Int32)), (.int (893 : Int32)), (.int (0 : Int32)), (.int (0 : Int32)), (.int (0 : Int32)), (.int (0 : Int32)), (.int (0 : Int32)), (.int (0 : Int32)), (.int (0 : Int32)), (.int (0 : Int32)), (.int (0 : Int32)), (.int (0 : Int32)), (.int (0 : Int32)), (.int (0 : Int32)), (.int (0 : Int32)), (.int (0 : Int32)), (.int (0 : Int32)), (.int (0 : Int32))] (.int (0 : Int32)) := Arv.set Ar_o25 q_o25 S_o25 Nn_o25 H_o25 G_o25 rfl W24 11 rfl (Nat.le_of_ble_eq_true rfl)
  have N24 := Fr.snoc X24 N22 g_b1
  refine Done.of (g' := (mkF m 78 #[.val (.int p1), .val (.int p2), .val (.int p3), .val (.int p4), .unset, .unset, .unset, .unset, .unset, .unset, .unset] [(.ref b1)])) st24 ?_
  refine Done.of (T' := T24) (g' := (mkF m 84 #[.val (.int p1), .val (.int p2), .val (.int p3), .val (.int p4), .unset, .unset, .unset, .unset, .unset, .unset, .unset] [(.int (895 : Int32)), (.int (12 : Int32)), (.ref b1), (.ref b1)])) (fun t k => ?_) ?_
  · show Steps p.tables e below (T24.setTop (mkF m 78 #[.val (.int p1), .val (.int p2), .val (.int p3), .val (.int p4), .unset, .unset, .unset, .unset, .unset, .unset, .unset] [(.ref b1)])) t
    refine XS.dup X24.here hx rfl (hb hby at_78) rfl rfl ?_
    show Steps p.tables e below (T24.setTop (mkF m 79 #[.val (.int p1), .val (.int p2), .val (.int p3), .val (.int p4), .unset, .unset, .unset, .unset, .unset, .unset, .unset] [(.ref b1), (.ref b1)])) t
    refine XS.bipush X24.here hx rfl (hb hby at_79) ?_
    show Steps p.tables e below (T24.setTop (mkF m 81 #[.val (.int p1), .val (.int p2), .val (.int p3), .val (.int p4), .unset, .unset, .unset, .unset, .unset, .unset, .unset] [(.int (12 : Int32)), (.ref b1), (.ref b1)])) t
    refine XS.sipush X24.here hx rfl (hb hby at_81) ?_
    exact k
  obtain ⟨cl_o27, Ar_o27, q_o27, S_o27, Nn_o27, H_o27, G_o27⟩ := id V24
  have hin26 : ¬ ((12 : Int32) < 0 ∨ cl_o27.slots.size ≤ ((12 : Int32)).toNatClampNeg) := inb_of S_o27 ⟨by decide, by decide⟩
  obtain ⟨T26, h26, X26, e26, W26, st26⟩ := stI X24 hx hZ e24 Ar_o27 (j := (12 : Int32)) hin26 (g := (mkF m 84 #[.val (.int p1), .val (.int p2), .val (.int p3), .val (.int p4), .unset, .unset, .unset, .unset, .unset, .unset, .unset] [(.int (895 : Int32)), (.int (12 : Int32)), (.ref b1), (.ref b1)])) rfl rfl (hb hby at_84)
  have V26 : Arv Z h26 b1 k1 .int (28 : Int32) [(.int (65 : Int32)), (.int (90 : Int32)), (.int (97 : Int32)), (.int (122 : Int32)), (.int (192 : Int32)), (.int (214 : Int32)), (.int (216 : Int32)), (.int (246 : Int32)), (.int (248 : Int32)), (.int (767 : Int32)), (.int (880 : Int32)), (.int (893 : Int32)), (.int (895 : Int32)), (.int (0 : Int32)), (.int (0 : Int32)), (.int (0 : Int32)), (.int (0 : Int32)), (.int (0 : Int32)), (.int (0 : Int32)), (.int (0 : Int32)), (.int (0 : Int32)), (.int (0 : Int32)), (.int (0 : Int32)), (.int (0 : Int32)), (.int (0 : Int32)), (.int (0 : Int32)), (.int (0 : Int32)), (.int (0 : Int32))] (.int (0 : Int32)) := Arv.set Ar_o27 q_o27 S_o27 Nn_o27 H_o27 G_o27 rfl W26 12 rfl (Nat.le_of_ble_eq_true rfl)
  have N26 := Fr.snoc X26 N24 g_b1
  refine Done.of (g' := (mkF m 85 #[.val (.int p1), .val (.int p2), .val (.int p3), .val (.int p4), .unset, .unset, .unset, .unset, .unset, .unset, .unset] [(.ref b1)])) st26 ?_
  refine Done.of (T' := T26) (g' := (mkF m 91 #[.val (.int p1), .val (.int p2), .val (.int p3), .val (.int p4), .unset, .unset, .unset, .unset, .unset, .unset, .unset] [(.int (8191 : Int32)), (.int (13 : Int32)), (.ref b1), (.ref b1)])) (fun t k => ?_) ?_
  · show Steps p.tables e below (T26.setTop (mkF m 85 #[.val (.int p1), .val (.int p2), .val (.int p3), .val (.int p4), .unset, .unset, .unset, .unset, .unset, .unset, .unset] [(.ref b1)])) t
    refine XS.dup X26.here hx rfl (hb hby at_85) rfl rfl ?_
    show Steps p.tables e below (T26.setTop (mkF m 86 #[.val (.int p1), .val (.int p2), .val (.int p3), .val (.int p4), .unset, .unset, .unset, .unset, .unset, .unset, .unset] [(.ref b1), (.ref b1)])) t
    refine XS.bipush X26.here hx rfl (hb hby at_86) ?_
    show Steps p.tables e below (T26.setTop (mkF m 88 #[.val (.int p1), .val (.int p2), .val (.int p3), .val (.int p4), .unset, .unset, .unset, .unset, .unset, .unset, .unset] [(.int (13 : Int32)), (.ref b1), (.ref b1)])) t
    refine XS.sipush X26.here hx rfl (hb hby at_88) ?_
    exact k
  obtain ⟨cl_o29, Ar_o29, q_o29, S_o29, Nn_o29, H_o29, G_o29⟩ := id V26
  have hin28 : ¬ ((13 : Int32) < 0 ∨ cl_o29.slots.size ≤ ((13 : Int32)).toNatClampNeg) := inb_of S_o29 ⟨by decide, by decide⟩
  obtain ⟨T28, h28, X28, e28, W28, st28⟩ := stI X26 hx hZ e26 Ar_o29 (j := (13 : Int32)) hin28 (g := (mkF m 91 #[.val (.int p1), .val (.int p2), .val (.int p3), .val (.int p4), .unset, .unset, .unset, .unset, .unset, .unset, .unset] [(.int (8191 : Int32)), (.int (13 : Int32)), (.ref b1), (.ref b1)])) rfl rfl (hb hby at_91)
  have V28 : Arv Z h28 b1 k1 .int (28 : Int32) [(.int (65 : Int32)), (.int (90 : Int32)), (.int (97 : Int32)), (.int (122 : Int32)), (.int (192 : Int32)), (.int (214 : Int32)), (.int (216 : Int32)), (.int (246 : Int32)), (.int (248 : Int32)), (.int (767 : Int32)), (.int (880 : Int32)), (.int (893 : Int32)), (.int (895 : Int32)), (.int (8191 : Int32)), (.int (0 : Int32)), (.int (0 : Int32)), (.int (0 : Int32)), (.int (0 : Int32)), (.int (0 : Int32)), (.int (0 : Int32)), (.int (0 : Int32)), (.int (0 : Int32)), (.int (0 : Int32)), (.int (0 : Int32)), (.int (0 : Int32)), (.int (0 : Int32)), (.int (0 : Int32)), (.int (0 : Int32))] (.int (0 : Int32)) := Arv.set Ar_o29 q_o29 S_o29 Nn_o29 H_o29 G_o29 rfl W28 13 rfl (Nat.le_of_ble_eq_true rfl)
  have N28 := Fr.snoc X28 N26 g_b1
  refine Done.of (g' := (mkF m 92 #[.val (.int p1), .val (.int p2), .val (.int p3), .val (.int p4), .unset, .unset, .unset, .unset, .unset, .unset, .unset] [(.ref b1)])) st28 ?_
  refine Done.of (T' := T28) (g' := (mkF m 98 #[.val (.int p1), .val (.int p2), .val (.int p3), .val (.int p4), .unset, .unset, .unset, .unset, .unset, .unset, .unset] [(.int (8204 : Int32)), (.int (14 : Int32)), (.ref b1), (.ref b1)])) (fun t k => ?_) ?_
  · show Steps p.tables e below (T28.setTop (mkF m 92 #[.val (.int p1), .val (.int p2), .val (.int p3), .val (.int p4), .unset, .unset, .unset, .unset, .unset, .unset, .unset] [(.ref b1)])) t
    refine XS.dup X28.here hx rfl (hb hby at_92) rfl rfl ?_
    show Steps p.tables e below (T28.setTop (mkF m 93 #[.val (.int p1), .val (.int p2), .val (.int p3), .val (.int p4), .unset, .unset, .unset, .unset, .unset, .unset, .unset] [(.ref b1), (.ref b1)])) t
    refine XS.bipush X28.here hx rfl (hb hby at_93) ?_
    show Steps p.tables e below (T28.setTop (mkF m 95 #[.val (.int p1), .val (.int p2), .val (.int p3), .val (.int p4), .unset, .unset, .unset, .unset, .unset, .unset, .unset] [(.int (14 : Int32)), (.ref b1), (.ref b1)])) t
    refine XS.sipush X28.here hx rfl (hb hby at_95) ?_
    exact k
  obtain ⟨cl_o31, Ar_o31, q_o31, S_o31, Nn_o31, H_o31, G_o31⟩ := id V28
  have hin30 : ¬ ((14 : Int32) < 0 ∨ cl_o31.slots.size ≤ ((14 : Int32)).toNatClampNeg) := inb_of S_o31 ⟨by decide, by decide⟩
  obtain ⟨T30, h30, X30, e30, W30, st30⟩ := stI X28 hx hZ e28 Ar_o31 (j := (14 : Int32)) hin30 (g := (mkF m 98 #[.val (.int p1), .val (.int p2), .val (.int p3), .val (.int p4), .unset, .unset, .unset, .unset, .unset, .unset, .unset] [(.int (8204 : Int32)), (.int (14 : Int32)), (.ref b1), (.ref b1)])) rfl rfl (hb hby at_98)
  have V30 : Arv Z h30 b1 k1 .int (28 : Int32) [(.int (65 : Int32)), (.int (90 : Int32)), (.int (97 : Int32)), (.int (122 : Int32)), (.int (192 : Int32)), (.int (214 : Int32)), (.int (216 : Int32)), (.int (246 : Int32)), (.int (248 : Int32)), (.int (767 : Int32)), (.int (880 : Int32)), (.int (893 : Int32)), (.int (895 : Int32)), (.int (8191 : Int32)), (.int (8204 : Int32)), (.int (0 : Int32)), (.int (0 : Int32)), (.int (0 : Int32)), (.int (0 : Int32)), (.int (0 : Int32)), (.int (0 : Int32)), (.int (0 : Int32)), (.int (0 : Int32)), (.int (0 : Int32)), (.int (0 : Int32)), (.int (0 : Int32)), (.int (0 : Int32)), (.int (0 : Int32))] (.int (0 : Int32)) := Arv.set Ar_o31 q_o31 S_o31 Nn_o31 H_o31 G_o31 rfl W30 14 rfl (Nat.le_of_ble_eq_true rfl)
  have N30 := Fr.snoc X30 N28 g_b1
  refine Done.of (g' := (mkF m 99 #[.val (.int p1), .val (.int p2), .val (.int p3), .val (.int p4), .unset, .unset, .unset, .unset, .unset, .unset, .unset] [(.ref b1)])) st30 ?_
  refine Done.of (T' := T30) (g' := (mkF m 105 #[.val (.int p1), .val (.int p2), .val (.int p3), .val (.int p4), .unset, .unset, .unset, .unset, .unset, .unset, .unset] [(.int (8205 : Int32)), (.int (15 : Int32)), (.ref b1), (.ref b1)])) (fun t k => ?_) ?_
  · show Steps p.tables e below (T30.setTop (mkF m 99 #[.val (.int p1), .val (.int p2), .val (.int p3), .val (.int p4), .unset, .unset, .unset, .unset, .unset, .unset, .unset] [(.ref b1)])) t
    refine XS.dup X30.here hx rfl (hb hby at_99) rfl rfl ?_
    show Steps p.tables e below (T30.setTop (mkF m 100 #[.val (.int p1), .val (.int p2), .val (.int p3), .val (.int p4), .unset, .unset, .unset, .unset, .unset, .unset, .unset] [(.ref b1), (.ref b1)])) t
    refine XS.bipush X30.here hx rfl (hb hby at_100) ?_
    show Steps p.tables e below (T30.setTop (mkF m 102 #[.val (.int p1), .val (.int p2), .val (.int p3), .val (.int p4), .unset, .unset, .unset, .unset, .unset, .unset, .unset] [(.int (15 : Int32)), (.ref b1), (.ref b1)])) t
    refine XS.sipush X30.here hx rfl (hb hby at_102) ?_
    exact k
  obtain ⟨cl_o33, Ar_o33, q_o33, S_o33, Nn_o33, H_o33, G_o33⟩ := id V30
  have hin32 : ¬ ((15 : Int32) < 0 ∨ cl_o33.slots.size ≤ ((15 : Int32)).toNatClampNeg) := inb_of S_o33 ⟨by decide, by decide⟩
  obtain ⟨T32, h32, X32, e32, W32, st32⟩ := stI X30 hx hZ e30 Ar_o33 (j := (15 : Int32)) hin32 (g := (mkF m 105 #[.val (.int p1), .val (.int p2), .val (.int p3), .val (.int p4), .unset, .unset, .unset, .unset, .unset, .unset, .unset] [(.int (8205 : Int32)), (.int (15 : Int32)), (.ref b1), (.ref b1)])) rfl rfl (hb hby at_105)
  have V32 : Arv Z h32 b1 k1 .int (28 : Int32) [(.int (65 : Int32)), (.int (90 : Int32)), (.int (97 : Int32)), (.int (122 : Int32)), (.int (192 : Int32)), (.int (214 : Int32)), (.int (216 : Int32)), (.int (246 : Int32)), (.int (248 : Int32)), (.int (767 : Int32)), (.int (880 : Int32)), (.int (893 : Int32)), (.int (895 : Int32)), (.int (8191 : Int32)), (.int (8204 : Int32)), (.int (8205 : Int32)), (.int (0 : Int32)), (.int (0 : Int32)), (.int (0 : Int32)), (.int (0 : Int32)), (.int (0 : Int32)), (.int (0 : Int32)), (.int (0 : Int32)), (.int (0 : Int32)), (.int (0 : Int32)), (.int (0 : Int32)), (.int (0 : Int32)), (.int (0 : Int32))] (.int (0 : Int32)) := Arv.set Ar_o33 q_o33 S_o33 Nn_o33 H_o33 G_o33 rfl W32 15 rfl (Nat.le_of_ble_eq_true rfl)
  have N32 := Fr.snoc X32 N30 g_b1
  refine Done.of (g' := (mkF m 106 #[.val (.int p1), .val (.int p2), .val (.int p3), .val (.int p4), .unset, .unset, .unset, .unset, .unset, .unset, .unset] [(.ref b1)])) st32 ?_
  refine Done.of (T' := T32) (g' := (mkF m 112 #[.val (.int p1), .val (.int p2), .val (.int p3), .val (.int p4), .unset, .unset, .unset, .unset, .unset, .unset, .unset] [(.int (8304 : Int32)), (.int (16 : Int32)), (.ref b1), (.ref b1)])) (fun t k => ?_) ?_
  · show Steps p.tables e below (T32.setTop (mkF m 106 #[.val (.int p1), .val (.int p2), .val (.int p3), .val (.int p4), .unset, .unset, .unset, .unset, .unset, .unset, .unset] [(.ref b1)])) t
    refine XS.dup X32.here hx rfl (hb hby at_106) rfl rfl ?_
    show Steps p.tables e below (T32.setTop (mkF m 107 #[.val (.int p1), .val (.int p2), .val (.int p3), .val (.int p4), .unset, .unset, .unset, .unset, .unset, .unset, .unset] [(.ref b1), (.ref b1)])) t
    refine XS.bipush X32.here hx rfl (hb hby at_107) ?_
    show Steps p.tables e below (T32.setTop (mkF m 109 #[.val (.int p1), .val (.int p2), .val (.int p3), .val (.int p4), .unset, .unset, .unset, .unset, .unset, .unset, .unset] [(.int (16 : Int32)), (.ref b1), (.ref b1)])) t
    refine XS.sipush X32.here hx rfl (hb hby at_109) ?_
    exact k
  obtain ⟨cl_o35, Ar_o35, q_o35, S_o35, Nn_o35, H_o35, G_o35⟩ := id V32
  have hin34 : ¬ ((16 : Int32) < 0 ∨ cl_o35.slots.size ≤ ((16 : Int32)).toNatClampNeg) := inb_of S_o35 ⟨by decide, by decide⟩
  obtain ⟨T34, h34, X34, e34, W34, st34⟩ := stI X32 hx hZ e32 Ar_o35 (j := (16 : Int32)) hin34 (g := (mkF m 112 #[.val (.int p1), .val (.int p2), .val (.int p3), .val (.int p4), .unset, .unset, .unset, .unset, .unset, .unset, .unset] [(.int (8304 : Int32)), (.int (16 : Int32)), (.ref b1), (.ref b1)])) rfl rfl (hb hby at_112)
  have V34 : Arv Z h34 b1 k1 .int (28 : Int32) [(.int (65 : Int32)), (.int (90 : Int32)), (.int (97 : Int32)), (.int (122 : Int32)), (.int (192 : Int32)), (.int (214 : Int32)), (.int (216 : Int32)), (.int (246 : Int32)), (.int (248 : Int32)), (.int (767 : Int32)), (.int (880 : Int32)), (.int (893 : Int32)), (.int (895 : Int32)), (.int (8191 : Int32)), (.int (8204 : Int32)), (.int (8205 : Int32)), (.int (8304 : Int32)), (.int (0 : Int32)), (.int (0 : Int32)), (.int (0 : Int32)), (.int (0 : Int32)), (.int (0 : Int32)), (.int (0 : Int32)), (.int (0 : Int32)), (.int (0 : Int32)), (.int (0 : Int32)), (.int (0 : Int32)), (.int (0 : Int32))] (.int (0 : Int32)) := Arv.set Ar_o35 q_o35 S_o35 Nn_o35 H_o35 G_o35 rfl W34 16 rfl (Nat.le_of_ble_eq_true rfl)
  have N34 := Fr.snoc X34 N32 g_b1
  refine Done.of (g' := (mkF m 113 #[.val (.int p1), .val (.int p2), .val (.int p3), .val (.int p4), .unset, .unset, .unset, .unset, .unset, .unset, .unset] [(.ref b1)])) st34 ?_
  refine Done.of (T' := T34) (g' := (mkF m 119 #[.val (.int p1), .val (.int p2), .val (.int p3), .val (.int p4), .unset, .unset, .unset, .unset, .unset, .unset, .unset] [(.int (8591 : Int32)), (.int (17 : Int32)), (.ref b1), (.ref b1)])) (fun t k => ?_) ?_
  · show Steps p.tables e below (T34.setTop (mkF m 113 #[.val (.int p1), .val (.int p2), .val (.int p3), .val (.int p4), .unset, .unset, .unset, .unset, .unset, .unset, .unset] [(.ref b1)])) t
    refine XS.dup X34.here hx rfl (hb hby at_113) rfl rfl ?_
    show Steps p.tables e below (T34.setTop (mkF m 114 #[.val (.int p1), .val (.int p2), .val (.int p3), .val (.int p4), .unset, .unset, .unset, .unset, .unset, .unset, .unset] [(.ref b1), (.ref b1)])) t
    refine XS.bipush X34.here hx rfl (hb hby at_114) ?_
    show Steps p.tables e below (T34.setTop (mkF m 116 #[.val (.int p1), .val (.int p2), .val (.int p3), .val (.int p4), .unset, .unset, .unset, .unset, .unset, .unset, .unset] [(.int (17 : Int32)), (.ref b1), (.ref b1)])) t
    refine XS.sipush X34.here hx rfl (hb hby at_116) ?_
    exact k
  obtain ⟨cl_o37, Ar_o37, q_o37, S_o37, Nn_o37, H_o37, G_o37⟩ := id V34
  have hin36 : ¬ ((17 : Int32) < 0 ∨ cl_o37.slots.size ≤ ((17 : Int32)).toNatClampNeg) := inb_of S_o37 ⟨by decide, by decide⟩
  obtain ⟨T36, h36, X36, e36, W36, st36⟩ := stI X34 hx hZ e34 Ar_o37 (j := (17 : Int32)) hin36 (g := (mkF m 119 #[.val (.int p1), .val (.int p2), .val (.int p3), .val (.int p4), .unset, .unset, .unset, .unset, .unset, .unset, .unset] [(.int (8591 : Int32)), (.int (17 : Int32)), (.ref b1), (.ref b1)])) rfl rfl (hb hby at_119)
  have V36 : Arv Z h36 b1 k1 .int (28 : Int32) [(.int (65 : Int32)), (.int (90 : Int32)), (.int (97 : Int32)), (.int (122 : Int32)), (.int (192 : Int32)), (.int (214 : Int32)), (.int (216 : Int32)), (.int (246 : Int32)), (.int (248 : Int32)), (.int (767 : Int32)), (.int (880 : Int32)), (.int (893 : Int32)), (.int (895 : Int32)), (.int (8191 : Int32)), (.int (8204 : Int32)), (.int (8205 : Int32)), (.int (8304 : Int32)), (.int (8591 : Int32)), (.int (0 : Int32)), (.int (0 : Int32)), (.int (0 : Int32)), (.int (0 : Int32)), (.int (0 : Int32)), (.int (0 : Int32)), (.int (0 : Int32)), (.int (0 : Int32)), (.int (0 : Int32)), (.int (0 : Int32))] (.int (0 : Int32)) := Arv.set Ar_o37 q_o37 S_o37 Nn_o37 H_o37 G_o37 rfl W36 17 rfl (Nat.le_of_ble_eq_true rfl)
  have N36 := Fr.snoc X36 N34 g_b1
  refine Done.of (g' := (mkF m 120 #[.val (.int p1), .val (.int p2), .val (.int p3), .val (.int p4), .unset, .unset, .unset, .unset, .unset, .unset, .unset] [(.ref b1)])) st36 ?_
  refine Done.of (T' := T36) (g' := (mkF m 126 #[.val (.int p1), .val (.int p2), .val (.int p3), .val (.int p4), .unset, .unset, .unset, .unset, .unset, .unset, .unset] [(.int (11264 : Int32)), (.int (18 : Int32)), (.ref b1), (.ref b1)])) (fun t k => ?_) ?_
  · show Steps p.tables e below (T36.setTop (mkF m 120 #[.val (.int p1), .val (.int p2), .val (.int p3), .val (.int p4), .unset, .unset, .unset, .unset, .unset, .unset, .unset] [(.ref b1)])) t
    refine XS.dup X36.here hx rfl (hb hby at_120) rfl rfl ?_
    show Steps p.tables e below (T36.setTop (mkF m 121 #[.val (.int p1), .val (.int p2), .val (.int p3), .val (.int p4), .unset, .unset, .unset, .unset, .unset, .unset, .unset] [(.ref b1), (.ref b1)])) t
    refine XS.bipush X36.here hx rfl (hb hby at_121) ?_
    show Steps p.tables e below (T36.setTop (mkF m 123 #[.val (.int p1), .val (.int p2), .val (.int p3), .val (.int p4), .unset, .unset, .unset, .unset, .unset, .unset, .unset] [(.int (18 : Int32)), (.ref b1), (.ref b1)])) t
    refine XS.sipush X36.here hx rfl (hb hby at_123) ?_
    exact k
  obtain ⟨cl_o39, Ar_o39, q_o39, S_o39, Nn_o39, H_o39, G_o39⟩ := id V36
  have hin38 : ¬ ((18 : Int32) < 0 ∨ cl_o39.slots.size ≤ ((18 : Int32)).toNatClampNeg) := inb_of S_o39 ⟨by decide, by decide⟩
  obtain ⟨T38, h38, X38, e38, W38, st38⟩ := stI X36 hx hZ e36 Ar_o39 (j := (18 : Int32)) hin38 (g := (mkF m 126 #[.val (.int p1), .val (.int p2), .val (.int p3), .val (.int p4), .unset, .unset, .unset, .unset, .unset, .unset, .unset] [(.int (11264 : Int32)), (.int (18 : Int32)), (.ref b1), (.ref b1)])) rfl rfl (hb hby at_126)
  have V38 : Arv Z h38 b1 k1 .int (28 : Int32) [(.int (65 : Int32)), (.int (90 : Int32)), (.int (97 : Int32)), (.int (122 : Int32)), (.int (192 : Int32)), (.int (214 : Int32)), (.int (216 : Int32)), (.int (246 : Int32)), (.int (248 : Int32)), (.int (767 : Int32)), (.int (880 : Int32)), (.int (893 : Int32)), (.int (895 : Int32)), (.int (8191 : Int32)), (.int (8204 : Int32)), (.int (8205 : Int32)), (.int (8304 : Int32)), (.int (8591 : Int32)), (.int (11264 : Int32)), (.int (0 : Int32)), (.int (0 : Int32)), (.int (0 : Int32)), (.int (0 : Int32)), (.int (0 : Int32)), (.int (0 : Int32)), (.int (0 : Int32)), (.int (0 : Int32)), (.int (0 : Int32))] (.int (0 : Int32)) := Arv.set Ar_o39 q_o39 S_o39 Nn_o39 H_o39 G_o39 rfl W38 18 rfl (Nat.le_of_ble_eq_true rfl)
  have N38 := Fr.snoc X38 N36 g_b1
  refine Done.of (g' := (mkF m 127 #[.val (.int p1), .val (.int p2), .val (.int p3), .val (.int p4), .unset, .unset, .unset, .unset, .unset, .unset, .unset] [(.ref b1)])) st38 ?_
  refine Done.of (T' := T38) (g' := (mkF m 133 #[.val (.int p1), .val (.int p2), .val (.int p3), .val (.int p4), .unset, .unset, .unset, .unset, .unset, .unset, .unset] [(.int (12271 : Int32)), (.int (19 : Int32)), (.ref b1), (.ref b1)])) (fun t k => ?_) ?_
  · show Steps p.tables e below (T38.setTop (mkF m 127 #[.val (.int p1), .val (.int p2), .val (.int p3), .val (.int p4), .unset, .unset, .unset, .unset, .unset, .unset, .unset] [(.ref b1)])) t
    refine XS.dup X38.here hx rfl (hb hby at_127) rfl rfl ?_
    show Steps p.tables e below (T38.setTop (mkF m 128 #[.val (.int p1), .val (.int p2), .val (.int p3), .val (.int p4), .unset, .unset, .unset, .unset, .unset, .unset, .unset] [(.ref b1), (.ref b1)])) t
    refine XS.bipush X38.here hx rfl (hb hby at_128) ?_
    show Steps p.tables e below (T38.setTop (mkF m 130 #[.val (.int p1), .val (.int p2), .val (.int p3), .val (.int p4), .unset, .unset, .unset, .unset, .unset, .unset, .unset] [(.int (19 : Int32)), (.ref b1), (.ref b1)])) t
    refine XS.sipush X38.here hx rfl (hb hby at_130) ?_
    exact k
  obtain ⟨cl_o41, Ar_o41, q_o41, S_o41, Nn_o41, H_o41, G_o41⟩ := id V38
  have hin40 : ¬ ((19 : Int32) < 0 ∨ cl_o41.slots.size ≤ ((19 : Int32)).toNatClampNeg) := inb_of S_o41 ⟨by decide, by decide⟩
  obtain ⟨T40, h40, X40, e40, W40, st40⟩ := stI X38 hx hZ e38 Ar_o41 (j := (19 : Int32)) hin40 (g := (mkF m 133 #[.val (.int p1), .val (.int p2), .val (.int p3), .val (.int p4), .unset, .unset, .unset, .unset, .unset, .unset, .unset] [(.int (12271 : Int32)), (.int (19 : Int32)), (.ref b1), (.ref b1)])) rfl rfl (hb hby at_133)
  have V40 : Arv Z h40 b1 k1 .int (28 : Int32) [(.int (65 : Int32)), (.int (90 : Int32)), (.int (97 : Int32)), (.int (122 : Int32)), (.int (192 : Int32)), (.int (214 : Int32)), (.int (216 : Int32)), (.int (246 : Int32)), (.int (248 : Int32)), (.int (767 : Int32)), (.int (880 : Int32)), (.int (893 : Int32)), (.int (895 : Int32)), (.int (8191 : Int32)), (.int (8204 : Int32)), (.int (8205 : Int32)), (.int (8304 : Int32)), (.int (8591 : Int32)), (.int (11264 : Int32)), (.int (12271 : Int32)), (.int (0 : Int32)), (.int (0 : Int32)), (.int (0 : Int32)), (.int (0 : Int32)), (.int (0 : Int32)), (.int (0 : Int32)), (.int (0 : Int32)), (.int (0 : Int32))] (.int (0 : Int32)) := Arv.set Ar_o41 q_o41 S_o41 Nn_o41 H_o41 G_o41 rfl W40 19 rfl (Nat.le_of_ble_eq_true rfl)
  have N40 := Fr.snoc X40 N38 g_b1
  refine Done.of (g' := (mkF m 134 #[.val (.int p1), .val (.int p2), .val (.int p3), .val (.int p4), .unset, .unset, .unset, .unset, .unset, .unset, .unset] [(.ref b1)])) st40 ?_
  refine Done.of (T' := T40) (g' := (mkF m 140 #[.val (.int p1), .val (.int p2), .val (.int p3), .val (.int p4), .unset, .unset, .unset, .unset, .unset, .unset, .unset] [(.int (12289 : Int32)), (.int (20 : Int32)), (.ref b1), (.ref b1)])) (fun t k => ?_) ?_
  · show Steps p.tables e below (T40.setTop (mkF m 134 #[.val (.int p1), .val (.int p2), .val (.int p3), .val (.int p4), .unset, .unset, .unset, .unset, .unset, .unset, .unset] [(.ref b1)])) t
    refine XS.dup X40.here hx rfl (hb hby at_134) rfl rfl ?_
    show Steps p.tables e below (T40.setTop (mkF m 135 #[.val (.int p1), .val (.int p2), .val (.int p3), .val (.int p4), .unset, .unset, .unset, .unset, .unset, .unset, .unset] [(.ref b1), (.ref b1)])) t
    refine XS.bipush X40.here hx rfl (hb hby at_135) ?_
    show Steps p.tables e below (T40.setTop (mkF m 137 #[.val (.int p1), .val (.int p2), .val (.int p3), .val (.int p4), .unset, .unset, .unset, .unset, .unset, .unset, .unset] [(.int (20 : Int32)), (.ref b1), (.ref b1)])) t
    refine XS.sipush X40.here hx rfl (hb hby at_137) ?_
    exact k
  obtain ⟨cl_o43, Ar_o43, q_o43, S_o43, Nn_o43, H_o43, G_o43⟩ := id V40
  have hin42 : ¬ ((20 : Int32) < 0 ∨ cl_o43.slots.size ≤ ((20 : Int32)).toNatClampNeg) := inb_of S_o43 ⟨by decide, by decide⟩
  obtain ⟨T42, h42, X42, e42, W42, st42⟩ := stI X40 hx hZ e40 Ar_o43 (j := (20 : Int32)) hin42 (g := (mkF m 140 #[.val (.int p1), .val (.int p2), .val (.int p3), .val (.int p4), .unset, .unset, .unset, .unset, .unset, .unset, .unset] [(.int (12289 : Int32)), (.int (20 : Int32)), (.ref b1), (.ref b1)])) rfl rfl (hb hby at_140)
  have V42 : Arv Z h42 b1 k1 .int (28 : Int32) [(.int (65 : Int32)), (.int (90 : Int32)), (.int (97 : Int32)), (.int (122 : Int32)), (.int (192 : Int32)), (.int (214 : Int32)), (.int (216 : Int32)), (.int (246 : Int32)), (.int (248 : Int32)), (.int (767 : Int32)), (.int (880 : Int32)), (.int (893 : Int32)), (.int (895 : Int32)), (.int (8191 : Int32)), (.int (8204 : Int32)), (.int (8205 : Int32)), (.int (8304 : Int32)), (.int (8591 : Int32)), (.int (11264 : Int32)), (.int (12271 : Int32)), (.int (12289 : Int32)), (.int (0 : Int32)), (.int (0 : Int32)), (.int (0 : Int32)), (.int (0 : Int32)), (.int (0 : Int32)), (.int (0 : Int32)), (.int (0 : Int32))] (.int (0 : Int32)) := Arv.set Ar_o43 q_o43 S_o43 Nn_o43 H_o43 G_o43 rfl W42 20 rfl (Nat.le_of_ble_eq_true rfl)
  have N42 := Fr.snoc X42 N40 g_b1
  refine Done.of (g' := (mkF m 141 #[.val (.int p1), .val (.int p2), .val (.int p3), .val (.int p4), .unset, .unset, .unset, .unset, .unset, .unset, .unset] [(.ref b1)])) st42 ?_
  refine Done.of (T' := T42) (g' := (mkF m 146 #[.val (.int p1), .val (.int p2), .val (.int p3), .val (.int p4), .unset, .unset, .unset, .unset, .unset, .unset, .unset] [(.int (55295 : Int32)), (.int (21 : Int32)), (.ref b1), (.ref b1)])) (fun t k => ?_) ?_
  · show Steps p.tables e below (T42.setTop (mkF m 141 #[.val (.int p1), .val (.int p2), .val (.int p3), .val (.int p4), .unset, .unset, .unset, .unset, .unset, .unset, .unset] [(.ref b1)])) t
    refine XS.dup X42.here hx rfl (hb hby at_141) rfl rfl ?_
    show Steps p.tables e below (T42.setTop (mkF m 142 #[.val (.int p1), .val (.int p2), .val (.int p3), .val (.int p4), .unset, .unset, .unset, .unset, .unset, .unset, .unset] [(.ref b1), (.ref b1)])) t
    refine XS.bipush X42.here hx rfl (hb hby at_142) ?_
    show Steps p.tables e below (T42.setTop (mkF m 144 #[.val (.int p1), .val (.int p2), .val (.int p3), .val (.int p4), .unset, .unset, .unset, .unset, .unset, .unset, .unset] [(.int (21 : Int32)), (.ref b1), (.ref b1)])) t
    refine X42.ldcInt hx hown (mvT hZ (hw _ (List.mem_of_getElem? (i := 1) rfl))) (g := (mkF m 144 #[.val (.int p1), .val (.int p2), .val (.int p3), .val (.int p4), .unset, .unset, .unset, .unset, .unset, .unset, .unset] [(.int (21 : Int32)), (.ref b1), (.ref b1)])) rfl (hb hby at_144) _ ?_
    exact k
  obtain ⟨cl_o45, Ar_o45, q_o45, S_o45, Nn_o45, H_o45, G_o45⟩ := id V42
  have hin44 : ¬ ((21 : Int32) < 0 ∨ cl_o45.slots.size ≤ ((21 : Int32)).toNatClampNeg) := inb_of S_o45 ⟨by decide, by decide⟩
  obtain ⟨T44, h44, X44, e44, W44, st44⟩ := stI X42 hx hZ e42 Ar_o45 (j := (21 : Int32)) hin44 (g := (mkF m 146 #[.val (.int p1), .val (.int p2), .val (.int p3), .val (.int p4), .unset, .unset, .unset, .unset, .unset, .unset, .unset] [(.int (55295 : Int32)), (.int (21 : Int32)), (.ref b1), (.ref b1)])) rfl rfl (hb hby at_146)
  have V44 : Arv Z h44 b1 k1 .int (28 : Int32) [(.int (65 : Int32)), (.int (90 : Int32)), (.int (97 : Int32)), (.int (122 : Int32)), (.int (192 : Int32)), (.int (214 : Int32)), (.int (216 : Int32)), (.int (246 : Int32)), (.int (248 : Int32)), (.int (767 : Int32)), (.int (880 : Int32)), (.int (893 : Int32)), (.int (895 : Int32)), (.int (8191 : Int32)), (.int (8204 : Int32)), (.int (8205 : Int32)), (.int (8304 : Int32)), (.int (8591 : Int32)), (.int (11264 : Int32)), (.int (12271 : Int32)), (.int (12289 : Int32)), (.int (55295 : Int32)), (.int (0 : Int32)), (.int (0 : Int32)), (.int (0 : Int32)), (.int (0 : Int32)), (.int (0 : Int32)), (.int (0 : Int32))] (.int (0 : Int32)) := Arv.set Ar_o45 q_o45 S_o45 Nn_o45 H_o45 G_o45 rfl W44 21 rfl (Nat.le_of_ble_eq_true rfl)
  have N44 := Fr.snoc X44 N42 g_b1
  refine Done.of (g' := (mkF m 147 #[.val (.int p1), .val (.int p2), .val (.int p3), .val (.int p4), .unset, .unset, .unset, .unset, .unset, .unset, .unset] [(.ref b1)])) st44 ?_
  refine Done.of (T' := T44) (g' := (mkF m 152 #[.val (.int p1), .val (.int p2), .val (.int p3), .val (.int p4), .unset, .unset, .unset, .unset, .unset, .unset, .unset] [(.int (63744 : Int32)), (.int (22 : Int32)), (.ref b1), (.ref b1)])) (fun t k => ?_) ?_
  · show Steps p.tables e below (T44.setTop (mkF m 147 #[.val (.int p1), .val (.int p2), .val (.int p3), .val (.int p4), .unset, .unset, .unset, .unset, .unset, .unset, .unset] [(.ref b1)])) t
    refine XS.dup X44.here hx rfl (hb hby at_147) rfl rfl ?_
    show Steps p.tables e below (T44.setTop (mkF m 148 #[.val (.int p1), .val (.int p2), .val (.int p3), .val (.int p4), .unset, .unset, .unset, .unset, .unset, .unset, .unset] [(.ref b1), (.ref b1)])) t
    refine XS.bipush X44.here hx rfl (hb hby at_148) ?_
    show Steps p.tables e below (T44.setTop (mkF m 150 #[.val (.int p1), .val (.int p2), .val (.int p3), .val (.int p4), .unset, .unset, .unset, .unset, .unset, .unset, .unset] [(.int (22 : Int32)), (.ref b1), (.ref b1)])) t
    refine X44.ldcInt hx hown (mvT hZ (hw _ (List.mem_of_getElem? (i := 2) rfl))) (g := (mkF m 150 #[.val (.int p1), .val (.int p2), .val (.int p3), .val (.int p4), .unset, .unset, .unset, .unset, .unset, .unset, .unset] [(.int (22 : Int32)), (.ref b1), (.ref b1)])) rfl (hb hby at_150) _ ?_
    exact k
  obtain ⟨cl_o47, Ar_o47, q_o47, S_o47, Nn_o47, H_o47, G_o47⟩ := id V44
  have hin46 : ¬ ((22 : Int32) < 0 ∨ cl_o47.slots.size ≤ ((22 : Int32)).toNatClampNeg) := inb_of S_o47 ⟨by decide, by decide⟩
  obtain ⟨T46, h46, X46, e46, W46, st46⟩ := stI X44 hx hZ e44 Ar_o47 (j := (22 : Int32)) hin46 (g := (mkF m 152 #[.val (.int p1), .val (.int p2), .val (.int p3), .val (.int p4), .unset, .unset, .unset, .unset, .unset, .unset, .unset] [(.int (63744 : Int32)), (.int (22 : Int32)), (.ref b1), (.ref b1)])) rfl rfl (hb hby at_152)
  have V46 : Arv Z h46 b1 k1 .int (28 : Int32) [(.int (65 : Int32)), (.int (90 : Int32)), (.int (97 : Int32)), (.int (122 : Int32)), (.int (192 : Int32)), (.int (214 : Int32)), (.int (216 : Int32)), (.int (246 : Int32)), (.int (248 : Int32)), (.int (767 : Int32)), (.int (880 : Int32)), (.int (893 : Int32)), (.int (895 : Int32)), (.int (8191 : Int32)), (.int (8204 : Int32)), (.int (8205 : Int32)), (.int (8304 : Int32)), (.int (8591 : Int32)), (.int (11264 : Int32)), (.int (12271 : Int32)), (.int (12289 : Int32)), (.int (55295 : Int32)), (.int (63744 : Int32)), (.int (0 : Int32)), (.int (0 : Int32)), (.int (0 : Int32)), (.int (0 : Int32)), (.int (0 : Int32))] (.int (0 : Int32)) := Arv.set Ar_o47 q_o47 S_o47 Nn_o47 H_o47 G_o47 rfl W46 22 rfl (Nat.le_of_ble_eq_true rfl)
  have N46 := Fr.snoc X46 N44 g_b1
  refine Done.of (g' := (mkF m 153 #[.val (.int p1), .val (.int p2), .val (.int p3), .val (.int p4), .unset, .unset, .unset, .unset, .unset, .unset, .unset] [(.ref b1)])) st46 ?_
  refine Done.of (T' := T46) (g' := (mkF m 158 #[.val (.int p1), .val (.int p2), .val (.int p3), .val (.int p4), .unset, .unset, .unset, .unset, .unset, .unset, .unset] [(.int (64975 : Int32)), (.int (23 : Int32)), (.ref b1), (.ref b1)])) (fun t k => ?_) ?_
  · show Steps p.tables e below (T46.setTop (mkF m 153 #[.val (.int p1), .val (.int p2), .val (.int p3), .val (.int p4), .unset, .unset, .unset, .unset, .unset, .unset, .unset] [(.ref b1)])) t
    refine XS.dup X46.here hx rfl (hb hby at_153) rfl rfl ?_
    show Steps p.tables e below (T46.setTop (mkF m 154 #[.val (.int p1), .val (.int p2), .val (.int p3), .val (.int p4), .unset, .unset, .unset, .unset, .unset, .unset, .unset] [(.ref b1), (.ref b1)])) t
    refine XS.bipush X46.here hx rfl (hb hby at_154) ?_
    show Steps p.tables e below (T46.setTop (mkF m 156 #[.val (.int p1), .val (.int p2), .val (.int p3), .val (.int p4), .unset, .unset, .unset, .unset, .unset, .unset, .unset] [(.int (23 : Int32)), (.ref b1), (.ref b1)])) t
    refine X46.ldcInt hx hown (mvT hZ (hw _ (List.mem_of_getElem? (i := 3) rfl))) (g := (mkF m 156 #[.val (.int p1), .val (.int p2), .val (.int p3), .val (.int p4), .unset, .unset, .unset, .unset, .unset, .unset, .unset] [(.int (23 : Int32)), (.ref b1), (.ref b1)])) rfl (hb hby at_156) _ ?_
    exact k
  obtain ⟨cl_o49, Ar_o49, q_o49, S_o49, Nn_o49, H_o49, G_o49⟩ := id V46
  have hin48 : ¬ ((23 : Int32) < 0 ∨ cl_o49.slots.size ≤ ((23 : Int32)).toNatClampNeg) := inb_of S_o49 ⟨by decide, by decide⟩
  obtain ⟨T48, h48, X48, e48, W48, st48⟩ := stI X46 hx hZ e46 Ar_o49 (j := (23 : Int32)) hin48 (g := (mkF m 158 #[.val (.int p1), .val (.int p2), .val (.int p3), .val (.int p4), .unset, .unset, .unset, .unset, .unset, .unset, .unset] [(.int (64975 : Int32)), (.int (23 : Int32)), (.ref b1), (.ref b1)])) rfl rfl (hb hby at_158)
  have V48 : Arv Z h48 b1 k1 .int (28 : Int32) [(.int (65 : Int32)), (.int (90 : Int32)), (.int (97 : Int32)), (.int (122 : Int32)), (.int (192 : Int32)), (.int (214 : Int32)), (.int (216 : Int32)), (.int (246 : Int32)), (.int (248 : Int32)), (.int (767 : Int32)), (.int (880 : Int32)), (.int (893 : Int32)), (.int (895 : Int32)), (.int (8191 : Int32)), (.int (8204 : Int32)), (.int (8205 : Int32)), (.int (8304 : Int32)), (.int (8591 : Int32)), (.int (11264 : Int32)), (.int (12271 : Int32)), (.int (12289 : Int32)), (.int (55295 : Int32)), (.int (63744 : Int32)), (.int (64975 : Int32)), (.int (0 : Int32)), (.int (0 : Int32)), (.int (0 : Int32)), (.int (0 : Int32))] (.int (0 : Int32)) := Arv.set Ar_o49 q_o49 S_o49 Nn_o49 H_o49 G_o49 rfl W48 23 rfl (Nat.le_of_ble_eq_true rfl)
  have N48 := Fr.snoc X48 N46 g_b1
  refine Done.of (g' := (mkF m 159 #[.val (.int p1), .val (.int p2), .val (.int p3), .val (.int p4), .unset, .unset, .unset, .unset, .unset, .unset, .unset] [(.ref b1)])) st48 ?_
  refine Done.of (T' := T48) (g' := (mkF m 164 #[.val (.int p1), .val (.int p2), .val (.int p3), .val (.int p4), .unset, .unset, .unset, .unset, .unset, .unset, .unset] [(.int (65008 : Int32)), (.int (24 : Int32)), (.ref b1), (.ref b1)])) (fun t k => ?_) ?_
  · show Steps p.tables e below (T48.setTop (mkF m 159 #[.val (.int p1), .val (.int p2), .val (.int p3), .val (.int p4), .unset, .unset, .unset, .unset, .unset, .unset, .unset] [(.ref b1)])) t
    refine XS.dup X48.here hx rfl (hb hby at_159) rfl rfl ?_
    show Steps p.tables e below (T48.setTop (mkF m 160 #[.val (.int p1), .val (.int p2), .val (.int p3), .val (.int p4), .unset, .unset, .unset, .unset, .unset, .unset, .unset] [(.ref b1), (.ref b1)])) t
    refine XS.bipush X48.here hx rfl (hb hby at_160) ?_
    show Steps p.tables e below (T48.setTop (mkF m 162 #[.val (.int p1), .val (.int p2), .val (.int p3), .val (.int p4), .unset, .unset, .unset, .unset, .unset, .unset, .unset] [(.int (24 : Int32)), (.ref b1), (.ref b1)])) t
    refine X48.ldcInt hx hown (mvT hZ (hw _ (List.mem_of_getElem? (i := 4) rfl))) (g := (mkF m 162 #[.val (.int p1), .val (.int p2), .val (.int p3), .val (.int p4), .unset, .unset, .unset, .unset, .unset, .unset, .unset] [(.int (24 : Int32)), (.ref b1), (.ref b1)])) rfl (hb hby at_162) _ ?_
    exact k
  obtain ⟨cl_o51, Ar_o51, q_o51, S_o51, Nn_o51, H_o51, G_o51⟩ := id V48
  have hin50 : ¬ ((24 : Int32) < 0 ∨ cl_o51.slots.size ≤ ((24 : Int32)).toNatClampNeg) := inb_of S_o51 ⟨by decide, by decide⟩
  obtain ⟨T50, h50, X50, e50, W50, st50⟩ := stI X48 hx hZ e48 Ar_o51 (j := (24 : Int32)) hin50 (g := (mkF m 164 #[.val (.int p1), .val (.int p2), .val (.int p3), .val (.int p4), .unset, .unset, .unset, .unset, .unset, .unset, .unset] [(.int (65008 : Int32)), (.int (24 : Int32)), (.ref b1), (.ref b1)])) rfl rfl (hb hby at_164)
  have V50 : Arv Z h50 b1 k1 .int (28 : Int32) [(.int (65 : Int32)), (.int (90 : Int32)), (.int (97 : Int32)), (.int (122 : Int32)), (.int (192 : Int32)), (.int (214 : Int32)), (.int (216 : Int32)), (.int (246 : Int32)), (.int (248 : Int32)), (.int (767 : Int32)), (.int (880 : Int32)), (.int (893 : Int32)), (.int (895 : Int32)), (.int (8191 : Int32)), (.int (8204 : Int32)), (.int (8205 : Int32)), (.int (8304 : Int32)), (.int (8591 : Int32)), (.int (11264 : Int32)), (.int (12271 : Int32)), (.int (12289 : Int32)), (.int (55295 : Int32)), (.int (63744 : Int32)), (.int (64975 : Int32)), (.int (65008 : Int32)), (.int (0 : Int32)), (.int (0 : Int32)), (.int (0 : Int32))] (.int (0 : Int32)) := Arv.set Ar_o51 q_o51 S_o51 Nn_o51 H_o51 G_o51 rfl W50 24 rfl (Nat.le_of_ble_eq_true rfl)
  have N50 := Fr.snoc X50 N48 g_b1
  refine Done.of (g' := (mkF m 165 #[.val (.int p1), .val (.int p2), .val (.int p3), .val (.int p4), .unset, .unset, .unset, .unset, .unset, .unset, .unset] [(.ref b1)])) st50 ?_
  refine Done.of (T' := T50) (g' := (mkF m 170 #[.val (.int p1), .val (.int p2), .val (.int p3), .val (.int p4), .unset, .unset, .unset, .unset, .unset, .unset, .unset] [(.int (65533 : Int32)), (.int (25 : Int32)), (.ref b1), (.ref b1)])) (fun t k => ?_) ?_
  · show Steps p.tables e below (T50.setTop (mkF m 165 #[.val (.int p1), .val (.int p2), .val (.int p3), .val (.int p4), .unset, .unset, .unset, .unset, .unset, .unset, .unset] [(.ref b1)])) t
    refine XS.dup X50.here hx rfl (hb hby at_165) rfl rfl ?_
    show Steps p.tables e below (T50.setTop (mkF m 166 #[.val (.int p1), .val (.int p2), .val (.int p3), .val (.int p4), .unset, .unset, .unset, .unset, .unset, .unset, .unset] [(.ref b1), (.ref b1)])) t
    refine XS.bipush X50.here hx rfl (hb hby at_166) ?_
    show Steps p.tables e below (T50.setTop (mkF m 168 #[.val (.int p1), .val (.int p2), .val (.int p3), .val (.int p4), .unset, .unset, .unset, .unset, .unset, .unset, .unset] [(.int (25 : Int32)), (.ref b1), (.ref b1)])) t
    refine X50.ldcInt hx hown (mvT hZ (hw _ (List.mem_of_getElem? (i := 5) rfl))) (g := (mkF m 168 #[.val (.int p1), .val (.int p2), .val (.int p3), .val (.int p4), .unset, .unset, .unset, .unset, .unset, .unset, .unset] [(.int (25 : Int32)), (.ref b1), (.ref b1)])) rfl (hb hby at_168) _ ?_
    exact k
  obtain ⟨cl_o53, Ar_o53, q_o53, S_o53, Nn_o53, H_o53, G_o53⟩ := id V50
  have hin52 : ¬ ((25 : Int32) < 0 ∨ cl_o53.slots.size ≤ ((25 : Int32)).toNatClampNeg) := inb_of S_o53 ⟨by decide, by decide⟩
  obtain ⟨T52, h52, X52, e52, W52, st52⟩ := stI X50 hx hZ e50 Ar_o53 (j := (25 : Int32)) hin52 (g := (mkF m 170 #[.val (.int p1), .val (.int p2), .val (.int p3), .val (.int p4), .unset, .unset, .unset, .unset, .unset, .unset, .unset] [(.int (65533 : Int32)), (.int (25 : Int32)), (.ref b1), (.ref b1)])) rfl rfl (hb hby at_170)
  have V52 : Arv Z h52 b1 k1 .int (28 : Int32) [(.int (65 : Int32)), (.int (90 : Int32)), (.int (97 : Int32)), (.int (122 : Int32)), (.int (192 : Int32)), (.int (214 : Int32)), (.int (216 : Int32)), (.int (246 : Int32)), (.int (248 : Int32)), (.int (767 : Int32)), (.int (880 : Int32)), (.int (893 : Int32)), (.int (895 : Int32)), (.int (8191 : Int32)), (.int (8204 : Int32)), (.int (8205 : Int32)), (.int (8304 : Int32)), (.int (8591 : Int32)), (.int (11264 : Int32)), (.int (12271 : Int32)), (.int (12289 : Int32)), (.int (55295 : Int32)), (.int (63744 : Int32)), (.int (64975 : Int32)), (.int (65008 : Int32)), (.int (65533 : Int32)), (.int (0 : Int32)), (.int (0 : Int32))] (.int (0 : Int32)) := Arv.set Ar_o53 q_o53 S_o53 Nn_o53 H_o53 G_o53 rfl W52 25 rfl (Nat.le_of_ble_eq_true rfl)
  have N52 := Fr.snoc X52 N50 g_b1
  refine Done.of (g' := (mkF m 171 #[.val (.int p1), .val (.int p2), .val (.int p3), .val (.int p4), .unset, .unset, .unset, .unset, .unset, .unset, .unset] [(.ref b1)])) st52 ?_
  refine Done.of (T' := T52) (g' := (mkF m 176 #[.val (.int p1), .val (.int p2), .val (.int p3), .val (.int p4), .unset, .unset, .unset, .unset, .unset, .unset, .unset] [(.int (65536 : Int32)), (.int (26 : Int32)), (.ref b1), (.ref b1)])) (fun t k => ?_) ?_
  · show Steps p.tables e below (T52.setTop (mkF m 171 #[.val (.int p1), .val (.int p2), .val (.int p3), .val (.int p4), .unset, .unset, .unset, .unset, .unset, .unset, .unset] [(.ref b1)])) t
    refine XS.dup X52.here hx rfl (hb hby at_171) rfl rfl ?_
    show Steps p.tables e below (T52.setTop (mkF m 172 #[.val (.int p1), .val (.int p2), .val (.int p3), .val (.int p4), .unset, .unset, .unset, .unset, .unset, .unset, .unset] [(.ref b1), (.ref b1)])) t
    refine XS.bipush X52.here hx rfl (hb hby at_172) ?_
    show Steps p.tables e below (T52.setTop (mkF m 174 #[.val (.int p1), .val (.int p2), .val (.int p3), .val (.int p4), .unset, .unset, .unset, .unset, .unset, .unset, .unset] [(.int (26 : Int32)), (.ref b1), (.ref b1)])) t
    refine X52.ldcInt hx hown (mvT hZ (hw _ (List.mem_of_getElem? (i := 6) rfl))) (g := (mkF m 174 #[.val (.int p1), .val (.int p2), .val (.int p3), .val (.int p4), .unset, .unset, .unset, .unset, .unset, .unset, .unset] [(.int (26 : Int32)), (.ref b1), (.ref b1)])) rfl (hb hby at_174) _ ?_
    exact k
  obtain ⟨cl_o55, Ar_o55, q_o55, S_o55, Nn_o55, H_o55, G_o55⟩ := id V52
  have hin54 : ¬ ((26 : Int32) < 0 ∨ cl_o55.slots.size ≤ ((26 : Int32)).toNatClampNeg) := inb_of S_o55 ⟨by decide, by decide⟩
  obtain ⟨T54, h54, X54, e54, W54, st54⟩ := stI X52 hx hZ e52 Ar_o55 (j := (26 : Int32)) hin54 (g := (mkF m 176 #[.val (.int p1), .val (.int p2), .val (.int p3), .val (.int p4), .unset, .unset, .unset, .unset, .unset, .unset, .unset] [(.int (65536 : Int32)), (.int (26 : Int32)), (.ref b1), (.ref b1)])) rfl rfl (hb hby at_176)
  have V54 : Arv Z h54 b1 k1 .int (28 : Int32) [(.int (65 : Int32)), (.int (90 : Int32)), (.int (97 : Int32)), (.int (122 : Int32)), (.int (192 : Int32)), (.int (214 : Int32)), (.int (216 : Int32)), (.int (246 : Int32)), (.int (248 : Int32)), (.int (767 : Int32)), (.int (880 : Int32)), (.int (893 : Int32)), (.int (895 : Int32)), (.int (8191 : Int32)), (.int (8204 : Int32)), (.int (8205 : Int32)), (.int (8304 : Int32)), (.int (8591 : Int32)), (.int (11264 : Int32)), (.int (12271 : Int32)), (.int (12289 : Int32)), (.int (55295 : Int32)), (.int (63744 : Int32)), (.int (64975 : Int32)), (.int (65008 : Int32)), (.int (65533 : Int32)), (.int (65536 : Int32)), (.int (0 : Int32))] (.int (0 : Int32)) := Arv.set Ar_o55 q_o55 S_o55 Nn_o55 H_o55 G_o55 rfl W54 26 rfl (Nat.le_of_ble_eq_true rfl)
  have N54 := Fr.snoc X54 N52 g_b1
  refine Done.of (g' := (mkF m 177 #[.val (.int p1), .val (.int p2), .val (.int p3), .val (.int p4), .unset, .unset, .unset, .unset, .unset, .unset, .unset] [(.ref b1)])) st54 ?_
  refine Done.of (T' := T54) (g' := (mkF m 182 #[.val (.int p1), .val (.int p2), .val (.int p3), .val (.int p4), .unset, .unset, .unset, .unset, .unset, .unset, .unset] [(.int (983039 : Int32)), (.int (27 : Int32)), (.ref b1), (.ref b1)])) (fun t k => ?_) ?_
  · show Steps p.tables e below (T54.setTop (mkF m 177 #[.val (.int p1), .val (.int p2), .val (.int p3), .val (.int p4), .unset, .unset, .unset, .unset, .unset, .unset, .unset] [(.ref b1)])) t
    refine XS.dup X54.here hx rfl (hb hby at_177) rfl rfl ?_
    show Steps p.tables e below (T54.setTop (mkF m 178 #[.val (.int p1), .val (.int p2), .val (.int p3), .val (.int p4), .unset, .unset, .unset, .unset, .unset, .unset, .unset] [(.ref b1), (.ref b1)])) t
    refine XS.bipush X54.here hx rfl (hb hby at_178) ?_
    show Steps p.tables e below (T54.setTop (mkF m 180 #[.val (.int p1), .val (.int p2), .val (.int p3), .val (.int p4), .unset, .unset, .unset, .unset, .unset, .unset, .unset] [(.int (27 : Int32)), (.ref b1), (.ref b1)])) t
    refine X54.ldcInt hx hown (mvT hZ (hw _ (List.mem_of_getElem? (i := 7) rfl))) (g := (mkF m 180 #[.val (.int p1), .val (.int p2), .val (.int p3), .val (.int p4), .unset, .unset, .unset, .unset, .unset, .unset, .unset] [(.int (27 : Int32)), (.ref b1), (.ref b1)])) rfl (hb hby at_180) _ ?_
    exact k
  obtain ⟨cl_o57, Ar_o57, q_o57, S_o57, Nn_o57, H_o57, G_o57⟩ := id V54
  have hin56 : ¬ ((27 : Int32) < 0 ∨ cl_o57.slots.size ≤ ((27 : Int32)).toNatClampNeg) := inb_of S_o57 ⟨by decide, by decide⟩
  obtain ⟨T56, h56, X56, e56, W56, st56⟩ := stI X54 hx hZ e54 Ar_o57 (j := (27 : Int32)) hin56 (g := (mkF m 182 #[.val (.int p1), .val (.int p2), .val (.int p3), .val (.int p4), .unset, .unset, .unset, .unset, .unset, .unset, .unset] [(.int (983039 : Int32)), (.int (27 : Int32)), (.ref b1), (.ref b1)])) rfl rfl (hb hby at_182)
  have V56 : Arv Z h56 b1 k1 .int (28 : Int32) [(.int (65 : Int32)), (.int (90 : Int32)), (.int (97 : Int32)), (.int (122 : Int32)), (.int (192 : Int32)), (.int (214 : Int32)), (.int (216 : Int32)), (.int (246 : Int32)), (.int (248 : Int32)), (.int (767 : Int32)), (.int (880 : Int32)), (.int (893 : Int32)), (.int (895 : Int32)), (.int (8191 : Int32)), (.int (8204 : Int32)), (.int (8205 : Int32)), (.int (8304 : Int32)), (.int (8591 : Int32)), (.int (11264 : Int32)), (.int (12271 : Int32)), (.int (12289 : Int32)), (.int (55295 : Int32)), (.int (63744 : Int32)), (.int (64975 : Int32)), (.int (65008 : Int32)), (.int (65533 : Int32)), (.int (65536 : Int32)), (.int (983039 : Int32))] (.int (0 : Int32)) := Arv.set Ar_o57 q_o57 S_o57 Nn_o57 H_o57 G_o57 rfl W56 27 rfl (Nat.le_of_ble_eq_true rfl)
  have N56 := Fr.snoc X56 N54 g_b1
  refine Done.of (g' := (mkF m 183 #[.val (.int p1), .val (.int p2), .val (.int p3), .val (.int p4), .unset, .unset, .unset, .unset, .unset, .unset, .unset] [(.ref b1)])) st56 ?_
  refine Done.of (T' := T56) (g' := (mkF m 197 #[.val (.int p1), .val (.int p2), .val (.int p3), .val (.int p4), .val (.ref b1), .val (.int p1), .unset, .unset, .unset, .unset, .unset] [(.int ((p2 &&& (2147483647 : Int32)) % (28 : Int32))), (.ref b1)])) (fun t k => ?_) ?_
  · show Steps p.tables e below (T56.setTop (mkF m 183 #[.val (.int p1), .val (.int p2), .val (.int p3), .val (.int p4), .unset, .unset, .unset, .unset, .unset, .unset, .unset] [(.ref b1)])) t
    refine XS.astore X56.here hx rfl (hb hby at_183) rfl rfl (l' := #[.val (.int p1), .val (.int p2), .val (.int p3), .val (.int p4), .val (.ref b1), .unset, .unset, .unset, .unset, .unset, .unset]) rfl ?_
    show Steps p.tables e below (T56.setTop (mkF m 185 #[.val (.int p1), .val (.int p2), .val (.int p3), .val (.int p4), .val (.ref b1), .unset, .unset, .unset, .unset, .unset, .unset] [])) t
    refine XS.iloadN X56.here hx rfl (hb hby at_185) rfl ?_
    show Steps p.tables e below (T56.setTop (mkF m 186 #[.val (.int p1), .val (.int p2), .val (.int p3), .val (.int p4), .val (.ref b1), .unset, .unset, .unset, .unset, .unset, .unset] [(.int p1)])) t
    refine XS.istore X56.here hx rfl (hb hby at_186) rfl (l' := #[.val (.int p1), .val (.int p2), .val (.int p3), .val (.int p4), .val (.ref b1), .val (.int p1), .unset, .unset, .unset, .unset, .unset]) rfl ?_
    show Steps p.tables e below (T56.setTop (mkF m 188 #[.val (.int p1), .val (.int p2), .val (.int p3), .val (.int p4), .val (.ref b1), .val (.int p1), .unset, .unset, .unset, .unset, .unset] [])) t
    refine XS.aload X56.here hx rfl (hb hby at_188) rfl rfl ?_
    show Steps p.tables e below (T56.setTop (mkF m 190 #[.val (.int p1), .val (.int p2), .val (.int p3), .val (.int p4), .val (.ref b1), .val (.int p1), .unset, .unset, .unset, .unset, .unset] [(.ref b1)])) t
    refine XS.iloadN X56.here hx rfl (hb hby at_190) rfl ?_
    show Steps p.tables e below (T56.setTop (mkF m 191 #[.val (.int p1), .val (.int p2), .val (.int p3), .val (.int p4), .val (.ref b1), .val (.int p1), .unset, .unset, .unset, .unset, .unset] [(.int p2), (.ref b1)])) t
    refine X56.ldcInt hx hown (mvT hZ (hw _ (List.mem_of_getElem? (i := 8) rfl))) (g := (mkF m 191 #[.val (.int p1), .val (.int p2), .val (.int p3), .val (.int p4), .val (.ref b1), .val (.int p1), .unset, .unset, .unset, .unset, .unset] [(.int p2), (.ref b1)])) rfl (hb hby at_191) _ ?_
    show Steps p.tables e below (T56.setTop (mkF m 193 #[.val (.int p1), .val (.int p2), .val (.int p3), .val (.int p4), .val (.ref b1), .val (.int p1), .unset, .unset, .unset, .unset, .unset] [(.int (2147483647 : Int32)), (.int p2), (.ref b1)])) t
    refine XS.iand X56.here hx rfl (hb hby at_193) rfl ?_
    show Steps p.tables e below (T56.setTop (mkF m 194 #[.val (.int p1), .val (.int p2), .val (.int p3), .val (.int p4), .val (.ref b1), .val (.int p1), .unset, .unset, .unset, .unset, .unset] [(.int (p2 &&& (2147483647 : Int32))), (.ref b1)])) t
    refine XS.bipush X56.here hx rfl (hb hby at_194) ?_
    show Steps p.tables e below (T56.setTop (mkF m 196 #[.val (.int p1), .val (.int p2), .val (.int p3), .val (.int p4), .val (.ref b1), .val (.int p1), .unset, .unset, .unset, .unset, .unset] [(.int (28 : Int32)), (.int (p2 &&& (2147483647 : Int32))), (.ref b1)])) t
    refine iremM X56 hx rfl (hb hby at_196) rfl (by decide) ?_
    exact k
  obtain ⟨cl_o59, Ar_o59, q_o59, S_o59, Nn_o59, H_o59, G_o59⟩ := id V56
  have hin58 : ¬ (((p2 &&& (2147483647 : Int32)) % (28 : Int32)) < 0 ∨ cl_o59.slots.size ≤ (((p2 &&& (2147483647 : Int32)) % (28 : Int32))).toNatClampNeg) := inb_of S_o59 (own_in p2)
  have hat58 : cl_o59.slots[(((p2 &&& (2147483647 : Int32)) % (28 : Int32))).toNatClampNeg]? = some (.int (own_tab.getD (((p2 &&& (2147483647 : Int32)) % (28 : Int32))).toNatClampNeg 0)) := own_hat (vs := own_tab) H_o59 hin58
  refine Done.of (g' := (mkF m 198 #[.val (.int p1), .val (.int p2), .val (.int p3), .val (.int p4), .val (.ref b1), .val (.int p1), .unset, .unset, .unset, .unset, .unset] [(.int (own_tab.getD (((p2 &&& (2147483647 : Int32)) % (28 : Int32))).toNatClampNeg 0))])) (X56.iaload hx (j := ((p2 &&& (2147483647 : Int32)) % (28 : Int32))) (v := (.int (own_tab.getD (((p2 &&& (2147483647 : Int32)) % (28 : Int32))).toNatClampNeg 0))) (by rw [e56]; exact Ar_o59.1) (State.isArrayOf_alike hZ.alike Ar_o59.2.1) Ar_o59.2.2 hin58 hat58 (g := (mkF m 197 #[.val (.int p1), .val (.int p2), .val (.int p3), .val (.int p4), .val (.ref b1), .val (.int p1), .unset, .unset, .unset, .unset, .unset] [(.int ((p2 &&& (2147483647 : Int32)) % (28 : Int32))), (.ref b1)])) rfl rfl (hb hby at_197)) ?_
  refine Done.of (T' := T56) (g' := (mkF m 215 #[.val (.int p1), .val (.int p2), .val (.int p3), .val (.int p4), .val (.ref b1), .val (.int p1), .val (.int (((own_tab.getD (((p2 &&& (2147483647 : Int32)) % (28 : Int32))).toNatClampNeg 0) + ((p3 &&& (2147483647 : Int32)) % (3 : Int32))) - (1 : Int32))), .val (.int (p4 &&& (1048575 : Int32))), .unset, .unset, .unset] [])) (fun t k => ?_) ?_
  · show Steps p.tables e below (T56.setTop (mkF m 198 #[.val (.int p1), .val (.int p2), .val (.int p3), .val (.int p4), .val (.ref b1), .val (.int p1), .unset, .unset, .unset, .unset, .unset] [(.int (own_tab.getD (((p2 &&& (2147483647 : Int32)) % (28 : Int32))).toNatClampNeg 0))])) t
    refine XS.iloadN X56.here hx rfl (hb hby at_198) rfl ?_
    show Steps p.tables e below (T56.setTop (mkF m 199 #[.val (.int p1), .val (.int p2), .val (.int p3), .val (.int p4), .val (.ref b1), .val (.int p1), .unset, .unset, .unset, .unset, .unset] [(.int p3), (.int (own_tab.getD (((p2 &&& (2147483647 : Int32)) % (28 : Int32))).toNatClampNeg 0))])) t
    refine X56.ldcInt hx hown (mvT hZ (hw _ (List.mem_of_getElem? (i := 8) rfl))) (g := (mkF m 199 #[.val (.int p1), .val (.int p2), .val (.int p3), .val (.int p4), .val (.ref b1), .val (.int p1), .unset, .unset, .unset, .unset, .unset] [(.int p3), (.int (own_tab.getD (((p2 &&& (2147483647 : Int32)) % (28 : Int32))).toNatClampNeg 0))])) rfl (hb hby at_199) _ ?_
    show Steps p.tables e below (T56.setTop (mkF m 201 #[.val (.int p1), .val (.int p2), .val (.int p3), .val (.int p4), .val (.ref b1), .val (.int p1), .unset, .unset, .unset, .unset, .unset] [(.int (2147483647 : Int32)), (.int p3), (.int (own_tab.getD (((p2 &&& (2147483647 : Int32)) % (28 : Int32))).toNatClampNeg 0))])) t
    refine XS.iand X56.here hx rfl (hb hby at_201) rfl ?_
    show Steps p.tables e below (T56.setTop (mkF m 202 #[.val (.int p1), .val (.int p2), .val (.int p3), .val (.int p4), .val (.ref b1), .val (.int p1), .unset, .unset, .unset, .unset, .unset] [(.int (p3 &&& (2147483647 : Int32))), (.int (own_tab.getD (((p2 &&& (2147483647 : Int32)) % (28 : Int32))).toNatClampNeg 0))])) t
    refine XS.iconst X56.here hx rfl (hb hby at_202) ?_
    show Steps p.tables e below (T56.setTop (mkF m 203 #[.val (.int p1), .val (.int p2), .val (.int p3), .val (.int p4), .val (.ref b1), .val (.int p1), .unset, .unset, .unset, .unset, .unset] [(.int (3 : Int32)), (.int (p3 &&& (2147483647 : Int32))), (.int (own_tab.getD (((p2 &&& (2147483647 : Int32)) % (28 : Int32))).toNatClampNeg 0))])) t
    refine iremM X56 hx rfl (hb hby at_203) rfl (by decide) ?_
    show Steps p.tables e below (T56.setTop (mkF m 204 #[.val (.int p1), .val (.int p2), .val (.int p3), .val (.int p4), .val (.ref b1), .val (.int p1), .unset, .unset, .unset, .unset, .unset] [(.int ((p3 &&& (2147483647 : Int32)) % (3 : Int32))), (.int (own_tab.getD (((p2 &&& (2147483647 : Int32)) % (28 : Int32))).toNatClampNeg 0))])) t
    refine XS.iadd X56.here hx rfl (hb hby at_204) rfl ?_
    show Steps p.tables e below (T56.setTop (mkF m 205 #[.val (.int p1), .val (.int p2), .val (.int p3), .val (.int p4), .val (.ref b1), .val (.int p1), .unset, .unset, .unset, .unset, .unset] [(.int ((own_tab.getD (((p2 &&& (2147483647 : Int32)) % (28 : Int32))).toNatClampNeg 0) + ((p3 &&& (2147483647 : Int32)) % (3 : Int32))))])) t
    refine XS.iconst X56.here hx rfl (hb hby at_205) ?_
    show Steps p.tables e below (T56.setTop (mkF m 206 #[.val (.int p1), .val (.int p2), .val (.int p3), .val (.int p4), .val (.ref b1), .val (.int p1), .unset, .unset, .unset, .unset, .unset] [(.int (1 : Int32)), (.int ((own_tab.getD (((p2 &&& (2147483647 : Int32)) % (28 : Int32))).toNatClampNeg 0) + ((p3 &&& (2147483647 : Int32)) % (3 : Int32))))])) t
    refine XS.isub X56.here hx rfl (hb hby at_206) rfl ?_
    show Steps p.tables e below (T56.setTop (mkF m 207 #[.val (.int p1), .val (.int p2), .val (.int p3), .val (.int p4), .val (.ref b1), .val (.int p1), .unset, .unset, .unset, .unset, .unset] [(.int (((own_tab.getD (((p2 &&& (2147483647 : Int32)) % (28 : Int32))).toNatClampNeg 0) + ((p3 &&& (2147483647 : Int32)) % (3 : Int32))) - (1 : Int32)))])) t
    refine XS.istore X56.here hx rfl (hb hby at_207) rfl (l' := #[.val (.int p1), .val (.int p2), .val (.int p3), .val (.int p4), .val (.ref b1), .val (.int p1), .val (.int (((own_tab.getD (((p2 &&& (2147483647 : Int32)) % (28 : Int32))).toNatClampNeg 0) + ((p3 &&& (2147483647 : Int32)) % (3 : Int32))) - (1 : Int32))), .unset, .unset, .unset, .unset]) rfl ?_
    show Steps p.tables e below (T56.setTop (mkF m 209 #[.val (.int p1), .val (.int p2), .val (.int p3), .val (.int p4), .val (.ref b1), .val (.int p1), .val (.int (((own_tab.getD (((p2 &&& (2147483647 : Int32)) % (28 : Int32))).toNatClampNeg 0) + ((p3 &&& (2147483647 : Int32)) % (3 : Int32))) - (1 : Int32))), .unset, .unset, .unset, .unset] [])) t
    refine XS.iloadN X56.here hx rfl (hb hby at_209) rfl ?_
    show Steps p.tables e below (T56.setTop (mkF m 210 #[.val (.int p1), .val (.int p2), .val (.int p3), .val (.int p4), .val (.ref b1), .val (.int p1), .val (.int (((own_tab.getD (((p2 &&& (2147483647 : Int32)) % (28 : Int32))).toNatClampNeg 0) + ((p3 &&& (2147483647 : Int32)) % (3 : Int32))) - (1 : Int32))), .unset, .unset, .unset, .unset] [(.int p4)])) t
    refine X56.ldcInt hx hown (mvT hZ (hw _ (List.mem_of_getElem? (i := 9) rfl))) (g := (mkF m 210 #[.val (.int p1), .val (.int p2), .val (.int p3), .val (.int p4), .val (.ref b1), .val (.int p1), .val (.int (((own_tab.getD (((p2 &&& (2147483647 : Int32)) % (28 : Int32))).toNatClampNeg 0) + ((p3 &&& (2147483647 : Int32)) % (3 : Int32))) - (1 : Int32))), .unset, .unset, .unset, .unset] [(.int p4)])) rfl (hb hby at_210) _ ?_
    show Steps p.tables e below (T56.setTop (mkF m 212 #[.val (.int p1), .val (.int p2), .val (.int p3), .val (.int p4), .val (.ref b1), .val (.int p1), .val (.int (((own_tab.getD (((p2 &&& (2147483647 : Int32)) % (28 : Int32))).toNatClampNeg 0) + ((p3 &&& (2147483647 : Int32)) % (3 : Int32))) - (1 : Int32))), .unset, .unset, .unset, .unset] [(.int (1048575 : Int32)), (.int p4)])) t
    refine XS.iand X56.here hx rfl (hb hby at_212) rfl ?_
    show Steps p.tables e below (T56.setTop (mkF m 213 #[.val (.int p1), .val (.int p2), .val (.int p3), .val (.int p4), .val (.ref b1), .val (.int p1), .val (.int (((own_tab.getD (((p2 &&& (2147483647 : Int32)) % (28 : Int32))).toNatClampNeg 0) + ((p3 &&& (2147483647 : Int32)) % (3 : Int32))) - (1 : Int32))), .unset, .unset, .unset, .unset] [(.int (p4 &&& (1048575 : Int32)))])) t
    refine XS.istore X56.here hx rfl (hb hby at_213) rfl (l' := #[.val (.int p1), .val (.int p2), .val (.int p3), .val (.int p4), .val (.ref b1), .val (.int p1), .val (.int (((own_tab.getD (((p2 &&& (2147483647 : Int32)) % (28 : Int32))).toNatClampNeg 0) + ((p3 &&& (2147483647 : Int32)) % (3 : Int32))) - (1 : Int32))), .val (.int (p4 &&& (1048575 : Int32))), .unset, .unset, .unset]) rfl ?_
    exact k
  exact bk0_215 hx hZ hw hby hml hown hnm hret hlk X56 N56 e56 p1 p2 p3 p4 b1 p1 (((own_tab.getD (((p2 &&& (2147483647 : Int32)) % (28 : Int32))).toNatClampNeg 0) + ((p3 &&& (2147483647 : Int32)) % (3 : Int32))) - (1 : Int32)) (p4 &&& (1048575 : Int32)) (Nat.le_trans (Nat.le_trans (Nat.le_trans (Nat.le_trans (Nat.le_trans (Nat.le_trans (Nat.le_trans (Nat.le_trans (Nat.le_trans (Nat.le_trans (Nat.le_trans (Nat.le_trans (Nat.le_trans (Nat.le_trans (Nat.le_trans (Nat.le_trans (Nat.le_trans (Nat.le_trans (Nat.le_trans (Nat.le_trans (Nat.le_trans (Nat.le_trans (Nat.le_trans (Nat.le_trans (Nat.le_trans (Nat.le_trans (Nat.le_trans (Nat.le_trans (Nat.le_trans Z0 E1.1) (Keep.of_wr W2).1) (Keep.of_wr W4).1) (Keep.of_wr W6).1) (Keep.of_wr W8).1) (Keep.of_wr W10).1) (Keep.of_wr W12).1) (Keep.of_wr W14).1) (Keep.of_wr W16).1) (Keep.of_wr W18).1) (Keep.of_wr W20).1) (Keep.of_wr W22).1) (Keep.of_wr W24).1) (Keep.of_wr W26).1) (Keep.of_wr W28).1) (Keep.of_wr W30).1) (Keep.of_wr W32).1) (Keep.of_wr W34).1) (Keep.of_wr W36).1) (Keep.of_wr W38).1) (Keep.of_wr W40).1) (Keep.of_wr W42).1) (Keep.of_wr W44).1) (Keep.of_wr W46).1) (Keep.of_wr W48).1) (Keep.of_wr W50).1) (Keep.of_wr W52).1) (Keep.of_wr W54).1) (Keep.of_wr W56).1) g_b1
theorem own_rv (c A B f v : Int32) {a b : Int} (hA : A.toInt = a) (hB : B.toInt = b) : (if c < A then f else (if B < c then f else v)) = if (a ≤ c.toInt ∧ c.toInt ≤ b) then v else f := by
  simp only [Int32.lt_iff_toInt_lt]
  repeat' split
  all_goals first | rfl | (exfalso; omega)
theorem own_ei (c A f v : Int32) {a : Int} (hA : A.toInt = a) : (if c = A then f else v) = if c.toInt = a then f else v := by
  rw [← hA]; by_cases h : c = A
  · rw [if_pos h, if_pos (by rw [h])]
  · rw [if_neg h, if_neg (fun q => h (Int32.toInt_inj.mp q))]
theorem own_li (c A f v : Int32) {a : Int} (hA : A.toInt = a) : (if c < A then f else v) = if c.toInt < a then f else v := by
  simp only [Int32.lt_iff_toInt_lt, hA]
theorem own_gi (c A f v : Int32) {a : Int} (hA : A.toInt = a) : (if A < c then f else v) = if a < c.toInt then f else v := by
  simp only [Int32.lt_iff_toInt_lt, hA]
theorem own_gm (c A f v : Int32) {a : Int} (hA : A.toInt = a) : (if A < (c &&& (65535 : Int32)) then f else v) = if a < c.toInt % 65536 then f else v := by
  have m := c_mask c 65535 16 (by decide) (by decide)
  have e : ((2 ^ 16 : Nat) : Int) = 65536 := rfl
  simp only [Int32.lt_iff_toInt_lt, hA, m, e]
theorem own_R1_173 (i0 : Int32) : F1_173 i0 = (if (65536 ≤ i0.toInt ∧ i0.toInt ≤ 983039) then (1 : Int32) else (0 : Int32)) := by
  unfold F1_173; rw [own_rv i0 (65536 : Int32) (983039 : Int32) _ _ (a := 65536) (b := 983039) rfl rfl]
theorem own_R1_161 (i0 : Int32) : F1_161 i0 = (if (65008 ≤ i0.toInt ∧ i0.toInt ≤ 65533) then (1 : Int32) else (F1_173 i0)) := by
  unfold F1_161; rw [own_rv i0 (65008 : Int32) (65533 : Int32) _ _ (a := 65008) (b := 65533) rfl rfl]
theorem own_R1_149 (i0 : Int32) : F1_149 i0 = (if (63744 ≤ i0.toInt ∧ i0.toInt ≤ 64975) then (1 : Int32) else (F1_161 i0)) := by
  unfold F1_149; rw [own_rv i0 (63744 : Int32) (64975 : Int32) _ _ (a := 63744) (b := 64975) rfl rfl]
theorem own_R1_136 (i0 : Int32) : F1_136 i0 = (if (12289 ≤ i0.toInt ∧ i0.toInt ≤ 55295) then (1 : Int32) else (F1_149 i0)) := by
  unfold F1_136; rw [own_rv i0 (12289 : Int32) (55295 : Int32) _ _ (a := 12289) (b := 55295) rfl rfl]
theorem own_R1_122 (i0 : Int32) : F1_122 i0 = (if (11264 ≤ i0.toInt ∧ i0.toInt ≤ 12271) then (1 : Int32) else (F1_136 i0)) := by
  unfold F1_122; rw [own_rv i0 (11264 : Int32) (12271 : Int32) _ _ (a := 11264) (b := 12271) rfl rfl]
theorem own_R1_108 (i0 : Int32) : F1_108 i0 = (if (8304 ≤ i0.toInt ∧ i0.toInt ≤ 8591) then (1 : Int32) else (F1_122 i0)) := by
  unfold F1_108; rw [own_rv i0 (8304 : Int32) (8591 : Int32) _ _ (a := 8304) (b := 8591) rfl rfl]
theorem own_R1_94 (i0 : Int32) : F1_94 i0 = (if (8204 ≤ i0.toInt ∧ i0.toInt ≤ 8205) then (1 : Int32) else (F1_108 i0)) := by
  unfold F1_94; rw [own_rv i0 (8204 : Int32) (8205 : Int32) _ _ (a := 8204) (b := 8205) rfl rfl]
theorem own_R1_80 (i0 : Int32) : F1_80 i0 = (if (895 ≤ i0.toInt ∧ i0.toInt ≤ 8191) then (1 : Int32) else (F1_94 i0)) := by
  unfold F1_80; rw [own_rv i0 (895 : Int32) (8191 : Int32) _ _ (a := 895) (b := 8191) rfl rfl]
theorem own_R1_66 (i0 : Int32) : F1_66 i0 = (if (880 ≤ i0.toInt ∧ i0.toInt ≤ 893) then (1 : Int32) else (F1_80 i0)) := by
  unfold F1_66; rw [own_rv i0 (880 : Int32) (893 : Int32) _ _ (a := 880) (b := 893) rfl rfl]
theorem own_R1_52 (i0 : Int32) : F1_52 i0 = (if (248 ≤ i0.toInt ∧ i0.toInt ≤ 767) then (1 : Int32) else (F1_66 i0)) := by
  unfold F1_52; rw [own_rv i0 (248 : Int32) (767 : Int32) _ _ (a := 248) (b := 767) rfl rfl]
theorem own_R1_38 (i0 : Int32) : F1_38 i0 = (if (216 ≤ i0.toInt ∧ i0.toInt ≤ 246) then (1 : Int32) else (F1_52 i0)) := by
  unfold F1_38; rw [own_rv i0 (216 : Int32) (246 : Int32) _ _ (a := 216) (b := 246) rfl rfl]
theorem own_R1_24 (i0 : Int32) : F1_24 i0 = (if (192 ≤ i0.toInt ∧ i0.toInt ≤ 214) then (1 : Int32) else (F1_38 i0)) := by
  unfold F1_24; rw [own_rv i0 (192 : Int32) (214 : Int32) _ _ (a := 192) (b := 214) rfl rfl]
theorem own_R1_12 (i0 : Int32) : F1_12 i0 = (if (97 ≤ i0.toInt ∧ i0.toInt ≤ 122) then (1 : Int32) else (F1_24 i0)) := by
  unfold F1_12; rw [own_rv i0 (97 : Int32) (122 : Int32) _ _ (a := 97) (b := 122) rfl rfl]
theorem own_R1_0 (p1 : Int32) : F1_0 p1 = (if (65 ≤ p1.toInt ∧ p1.toInt ≤ 90) then (1 : Int32) else (F1_12 p1)) := by
  unfold F1_0; rw [own_rv p1 (65 : Int32) (90 : Int32) _ _ (a := 65) (b := 90) rfl rfl]
theorem own_R2_176 (i0 : Int32) : F2_176 i0 = (if (65534 ≤ i0.toInt ∧ i0.toInt ≤ 65535) then (0 : Int32) else (1 : Int32)) := by
  unfold F2_176; rw [own_rv i0 (65534 : Int32) (65535 : Int32) _ _ (a := 65534) (b := 65535) rfl rfl]
theorem own_R2_162 (i0 : Int32) : F2_162 i0 = (if (64976 ≤ i0.toInt ∧ i0.toInt ≤ 65007) then (0 : Int32) else (F2_176 i0)) := by
  unfold F2_162; rw [own_rv i0 (64976 : Int32) (65007 : Int32) _ _ (a := 64976) (b := 65007) rfl rfl]
theorem own_R2_148 (i0 : Int32) : F2_148 i0 = (if (55296 ≤ i0.toInt ∧ i0.toInt ≤ 63743) then (0 : Int32) else (F2_162 i0)) := by
  unfold F2_148; rw [own_rv i0 (55296 : Int32) (63743 : Int32) _ _ (a := 55296) (b := 63743) rfl rfl]
theorem own_R2_132 (i0 : Int32) : F2_132 i0 = (if (12272 ≤ i0.toInt ∧ i0.toInt ≤ 12288) then (0 : Int32) else (F2_148 i0)) := by
  unfold F2_132; rw [own_rv i0 (12272 : Int32) (12288 : Int32) _ _ (a := 12272) (b := 12288) rfl rfl]
theorem own_R2_116 (i0 : Int32) : F2_116 i0 = (if (8592 ≤ i0.toInt ∧ i0.toInt ≤ 11263) then (0 : Int32) else (F2_132 i0)) := by
  unfold F2_116; rw [own_rv i0 (8592 : Int32) (11263 : Int32) _ _ (a := 8592) (b := 11263) rfl rfl]
theorem own_R2_100 (i0 : Int32) : F2_100 i0 = (if (8206 ≤ i0.toInt ∧ i0.toInt ≤ 8303) then (0 : Int32) else (F2_116 i0)) := by
  unfold F2_100; rw [own_rv i0 (8206 : Int32) (8303 : Int32) _ _ (a := 8206) (b := 8303) rfl rfl]
theorem own_R2_75 (i0 : Int32) : F2_75 i0 = (if i0.toInt = 894 then (0 : Int32) else (if (8192 ≤ i0.toInt ∧ i0.toInt ≤ 8203) then (0 : Int32) else (F2_100 i0))) := by
  unfold F2_75; rw [own_ei i0 (894 : Int32) _ _ (a := 894) rfl, own_rv i0 (8192 : Int32) (8203 : Int32) _ _ (a := 8192) (b := 8203) rfl rfl]
theorem own_R2_43 (i0 : Int32) : F2_43 i0 = (if i0.toInt = 215 then (0 : Int32) else (if i0.toInt = 247 then (0 : Int32) else (if (768 ≤ i0.toInt ∧ i0.toInt ≤ 879) then (0 : Int32) else (F2_75 i0)))) := by
  unfold F2_43; rw [own_ei i0 (215 : Int32) _ _ (a := 215) rfl, own_ei i0 (247 : Int32) _ _ (a := 247) rfl, own_rv i0 (768 : Int32) (879 : Int32) _ _ (a := 768) (b := 879) rfl rfl]
theorem own_R2_28 (i0 : Int32) : F2_28 i0 = (if (123 ≤ i0.toInt ∧ i0.toInt ≤ 191) then (0 : Int32) else (F2_43 i0)) := by
  unfold F2_28; rw [own_rv i0 (123 : Int32) (191 : Int32) _ _ (a := 123) (b := 191) rfl rfl]
theorem own_R2_0 (p1 : Int32) : F2_0 p1 = (if (65 ≤ p1.toInt ∧ p1.toInt ≤ 983039) then (if (91 ≤ p1.toInt ∧ p1.toInt ≤ 96) then (0 : Int32) else (F2_28 p1)) else (0 : Int32)) := by
  unfold F2_0; rw [own_rv p1 (65 : Int32) (983039 : Int32) _ _ (a := 65) (b := 983039) rfl rfl, own_rv p1 (91 : Int32) (96 : Int32) _ _ (a := 91) (b := 96) rfl rfl]
theorem own_eq_0 (c : Int32) (h2 : c.toInt ≤ 64) : F1_0 c = F2_0 c := by
  rw [own_R1_0, if_neg (by omega), own_R1_12, if_neg (by omega), own_R1_24, if_neg (by omega), own_R1_38, if_neg (by omega), own_R1_52, if_neg (by omega), own_R1_66, if_neg (by omega), own_R1_80, if_neg (by omega), own_R1_94, if_neg (by omega), own_R1_108, if_neg (by omega), own_R1_122, if_neg (by omega), own_R1_136, if_neg (by omega), own_R1_149, if_neg (by omega), own_R1_161, if_neg (by omega), own_R1_173, if_neg (by omega)]
  rw [own_R2_0, if_neg (by omega)]
theorem own_eq_1 (c : Int32) (h1 : 65 ≤ c.toInt) (h2 : c.toInt ≤ 90) : F1_0 c = F2_0 c := by
  rw [own_R1_0, if_pos (by omega)]
  rw [own_R2_0, if_pos (by omega), if_neg (by omega), own_R2_28, if_neg (by omega), own_R2_43, if_neg (by omega), if_neg (by omega), if_neg (by omega), own_R2_75, if_neg (by omega), if_neg (by omega), own_R2_100, if_neg (by omega), own_R2_116, if_neg (by omega), own_R2_132, if_neg (by omega), own_R2_148, if_neg (by omega), own_R2_162, if_neg (by omega), own_R2_176, if_neg (by omega)]
theorem own_eq_2 (c : Int32) (h1 : 91 ≤ c.toInt) (h2 : c.toInt ≤ 96) : F1_0 c = F2_0 c := by
  rw [own_R1_0, if_neg (by omega), own_R1_12, if_neg (by omega), own_R1_24, if_neg (by omega), own_R1_38, if_neg (by omega), own_R1_52, if_neg (by omega), own_R1_66, if_neg (by omega), own_R1_80, if_neg (by omega), own_R1_94, if_neg (by omega), own_R1_108, if_neg (by omega), own_R1_122, if_neg (by omega), own_R1_136, if_neg (by omega), own_R1_149, if_neg (by omega), own_R1_161, if_neg (by omega), own_R1_173, if_neg (by omega)]
  rw [own_R2_0, if_pos (by omega), if_pos (by omega)]
theorem own_eq_3 (c : Int32) (h1 : 97 ≤ c.toInt) (h2 : c.toInt ≤ 122) : F1_0 c = F2_0 c := by
  rw [own_R1_0, if_neg (by omega), own_R1_12, if_pos (by omega)]
  rw [own_R2_0, if_pos (by omega), if_neg (by omega), own_R2_28, if_neg (by omega), own_R2_43, if_neg (by omega), if_neg (by omega), if_neg (by omega), own_R2_75, if_neg (by omega), if_neg (by omega), own_R2_100, if_neg (by omega), own_R2_116, if_neg (by omega), own_R2_132, if_neg (by omega), own_R2_148, if_neg (by omega), own_R2_162, if_neg (by omega), own_R2_176, if_neg (by omega)]
theorem own_eq_4 (c : Int32) (h1 : 123 ≤ c.toInt) (h2 : c.toInt ≤ 191) : F1_0 c = F2_0 c := by
  rw [own_R1_0, if_neg (by omega), own_R1_12, if_neg (by omega), own_R1_24, if_neg (by omega), own_R1_38, if_neg (by omega), own_R1_52, if_neg (by omega), own_R1_66, if_neg (by omega), own_R1_80, if_neg (by omega), own_R1_94, if_neg (by omega), own_R1_108, if_neg (by omega), own_R1_122, if_neg (by omega), own_R1_136, if_neg (by omega), own_R1_149, if_neg (by omega), own_R1_161, if_neg (by omega), own_R1_173, if_neg (by omega)]
  rw [own_R2_0, if_pos (by omega), if_neg (by omega), own_R2_28, if_pos (by omega)]
theorem own_eq_5 (c : Int32) (h1 : 192 ≤ c.toInt) (h2 : c.toInt ≤ 214) : F1_0 c = F2_0 c := by
  rw [own_R1_0, if_neg (by omega), own_R1_12, if_neg (by omega), own_R1_24, if_pos (by omega)]
  rw [own_R2_0, if_pos (by omega), if_neg (by omega), own_R2_28, if_neg (by omega), own_R2_43, if_neg (by omega), if_neg (by omega), if_neg (by omega), own_R2_75, if_neg (by omega), if_neg (by omega), own_R2_100, if_neg (by omega), own_R2_116, if_neg (by omega), own_R2_132, if_neg (by omega), own_R2_148, if_neg (by omega), own_R2_162, if_neg (by omega), own_R2_176, if_neg (by omega)]
theorem own_eq_6 (c : Int32) (h1 : 215 ≤ c.toInt) (h2 : c.toInt ≤ 215) : F1_0 c = F2_0 c := by
  rw [own_R1_0, if_neg (by omega), own_R1_12, if_neg (by omega), own_R1_24, if_neg (by omega), own_R1_38, if_neg (by omega), own_R1_52, if_neg (by omega), own_R1_66, if_neg (by omega), own_R1_80, if_neg (by omega), own_R1_94, if_neg (by omega), own_R1_108, if_neg (by omega), own_R1_122, if_neg (by omega), own_R1_136, if_neg (by omega), own_R1_149, if_neg (by omega), own_R1_161, if_neg (by omega), own_R1_173, if_neg (by omega)]
  rw [own_R2_0, if_pos (by omega), if_neg (by omega), own_R2_28, if_neg (by omega), own_R2_43, if_pos (by omega)]
theorem own_eq_7 (c : Int32) (h1 : 216 ≤ c.toInt) (h2 : c.toInt ≤ 246) : F1_0 c = F2_0 c := by
  rw [own_R1_0, if_neg (by omega), own_R1_12, if_neg (by omega), own_R1_24, if_neg (by omega), own_R1_38, if_pos (by omega)]
  rw [own_R2_0, if_pos (by omega), if_neg (by omega), own_R2_28, if_neg (by omega), own_R2_43, if_neg (by omega), if_neg (by omega), if_neg (by omega), own_R2_75, if_neg (by omega), if_neg (by omega), own_R2_100, if_neg (by omega), own_R2_116, if_neg (by omega), own_R2_132, if_neg (by omega), own_R2_148, if_neg (by omega), own_R2_162, if_neg (by omega), own_R2_176, if_neg (by omega)]
theorem own_eq_8 (c : Int32) (h1 : 247 ≤ c.toInt) (h2 : c.toInt ≤ 247) : F1_0 c = F2_0 c := by
  rw [own_R1_0, if_neg (by omega), own_R1_12, if_neg (by omega), own_R1_24, if_neg (by omega), own_R1_38, if_neg (by omega), own_R1_52, if_neg (by omega), own_R1_66, if_neg (by omega), own_R1_80, if_neg (by omega), own_R1_94, if_neg (by omega), own_R1_108, if_neg (by omega), own_R1_122, if_neg (by omega), own_R1_136, if_neg (by omega), own_R1_149, if_neg (by omega), own_R1_161, if_neg (by omega), own_R1_173, if_neg (by omega)]
  rw [own_R2_0, if_pos (by omega), if_neg (by omega), own_R2_28, if_neg (by omega), own_R2_43, if_neg (by omega), if_pos (by omega)]
theorem own_eq_9 (c : Int32) (h1 : 248 ≤ c.toInt) (h2 : c.toInt ≤ 767) : F1_0 c = F2_0 c := by
  rw [own_R1_0, if_neg (by omega), own_R1_12, if_neg (by omega), own_R1_24, if_neg (by omega), own_R1_38, if_neg (by omega), own_R1_52, if_pos (by omega)]
  rw [own_R2_0, if_pos (by omega), if_neg (by omega), own_R2_28, if_neg (by omega), own_R2_43, if_neg (by omega), if_neg (by omega), if_neg (by omega), own_R2_75, if_neg (by omega), if_neg (by omega), own_R2_100, if_neg (by omega), own_R2_116, if_neg (by omega), own_R2_132, if_neg (by omega), own_R2_148, if_neg (by omega), own_R2_162, if_neg (by omega), own_R2_176, if_neg (by omega)]
theorem own_eq_10 (c : Int32) (h1 : 768 ≤ c.toInt) (h2 : c.toInt ≤ 879) : F1_0 c = F2_0 c := by
  rw [own_R1_0, if_neg (by omega), own_R1_12, if_neg (by omega), own_R1_24, if_neg (by omega), own_R1_38, if_neg (by omega), own_R1_52, if_neg (by omega), own_R1_66, if_neg (by omega), own_R1_80, if_neg (by omega), own_R1_94, if_neg (by omega), own_R1_108, if_neg (by omega), own_R1_122, if_neg (by omega), own_R1_136, if_neg (by omega), own_R1_149, if_neg (by omega), own_R1_161, if_neg (by omega), own_R1_173, if_neg (by omega)]
  rw [own_R2_0, if_pos (by omega), if_neg (by omega), own_R2_28, if_neg (by omega), own_R2_43, if_neg (by omega), if_neg (by omega), if_pos (by omega)]
theorem own_eq_11 (c : Int32) (h1 : 880 ≤ c.toInt) (h2 : c.toInt ≤ 893) : F1_0 c = F2_0 c := by
  rw [own_R1_0, if_neg (by omega), own_R1_12, if_neg (by omega), own_R1_24, if_neg (by omega), own_R1_38, if_neg (by omega), own_R1_52, if_neg (by omega), own_R1_66, if_pos (by omega)]
  rw [own_R2_0, if_pos (by omega), if_neg (by omega), own_R2_28, if_neg (by omega), own_R2_43, if_neg (by omega), if_neg (by omega), if_neg (by omega), own_R2_75, if_neg (by omega), if_neg (by omega), own_R2_100, if_neg (by omega), own_R2_116, if_neg (by omega), own_R2_132, if_neg (by omega), own_R2_148, if_neg (by omega), own_R2_162, if_neg (by omega), own_R2_176, if_neg (by omega)]
theorem own_eq_12 (c : Int32) (h1 : 894 ≤ c.toInt) (h2 : c.toInt ≤ 894) : F1_0 c = F2_0 c := by
  rw [own_R1_0, if_neg (by omega), own_R1_12, if_neg (by omega), own_R1_24, if_neg (by omega), own_R1_38, if_neg (by omega), own_R1_52, if_neg (by omega), own_R1_66, if_neg (by omega), own_R1_80, if_neg (by omega), own_R1_94, if_neg (by omega), own_R1_108, if_neg (by omega), own_R1_122, if_neg (by omega), own_R1_136, if_neg (by omega), own_R1_149, if_neg (by omega), own_R1_161, if_neg (by omega), own_R1_173, if_neg (by omega)]
  rw [own_R2_0, if_pos (by omega), if_neg (by omega), own_R2_28, if_neg (by omega), own_R2_43, if_neg (by omega), if_neg (by omega), if_neg (by omega), own_R2_75, if_pos (by omega)]
theorem own_eq_13 (c : Int32) (h1 : 895 ≤ c.toInt) (h2 : c.toInt ≤ 8191) : F1_0 c = F2_0 c := by
  rw [own_R1_0, if_neg (by omega), own_R1_12, if_neg (by omega), own_R1_24, if_neg (by omega), own_R1_38, if_neg (by omega), own_R1_52, if_neg (by omega), own_R1_66, if_neg (by omega), own_R1_80, if_pos (by omega)]
  rw [own_R2_0, if_pos (by omega), if_neg (by omega), own_R2_28, if_neg (by omega), own_R2_43, if_neg (by omega), if_neg (by omega), if_neg (by omega), own_R2_75, if_neg (by omega), if_neg (by omega), own_R2_100, if_neg (by omega), own_R2_116, if_neg (by omega), own_R2_132, if_neg (by omega), own_R2_148, if_neg (by omega), own_R2_162, if_neg (by omega), own_R2_176, if_neg (by omega)]
theorem own_eq_14 (c : Int32) (h1 : 8192 ≤ c.toInt) (h2 : c.toInt ≤ 8203) : F1_0 c = F2_0 c := by
  rw [own_R1_0, if_neg (by omega), own_R1_12, if_neg (by omega), own_R1_24, if_neg (by omega), own_R1_38, if_neg (by omega), own_R1_52, if_neg (by omega), own_R1_66, if_neg (by omega), own_R1_80, if_neg (by omega), own_R1_94, if_neg (by omega), own_R1_108, if_neg (by omega), own_R1_122, if_neg (by omega), own_R1_136, if_neg (by omega), own_R1_149, if_neg (by omega), own_R1_161, if_neg (by omega), own_R1_173, if_neg (by omega)]
  rw [own_R2_0, if_pos (by omega), if_neg (by omega), own_R2_28, if_neg (by omega), own_R2_43, if_neg (by omega), if_neg (by omega), if_neg (by omega), own_R2_75, if_neg (by omega), if_pos (by omega)]
theorem own_eq_15 (c : Int32) (h1 : 8204 ≤ c.toInt) (h2 : c.toInt ≤ 8205) : F1_0 c = F2_0 c := by
  rw [own_R1_0, if_neg (by omega), own_R1_12, if_neg (by omega), own_R1_24, if_neg (by omega), own_R1_38, if_neg (by omega), own_R1_52, if_neg (by omega), own_R1_66, if_neg (by omega), own_R1_80, if_neg (by omega), own_R1_94, if_pos (by omega)]
  rw [own_R2_0, if_pos (by omega), if_neg (by omega), own_R2_28, if_neg (by omega), own_R2_43, if_neg (by omega), if_neg (by omega), if_neg (by omega), own_R2_75, if_neg (by omega), if_neg (by omega), own_R2_100, if_neg (by omega), own_R2_116, if_neg (by omega), own_R2_132, if_neg (by omega), own_R2_148, if_neg (by omega), own_R2_162, if_neg (by omega), own_R2_176, if_neg (by omega)]
theorem own_eq_16 (c : Int32) (h1 : 8206 ≤ c.toInt) (h2 : c.toInt ≤ 8303) : F1_0 c = F2_0 c := by
  rw [own_R1_0, if_neg (by omega), own_R1_12, if_neg (by omega), own_R1_24, if_neg (by omega), own_R1_38, if_neg (by omega), own_R1_52, if_neg (by omega), own_R1_66, if_neg (by omega), own_R1_80, if_neg (by omega), own_R1_94, if_neg (by omega), own_R1_108, if_neg (by omega), own_R1_122, if_neg (by omega), own_R1_136, if_neg (by omega), own_R1_149, if_neg (by omega), own_R1_161, if_neg (by omega), own_R1_173, if_neg (by omega)]
  rw [own_R2_0, if_pos (by omega), if_neg (by omega), own_R2_28, if_neg (by omega), own_R2_43, if_neg (by omega), if_neg (by omega), if_neg (by omega), own_R2_75, if_neg (by omega), if_neg (by omega), own_R2_100, if_pos (by omega)]
theorem own_eq_17 (c : Int32) (h1 : 8304 ≤ c.toInt) (h2 : c.toInt ≤ 8591) : F1_0 c = F2_0 c := by
  rw [own_R1_0, if_neg (by omega), own_R1_12, if_neg (by omega), own_R1_24, if_neg (by omega), own_R1_38, if_neg (by omega), own_R1_52, if_neg (by omega), own_R1_66, if_neg (by omega), own_R1_80, if_neg (by omega), own_R1_94, if_neg (by omega), own_R1_108, if_pos (by omega)]
  rw [own_R2_0, if_pos (by omega), if_neg (by omega), own_R2_28, if_neg (by omega), own_R2_43, if_neg (by omega), if_neg (by omega), if_neg (by omega), own_R2_75, if_neg (by omega), if_neg (by omega), own_R2_100, if_neg (by omega), own_R2_116, if_neg (by omega), own_R2_132, if_neg (by omega), own_R2_148, if_neg (by omega), own_R2_162, if_neg (by omega), own_R2_176, if_neg (by omega)]
theorem own_eq_18 (c : Int32) (h1 : 8592 ≤ c.toInt) (h2 : c.toInt ≤ 11263) : F1_0 c = F2_0 c := by
  rw [own_R1_0, if_neg (by omega), own_R1_12, if_neg (by omega), own_R1_24, if_neg (by omega), own_R1_38, if_neg (by omega), own_R1_52, if_neg (by omega), own_R1_66, if_neg (by omega), own_R1_80, if_neg (by omega), own_R1_94, if_neg (by omega), own_R1_108, if_neg (by omega), own_R1_122, if_neg (by omega), own_R1_136, if_neg (by omega), own_R1_149, if_neg (by omega), own_R1_161, if_neg (by omega), own_R1_173, if_neg (by omega)]
  rw [own_R2_0, if_pos (by omega), if_neg (by omega), own_R2_28, if_neg (by omega), own_R2_43, if_neg (by omega), if_neg (by omega), if_neg (by omega), own_R2_75, if_neg (by omega), if_neg (by omega), own_R2_100, if_neg (by omega), own_R2_116, if_pos (by omega)]
theorem own_eq_19 (c : Int32) (h1 : 11264 ≤ c.toInt) (h2 : c.toInt ≤ 12271) : F1_0 c = F2_0 c := by
  rw [own_R1_0, if_neg (by omega), own_R1_12, if_neg (by omega), own_R1_24, if_neg (by omega), own_R1_38, if_neg (by omega), own_R1_52, if_neg (by omega), own_R1_66, if_neg (by omega), own_R1_80, if_neg (by omega), own_R1_94, if_neg (by omega), own_R1_108, if_neg (by omega), own_R1_122, if_pos (by omega)]
  rw [own_R2_0, if_pos (by omega), if_neg (by omega), own_R2_28, if_neg (by omega), own_R2_43, if_neg (by omega), if_neg (by omega), if_neg (by omega), own_R2_75, if_neg (by omega), if_neg (by omega), own_R2_100, if_neg (by omega), own_R2_116, if_neg (by omega), own_R2_132, if_neg (by omega), own_R2_148, if_neg (by omega), own_R2_162, if_neg (by omega), own_R2_176, if_neg (by omega)]
theorem own_eq_20 (c : Int32) (h1 : 12272 ≤ c.toInt) (h2 : c.toInt ≤ 12288) : F1_0 c = F2_0 c := by
  rw [own_R1_0, if_neg (by omega), own_R1_12, if_neg (by omega), own_R1_24, if_neg (by omega), own_R1_38, if_neg (by omega), own_R1_52, if_neg (by omega), own_R1_66, if_neg (by omega), own_R1_80, if_neg (by omega), own_R1_94, if_neg (by omega), own_R1_108, if_neg (by omega), own_R1_122, if_neg (by omega), own_R1_136, if_neg (by omega), own_R1_149, if_neg (by omega), own_R1_161, if_neg (by omega), own_R1_173, if_neg (by omega)]
  rw [own_R2_0, if_pos (by omega), if_neg (by omega), own_R2_28, if_neg (by omega), own_R2_43, if_neg (by omega), if_neg (by omega), if_neg (by omega), own_R2_75, if_neg (by omega), if_neg (by omega), own_R2_100, if_neg (by omega), own_R2_116, if_neg (by omega), own_R2_132, if_pos (by omega)]
theorem own_eq_21 (c : Int32) (h1 : 12289 ≤ c.toInt) (h2 : c.toInt ≤ 55295) : F1_0 c = F2_0 c := by
  rw [own_R1_0, if_neg (by omega), own_R1_12, if_neg (by omega), own_R1_24, if_neg (by omega), own_R1_38, if_neg (by omega), own_R1_52, if_neg (by omega), own_R1_66, if_neg (by omega), own_R1_80, if_neg (by omega), own_R1_94, if_neg (by omega), own_R1_108, if_neg (by omega), own_R1_122, if_neg (by omega), own_R1_136, if_pos (by omega)]
  rw [own_R2_0, if_pos (by omega), if_neg (by omega), own_R2_28, if_neg (by omega), own_R2_43, if_neg (by omega), if_neg (by omega), if_neg (by omega), own_R2_75, if_neg (by omega), if_neg (by omega), own_R2_100, if_neg (by omega), own_R2_116, if_neg (by omega), own_R2_132, if_neg (by omega), own_R2_148, if_neg (by omega), own_R2_162, if_neg (by omega), own_R2_176, if_neg (by omega)]
theorem own_eq_22 (c : Int32) (h1 : 55296 ≤ c.toInt) (h2 : c.toInt ≤ 63743) : F1_0 c = F2_0 c := by
  rw [own_R1_0, if_neg (by omega), own_R1_12, if_neg (by omega), own_R1_24, if_neg (by omega), own_R1_38, if_neg (by omega), own_R1_52, if_neg (by omega), own_R1_66, if_neg (by omega), own_R1_80, if_neg (by omega), own_R1_94, if_neg (by omega), own_R1_108, if_neg (by omega), own_R1_122, if_neg (by omega), own_R1_136, if_neg (by omega), own_R1_149, if_neg (by omega), own_R1_161, if_neg (by omega), own_R1_173, if_neg (by omega)]
  rw [own_R2_0, if_pos (by omega), if_neg (by omega), own_R2_28, if_neg (by omega), own_R2_43, if_neg (by omega), if_neg (by omega), if_neg (by omega), own_R2_75, if_neg (by omega), if_neg (by omega), own_R2_100, if_neg (by omega), own_R2_116, if_neg (by omega), own_R2_132, if_neg (by omega), own_R2_148, if_pos (by omega)]
theorem own_eq_23 (c : Int32) (h1 : 63744 ≤ c.toInt) (h2 : c.toInt ≤ 64975) : F1_0 c = F2_0 c := by
  rw [own_R1_0, if_neg (by omega), own_R1_12, if_neg (by omega), own_R1_24, if_neg (by omega), own_R1_38, if_neg (by omega), own_R1_52, if_neg (by omega), own_R1_66, if_neg (by omega), own_R1_80, if_neg (by omega), own_R1_94, if_neg (by omega), own_R1_108, if_neg (by omega), own_R1_122, if_neg (by omega), own_R1_136, if_neg (by omega), own_R1_149, if_pos (by omega)]
  rw [own_R2_0, if_pos (by omega), if_neg (by omega), own_R2_28, if_neg (by omega), own_R2_43, if_neg (by omega), if_neg (by omega), if_neg (by omega), own_R2_75, if_neg (by omega), if_neg (by omega), own_R2_100, if_neg (by omega), own_R2_116, if_neg (by omega), own_R2_132, if_neg (by omega), own_R2_148, if_neg (by omega), own_R2_162, if_neg (by omega), own_R2_176, if_neg (by omega)]
theorem own_eq_24 (c : Int32) (h1 : 64976 ≤ c.toInt) (h2 : c.toInt ≤ 65007) : F1_0 c = F2_0 c := by
  rw [own_R1_0, if_neg (by omega), own_R1_12, if_neg (by omega), own_R1_24, if_neg (by omega), own_R1_38, if_neg (by omega), own_R1_52, if_neg (by omega), own_R1_66, if_neg (by omega), own_R1_80, if_neg (by omega), own_R1_94, if_neg (by omega), own_R1_108, if_neg (by omega), own_R1_122, if_neg (by omega), own_R1_136, if_neg (by omega), own_R1_149, if_neg (by omega), own_R1_161, if_neg (by omega), own_R1_173, if_neg (by omega)]
  rw [own_R2_0, if_pos (by omega), if_neg (by omega), own_R2_28, if_neg (by omega), own_R2_43, if_neg (by omega), if_neg (by omega), if_neg (by omega), own_R2_75, if_neg (by omega), if_neg (by omega), own_R2_100, if_neg (by omega), own_R2_116, if_neg (by omega), own_R2_132, if_neg (by omega), own_R2_148, if_neg (by omega), own_R2_162, if_pos (by omega)]
theorem own_eq_25 (c : Int32) (h1 : 65008 ≤ c.toInt) (h2 : c.toInt ≤ 65533) : F1_0 c = F2_0 c := by
  rw [own_R1_0, if_neg (by omega), own_R1_12, if_neg (by omega), own_R1_24, if_neg (by omega), own_R1_38, if_neg (by omega), own_R1_52, if_neg (by omega), own_R1_66, if_neg (by omega), own_R1_80, if_neg (by omega), own_R1_94, if_neg (by omega), own_R1_108, if_neg (by omega), own_R1_122, if_neg (by omega), own_R1_136, if_neg (by omega), own_R1_149, if_neg (by omega), own_R1_161, if_pos (by omega)]
  rw [own_R2_0, if_pos (by omega), if_neg (by omega), own_R2_28, if_neg (by omega), own_R2_43, if_neg (by omega), if_neg (by omega), if_neg (by omega), own_R2_75, if_neg (by omega), if_neg (by omega), own_R2_100, if_neg (by omega), own_R2_116, if_neg (by omega), own_R2_132, if_neg (by omega), own_R2_148, if_neg (by omega), own_R2_162, if_neg (by omega), own_R2_176, if_neg (by omega)]
theorem own_eq_26 (c : Int32) (h1 : 65534 ≤ c.toInt) (h2 : c.toInt ≤ 65535) : F1_0 c = F2_0 c := by
  rw [own_R1_0, if_neg (by omega), own_R1_12, if_neg (by omega), own_R1_24, if_neg (by omega), own_R1_38, if_neg (by omega), own_R1_52, if_neg (by omega), own_R1_66, if_neg (by omega), own_R1_80, if_neg (by omega), own_R1_94, if_neg (by omega), own_R1_108, if_neg (by omega), own_R1_122, if_neg (by omega), own_R1_136, if_neg (by omega), own_R1_149, if_neg (by omega), own_R1_161, if_neg (by omega), own_R1_173, if_neg (by omega)]
  rw [own_R2_0, if_pos (by omega), if_neg (by omega), own_R2_28, if_neg (by omega), own_R2_43, if_neg (by omega), if_neg (by omega), if_neg (by omega), own_R2_75, if_neg (by omega), if_neg (by omega), own_R2_100, if_neg (by omega), own_R2_116, if_neg (by omega), own_R2_132, if_neg (by omega), own_R2_148, if_neg (by omega), own_R2_162, if_neg (by omega), own_R2_176, if_pos (by omega)]
theorem own_eq_27 (c : Int32) (h1 : 65536 ≤ c.toInt) (h2 : c.toInt ≤ 983039) : F1_0 c = F2_0 c := by
  rw [own_R1_0, if_neg (by omega), own_R1_12, if_neg (by omega), own_R1_24, if_neg (by omega), own_R1_38, if_neg (by omega), own_R1_52, if_neg (by omega), own_R1_66, if_neg (by omega), own_R1_80, if_neg (by omega), own_R1_94, if_neg (by omega), own_R1_108, if_neg (by omega), own_R1_122, if_neg (by omega), own_R1_136, if_neg (by omega), own_R1_149, if_neg (by omega), own_R1_161, if_neg (by omega), own_R1_173, if_pos (by omega)]
  rw [own_R2_0, if_pos (by omega), if_neg (by omega), own_R2_28, if_neg (by omega), own_R2_43, if_neg (by omega), if_neg (by omega), if_neg (by omega), own_R2_75, if_neg (by omega), if_neg (by omega), own_R2_100, if_neg (by omega), own_R2_116, if_neg (by omega), own_R2_132, if_neg (by omega), own_R2_148, if_neg (by omega), own_R2_162, if_neg (by omega), own_R2_176, if_neg (by omega)]
theorem own_eq_28 (c : Int32) (h1 : 983040 ≤ c.toInt) : F1_0 c = F2_0 c := by
  rw [own_R1_0, if_neg (by omega), own_R1_12, if_neg (by omega), own_R1_24, if_neg (by omega), own_R1_38, if_neg (by omega), own_R1_52, if_neg (by omega), own_R1_66, if_neg (by omega), own_R1_80, if_neg (by omega), own_R1_94, if_neg (by omega), own_R1_108, if_neg (by omega), own_R1_122, if_neg (by omega), own_R1_136, if_neg (by omega), own_R1_149, if_neg (by omega), own_R1_161, if_neg (by omega), own_R1_173, if_neg (by omega)]
  rw [own_R2_0, if_neg (by omega)]
theorem own_eq (c : Int32) : F1_0 c = F2_0 c := by
  by_cases g0 : c.toInt < 65
  · exact own_eq_0 c (by omega)
  by_cases g1 : c.toInt < 91
  · exact own_eq_1 c (by omega) (by omega)
  by_cases g2 : c.toInt < 97
  · exact own_eq_2 c (by omega) (by omega)
  by_cases g3 : c.toInt < 123
  · exact own_eq_3 c (by omega) (by omega)
  by_cases g4 : c.toInt < 192
  · exact own_eq_4 c (by omega) (by omega)
  by_cases g5 : c.toInt < 215
  · exact own_eq_5 c (by omega) (by omega)
  by_cases g6 : c.toInt < 216
  · exact own_eq_6 c (by omega) (by omega)
  by_cases g7 : c.toInt < 247
  · exact own_eq_7 c (by omega) (by omega)
  by_cases g8 : c.toInt < 248
  · exact own_eq_8 c (by omega) (by omega)
  by_cases g9 : c.toInt < 768
  · exact own_eq_9 c (by omega) (by omega)
  by_cases g10 : c.toInt < 880
  · exact own_eq_10 c (by omega) (by omega)
  by_cases g11 : c.toInt < 894
  · exact own_eq_11 c (by omega) (by omega)
  by_cases g12 : c.toInt < 895
  · exact own_eq_12 c (by omega) (by omega)
  by_cases g13 : c.toInt < 8192
  · exact own_eq_13 c (by omega) (by omega)
  by_cases g14 : c.toInt < 8204
  · exact own_eq_14 c (by omega) (by omega)
  by_cases g15 : c.toInt < 8206
  · exact own_eq_15 c (by omega) (by omega)
  by_cases g16 : c.toInt < 8304
  · exact own_eq_16 c (by omega) (by omega)
  by_cases g17 : c.toInt < 8592
  · exact own_eq_17 c (by omega) (by omega)
  by_cases g18 : c.toInt < 11264
  · exact own_eq_18 c (by omega) (by omega)
  by_cases g19 : c.toInt < 12272
  · exact own_eq_19 c (by omega) (by omega)
  by_cases g20 : c.toInt < 12289
  · exact own_eq_20 c (by omega) (by omega)
  by_cases g21 : c.toInt < 55296
  · exact own_eq_21 c (by omega) (by omega)
  by_cases g22 : c.toInt < 63744
  · exact own_eq_22 c (by omega) (by omega)
  by_cases g23 : c.toInt < 64976
  · exact own_eq_23 c (by omega) (by omega)
  by_cases g24 : c.toInt < 65008
  · exact own_eq_24 c (by omega) (by omega)
  by_cases g25 : c.toInt < 65534
  · exact own_eq_25 c (by omega) (by omega)
  by_cases g26 : c.toInt < 65536
  · exact own_eq_26 c (by omega) (by omega)
  by_cases g27 : c.toInt < 983040
  · exact own_eq_27 c (by omega) (by omega)
  exact own_eq_28 c (by omega)
theorem own_law (p1 p2 p3 p4 : Int32) : F0_0 p1 p2 p3 p4 = 1 := by
  unfold F0_0 F0_215 F0_233 F0_253 F0_273
  rw [if_pos (own_eq _), if_pos (own_eq _), if_pos (own_eq _)]; decide
theorem ef_0 (m : MethodId) (p1 : Int32) (p2 : Int32) (p3 : Int32) (p4 : Int32) : entryFrame m #[(.int p1), (.int p2), (.int p3), (.int p4)] maxLocals = mkF m 0 #[.val (.int p1), .val (.int p2), .val (.int p3), .val (.int p4), .unset, .unset, .unset, .unset, .unset, .unset, .unset] [] := by first | (simp [entryFrame, mkF, argsToLocals, Value.category, maxLocals]; done) | rfl
theorem pn_0 : plainName "com/example/orbweave/orbweave/term/NameCharsIsPnCharsBasePinLaw" = true := by first | (simp [plainName, overriddenIn]; done) | decide +kernel
set_option maxRecDepth 65536 in
set_option maxHeartbeats 40000000 in
theorem rm0 (l : Launch) (Z : State) (a0 : Array Value) (hw : ∀ d ∈ tables_1, d.before a0 Z = true) (ws : List Jvm.Cond) (p1 : Int32) (p2 : Int32) (p3 : Int32) (p4 : Int32) (h0 : Heap) (n0 : Nat) (Z0 : n0 ≤ h0.size) :
    MetFree l x (head1 (Jvm.Cond.code x code maxLocals ret :: ws) room_1) (fun a U => a = #[(.int p1), (.int p2), (.int p3), (.int p4)] ∧ Z.Warmed39 U.vm ∧ U.heap = h0) (fun _ _ _ _ _ => True) (fun _ U o U' => ∃ v L, o = .returned v ∧ (Ql n0 (.int 1)) v U'.heap L ∧ FrameEnd U o U' L room_1.cells room_1.slots) := by
  refine MetFree.of_bodySF (plainFor_of_name pn_0) hisR ?_
  intro p e s m args below meth c s₁ Bd hml0 hP hK
  obtain ⟨rfl, hZ, hh⟩ := hP
  have hown : s.vm.findClass "com/example/orbweave/orbweave/term/NameCharsIsPnCharsBasePinLaw" = some m.cls := findClass_of_methodNamed Bd.named
  have hnm := (name_of_methodNamed Bd.named Bd.method).1
  have X0 : Stand p l e room_1 s m #[(.int p1), (.int p2), (.int p3), (.int p4)] below meth c s₁ [] 0 0 := Stand.of_body Bd
  have e0 : s₁.heap = h0 := by rw [← hh, Bd.state]; rfl
  have d := bk0_0 (n0 := n0) Bd.exec hZ hw Bd.bytes hml0 hown hnm Bd.returns (BodyLoose.notSynchronized Bd) X0 (Fr.nil n0) e0 p1 p2 p3 p4 Z0
  rw [own_law p1 p2 p3 p4] at d
  have d2 : Done p e below s room_1 (Ql n0 (.int 1)) s₁ (entryFrame m #[(.int p1), (.int p2), (.int p3), (.int p4)] maxLocals) := by rw [ef_0]; exact d
  exact d2
set_option maxRecDepth 65536 in
set_option maxHeartbeats 40000000 in
theorem comes_1 {Post : Tables → Env → Array Value → State → Outcome → State → Prop} (hpost : ∀ tb e args s v u, (limb_1_1.after args s (.returned v) u = true ∧ limb_1_2.after args s (.returned v) u = true ∧ True) → FrameEnd s (.returned v) u (Jvm.fieldLocs frame_1_writes args s ++ Jvm.arrayLocs frame_1_arrays args s ++ Jvm.staticLocs frame_1_statics s) 16 128 → Post tb e args s (.returned v) u) :
    ArmFor flags0 classFile x code maxLocals ret World_1 tables_1 room_1 Calls_1 rest_1 Pre_1 Post := by
  intro l hfl _ _ p e ha hc hk s m args below hf hA hF happ hP
  obtain ⟨hcalls, hrest, hpre⟩ := hP
  obtain ⟨-, -, -, hnamed, -, -, -, hat⟩ := (Spec.applies_iff hf).mp happ
  obtain ⟨hg, hn⟩ := and_e (Cond.before_iff.mp (show (Jvm.Cond.and given_1 narrow_1).before args s = true from hpre))
  obtain ⟨g0, r0⟩ := and_e hg
  obtain ⟨v0, r1⟩ := and_e r0
  obtain ⟨v1, r2⟩ := and_e r1
  obtain ⟨v2, r3⟩ := and_e r2
  obtain ⟨w0, w1, w2, w3, rfl⟩ : ∃ w0 w1 w2 w3 : Value, args = #[w0, w1, w2, w3] := by
    have hs : args.size = 4 := by simpa [Cond.value, given_1] using g0
    obtain ⟨L⟩ := args
    match L, hs with
    | [w0, w1, w2, w3], _ => exact ⟨w0, w1, w2, w3, rfl⟩
  have hw := fun d (hd : d ∈ tables_1) => atoms_spec (ws := Jvm.Cond.code x code maxLocals ret :: tables_1) hat d (List.mem_cons_of_mem _ hd)
  obtain ⟨i0, ei0⟩ := is_v v0
  obtain rfl : w0 = (.int i0) := Option.some.inj ei0
  obtain ⟨i1, ei1⟩ := is_v v1
  obtain rfl : w1 = (.int i1) := Option.some.inj ei1
  obtain ⟨i2, ei2⟩ := is_v v2
  obtain rfl : w2 = (.int i2) := Option.some.inj ei2
  obtain ⟨i3, ei3⟩ := is_v r3
  obtain rfl : w3 = (.int i3) := Option.some.inj ei3
  obtain ⟨n, o, h1, h2, h3, _, L, rfl, ⟨rfl, N⟩, hq⟩ := rm0 l s _ hw tables_1 i0 i1 i2 i3 s.heap s.heap.size (Nat.le_refl _) p e ha hc hk s m _ below hf ((Spec.applies_iff_loose hf).mp happ).1 ⟨rfl, State.Warmed39.refl s, rfl⟩ trivial
  refine ⟨n, _, h1, h2, h3, hpost _ _ _ _ _ _ ⟨Cond.after_iff.mpr rfl, Cond.after_iff.mpr (eq_i res_at (Term.int_eval (1)) rfl), trivial⟩ ⟨hq.1, hq.2.1, (hq.2.2.sift fun y hy => Or.inr (N y hy)).mono (by decide) (by decide)⟩⟩
theorem main_1_1 : Claimed_1_1 := comes_1 fun _ _ _ _ _ _ h hF => ⟨h.1, hF⟩
theorem main_1_2 : Claimed_1_2 := comes_1 fun _ _ _ _ _ _ h hF => ⟨h.2.1, hF⟩
end Jvm.Pilot.@@N@@
namespace Jvm.Pilot.@@N@@
open Jvm Jvm.ClassFile Sem Op Lib Jvm.Free Jvm.Stand Jvm.Pilot.@@N@@.Jvm.D
/-! MADE BY PROGRAM (witnessworld.py) out of the Statement's table words and the real class files: 9 classes; the members and pool entries that the words name. The judged class is class 1, her method 2. -/
namespace start1
open Jvm.ClassFile
def u (s : String) : CpInfo := .utf8 (stringToUtf16 s)
/-- a pool by its gaps: so many unusable entries, then the entry; so many at the end -/
def gap : Nat → List CpInfo → List CpInfo
  | 0, r => r
  | n + 1, r => .unusable :: gap n r
def poolList (es : List (Nat × CpInfo)) (last : Nat) : List CpInfo := es.foldr (fun e r => gap e.1 (e.2 :: r)) (gap last [])
def pool (es : List (Nat × CpInfo)) (last : Nat) : Array CpInfo := ⟨poolList es last⟩
def fileOf (pool : Array CpInfo) (this : Nat) (attrs : Array Attribute := #[]) (ms : Array MethodInfo := #[]) (fl : Nat := 33) (sup : Nat := 0) (ifs : Array Nat := #[]) (fds : Array FieldInfo := #[]) : ClassFile where
  minorVersion := 0
  majorVersion := 65
  constantPool := pool
  accessFlags := fl
  thisClass := this
  superClass := sup
  interfaces := ifs
  fields := fds
  methods := ms
  attributes := attrs
def plain (name : String) (sup : Option ClassId) : Class where
  name := name
  kind := .ordinary
  loader := none
  accessFlags := 33
  super := sup
  interfaces := #[]
  cf := none
  fields := #[]
  methods := #[]
  instanceTypes := #[]
  staticTypes := #[]
  resolved := #[]
  callSites := []
  init := .initialized
  statics := none
  mirror := none

def pool0 : Array CpInfo := pool [(5, u "<init>"), (0, u "()V"), (1, .class_ 10), (1, u "java/lang/Object")] 113

def k0m0 : Method := { name := "<init>", desc := "()V", sig := { parameters := [], returnType := none }, accessFlags := 1, code := none }
/-- java/lang/Object -/
def k0 : Class := { plain "java/lang/Object" none with
  accessFlags := 33
  interfaces := #[]
  cf := some (fileOf pool0 8 #[] #[{ accessFlags := 1, nameIndex := 5, descriptorIndex := 6, attributes := #[] }] 33 0 #[] #[])
  fields := #[]
  methods := #[k0m0]
  instanceTypes := #[]
  staticTypes := #[]
  resolved := Array.replicate 124 none
  statics := none }

def pool1 : Array CpInfo := pool [(2, .class_ 4), (1, u "java/lang/Object"), (0, u "<init>"), (0, u "()V"), (0, .integer 983039), (0, .integer 55296), (0, .integer 63743), (0, .integer 64976), (0, .integer 65007), (0, .integer 65534), (0, .integer 65535), (0, .integer 55295), (0, .integer 63744), (0, .integer 64975), (0, .integer 65008), (0, .integer 65533), (0, .integer 65536), (0, .integer 2147483647), (0, .integer 1048575), (0, .methodref 23 24), (0, .class_ 25), (0, .nameAndType 26 27), (0, u "com/example/orbweave/orbweave/term/NameChars"), (0, u "isPnCharsBase"), (0, u "(I)Z"), (0, .methodref 29 30), (0, .class_ 31), (0, .nameAndType 32 27), (0, u "com/example/orbweave/orbweave/term/NameCharsIsPnCharsBasePinLaw"), (0, u "ref"), (3, u "law"), (0, u "(IIII)Z")] 4

def k1m0 : Method := { name := "<init>", desc := "()V", sig := { parameters := [], returnType := none }, accessFlags := 2, code := none }
def k1c1 : Code := { maxStack := 2, maxLocals := 1, code := method_2_code, exceptionTable := #[], attributes := #[] }
def k1m1 : Method := { name := "ref", desc := "(I)Z", sig := { parameters := [.int], returnType := some .boolean }, accessFlags := 10, code := some k1c1 }
def k1c2 : Code := { maxStack := 4, maxLocals := 11, code := code, exceptionTable := #[], attributes := #[] }
def k1m2 : Method := { name := "law", desc := "(IIII)Z", sig := { parameters := [.int, .int, .int, .int], returnType := some .boolean }, accessFlags := 9, code := some k1c2 }
/-- com/example/orbweave/orbweave/term/NameCharsIsPnCharsBasePinLaw -/
def k1 : Class := { plain "com/example/orbweave/orbweave/term/NameCharsIsPnCharsBasePinLaw" (some 0) with
  accessFlags := 49
  interfaces := #[]
  cf := some (fileOf pool1 29 #[] #[{ accessFlags := 2, nameIndex := 5, descriptorIndex := 6, attributes := #[] }, { accessFlags := 10, nameIndex := 32, descriptorIndex := 27, attributes := #[] }, { accessFlags := 9, nameIndex := 36, descriptorIndex := 37, attributes := #[] }] 49 2 #[] #[])
  fields := #[]
  methods := #[k1m0, k1m1, k1m2]
  instanceTypes := #[]
  staticTypes := #[]
  resolved := Array.replicate 42 none
  statics := none }

def pool2 : Array CpInfo := pool [(2, .class_ 4), (1, u "java/lang/Object"), (0, u "<init>"), (0, u "()V"), (0, .integer 55295), (0, .integer 63744), (0, .integer 64975), (0, .integer 65008), (0, .integer 65533), (0, .integer 65536), (0, .integer 983039), (1, .class_ 17), (1, u "com/example/orbweave/orbweave/term/NameChars"), (0, u "isPnCharsBase"), (0, u "(I)Z")] 9

def k2m0 : Method := { name := "<init>", desc := "()V", sig := { parameters := [], returnType := none }, accessFlags := 2, code := none }
def k2c1 : Code := { maxStack := 2, maxLocals := 1, code := prog_113_method_2_code, exceptionTable := #[], attributes := #[] }
def k2m1 : Method := { name := "isPnCharsBase", desc := "(I)Z", sig := { parameters := [.int], returnType := some .boolean }, accessFlags := 9, code := some k2c1 }
/-- com/example/orbweave/orbweave/term/NameChars -/
def k2 : Class := { plain "com/example/orbweave/orbweave/term/NameChars" (some 0) with
  accessFlags := 49
  interfaces := #[]
  cf := some (fileOf pool2 15 #[] #[{ accessFlags := 2, nameIndex := 5, descriptorIndex := 6, attributes := #[] }, { accessFlags := 9, nameIndex := 18, descriptorIndex := 19, attributes := #[] }] 49 2 #[] #[])
  fields := #[]
  methods := #[k2m0, k2m1]
  instanceTypes := #[]
  staticTypes := #[]
  resolved := Array.replicate 29 none
  statics := none }

def pool3 : Array CpInfo := pool [(1, u "java/lang/Cloneable"), (0, .class_ 1), (0, u "java/lang/Object"), (0, .class_ 3)] 3

/-- java/lang/Cloneable -/
def k3 : Class := { plain "java/lang/Cloneable" (some 0) with
  accessFlags := 1537
  interfaces := #[]
  cf := some (fileOf pool3 2 #[] #[] 1537 4 #[] #[])
  fields := #[]
  methods := #[]
  instanceTypes := #[]
  staticTypes := #[]
  resolved := Array.replicate 8 none
  statics := none }

def pool4 : Array CpInfo := pool [(1, u "java/io/Serializable"), (0, .class_ 1), (0, u "java/lang/Object"), (0, .class_ 3)] 3

/-- java/io/Serializable -/
def k4 : Class := { plain "java/io/Serializable" (some 0) with
  accessFlags := 1537
  interfaces := #[]
  cf := some (fileOf pool4 2 #[] #[] 1537 4 #[] #[])
  fields := #[]
  methods := #[]
  instanceTypes := #[]
  staticTypes := #[]
  resolved := Array.replicate 8 none
  statics := none }

/-- the primitive byte -/
def k5 : Class := { plain "byte" none with kind := .primitive 'B', accessFlags := 0x411 }
/-- [B -/
def k6 : Class := { plain "[B" (some 0) with kind := .array 5 .byte, interfaces := #[3, 4], accessFlags := 1041 }

/-- the primitive int -/
def k7 : Class := { plain "int" none with kind := .primitive 'I', accessFlags := 0x411 }
/-- [I -/
def k8 : Class := { plain "[I" (some 0) with kind := .array 7 .int, interfaces := #[3, 4], accessFlags := 1041 }

def heap : Heap := #[]
def classes : Array Class := #[k0, k1, k2, k3, k4, k5, k6, k7, k8]
def interned : List (Array UInt16 × Addr) := []
def slotsUsed : Nat := 0
def theMethod : MethodId := ⟨1, 2⟩
def args0 : Array Value := #[.int 5, .int 5, .int 5, .int 5]
def aboutOver (below : List Frame) : State where
  vm := { classes := classes, interned := interned.toArray }
  heap := heap
  slotsUsed := slotsUsed
  threads := #[{ frames := .invoking theMethod args0 :: below }]
def below0 : List Frame := [.native { method := ⟨0, 0⟩, args := #[] }]
def about1 : State := aboutOver below0
def p0 : Program := .bare "" "" ""
def e0 : Env := launch0.env 0 0 0
theorem w_frames : about1.frames = Frame.invoking theMethod args0 :: below0 := rfl
set_option maxRecDepth 65536 in
theorem w_args : argsFit about1.vm theMethod args0 = true := by decide +kernel
set_option maxRecDepth 65536 in
theorem w_heap : heapFits about1 = true := by decide +kernel
set_option maxRecDepth 65536 in
theorem w_runnable : about1.curStatus? = some .runnable := by decide +kernel
set_option maxRecDepth 65536 in
theorem w_alone : about1.alone = true := by decide +kernel
set_option maxRecDepth 65536 in
theorem w_named : about1.methodNamed? x = some theMethod := by decide +kernel
set_option maxRecDepth 65536 in
theorem w_hears : about1.hears theMethod below0 = true := by decide +kernel
set_option maxRecDepth 65536 in
theorem w_ripe : about1.ripe theMethod args0 below0 = true := by decide +kernel
theorem w_running : about1.status = .running := rfl
set_option maxRecDepth 65536 in
theorem w_room : about1.hasRoom e0.platform room_1 = true :=
  launch0.hasRoom_least _ room_1 (by decide +kernel) (by decide +kernel) (by decide +kernel) (by decide +kernel) (by decide +kernel) (by decide +kernel)
theorem allAtoms_all (ts : List Jvm.Cond) (a : Array Jvm.Value) (st : Jvm.State) : (allAtoms ts).before a st = ts.all (fun c => c.before a st) := by
  induction ts with
  | nil => rfl
  | cons c t ih =>
    show (Jvm.Cond.and c (allAtoms t)).before a st = _
    rw [Jvm.Cond.before_and, ih, List.all_cons]
def words1 : List Jvm.Cond := Jvm.Cond.code x code maxLocals ret :: tables_1
/-- a 'code' word, met by the world's own term for the bytes: nothing is compared byte by byte -/
theorem code_word {y : MethodName} {bytes : ByteArray} {mx : Nat} {rt : Option FieldType} {a : Array Value} {s : State} {m : MethodId} {meth : Method} {c : Code} (h1 : s.methodNamed? y = some m) (h2 : s.vm.method? m = some meth) (h3 : meth.code = some c) (h4 : c.code = bytes)
    (h5 : (c.maxLocals == mx && c.exceptionTable.isEmpty && decide (c.maxStack ≤ mostOperands) && decide (meth.sig.returnType = rt) && !meth.locks && decide (parseMethodDescriptor y.desc = some meth.sig)) = true) : (Jvm.Cond.code y bytes mx rt).before a s = true := by
  simp only [Bool.and_eq_true, beq_iff_eq, Bool.not_eq_true', decide_eq_true_eq] at h5
  obtain ⟨⟨⟨⟨⟨g1, g2⟩, g3⟩, g4⟩, g5⟩, g6⟩ := h5
  simp [Cond.before, Cond.holds, Cond.value, h1, h2, h3, h4, g1, g2, g3, g4, g5, g6]
def isCode : Jvm.Cond → Bool
  | .code _ _ _ _ => true
  | _ => false
theorem all_split {L : List Jvm.Cond} {P : Jvm.Cond → Bool} (h1 : L.all (fun c => isCode c || P c) = true) (h2 : ∀ c ∈ L.filter isCode, P c = true) : L.all P = true := by
  refine List.all_eq_true.mpr fun c hc => ?_
  have h := List.all_eq_true.mp h1 c hc
  rcases Bool.eq_false_or_eq_true (isCode c) with hi | hi
  · exact h2 c (List.mem_filter.mpr ⟨hc, hi⟩)
  · simpa [hi] using h
set_option maxRecDepth 65536 in
theorem w_c0 : (Jvm.Cond.code x code maxLocals ret).before args0 about1 = true := code_word (m := ⟨1, 2⟩) (meth := k1m2) (c := k1c2) (by decide +kernel) rfl rfl rfl (by decide +kernel)
set_option maxRecDepth 65536 in
theorem w_c1 : (Jvm.Cond.code ({ cls := "com/example/orbweave/orbweave/term/NameChars", name := "isPnCharsBase", desc := "(I)Z" } : Jvm.MethodName) prog_113_method_2_code (1 : Nat) (Option.some Jvm.ClassFile.FieldType.boolean)).before args0 about1 = true := code_word (m := ⟨2, 1⟩) (meth := k2m1) (c := k2c1) (by decide +kernel) rfl rfl rfl (by decide +kernel)
set_option maxRecDepth 65536 in
theorem w_c2 : (Jvm.Cond.code ({ cls := "com/example/orbweave/orbweave/term/NameCharsIsPnCharsBasePinLaw", name := "ref", desc := "(I)Z" } : Jvm.MethodName) method_2_code (1 : Nat) (Option.some Jvm.ClassFile.FieldType.boolean)).before args0 about1 = true := code_word (m := ⟨1, 1⟩) (meth := k1m1) (c := k1c1) (by decide +kernel) rfl rfl rfl (by decide +kernel)
def codes1 : List Jvm.Cond := [Jvm.Cond.code x code maxLocals ret, Jvm.Cond.code ({ cls := "com/example/orbweave/orbweave/term/NameChars", name := "isPnCharsBase", desc := "(I)Z" } : Jvm.MethodName) prog_113_method_2_code (1 : Nat) (Option.some Jvm.ClassFile.FieldType.boolean), Jvm.Cond.code ({ cls := "com/example/orbweave/orbweave/term/NameCharsIsPnCharsBasePinLaw", name := "ref", desc := "(I)Z" } : Jvm.MethodName) method_2_code (1 : Nat) (Option.some Jvm.ClassFile.FieldType.boolean)]
set_option maxRecDepth 65536 in
theorem codes_eq : words1.filter isCode = codes1 := rfl
theorem w_codes : ∀ c ∈ words1.filter isCode, c.before args0 about1 = true := by
  rw [codes_eq]
  intro c hc
  simp only [codes1, List.mem_cons, List.not_mem_nil, or_false] at hc
  rcases hc with rfl | rfl | rfl
  · exact w_c0
  · exact w_c1
  · exact w_c2
set_option maxRecDepth 65536 in
theorem w_t1 : (words1.take 24).all (fun c => isCode c || c.before args0 about1) = true := by decide +kernel
set_option maxRecDepth 65536 in
theorem w_t2 : (words1.drop 24).all (fun c => isCode c || c.before args0 about1) = true := by decide +kernel
theorem w_tables : (allAtoms (Jvm.Cond.code x code maxLocals ret :: tables_1)).before args0 about1 = true := by
  rw [allAtoms_all]
  show words1.all (fun c => c.before args0 about1) = true
  refine all_split ?_ w_codes
  rw [← List.take_append_drop 24 words1, List.all_append, w_t1, w_t2]
  rfl
set_option maxRecDepth 65536 in
theorem w_case : (Jvm.Cond.and given_1 narrow_1).before args0 about1 = true := by decide +kernel
theorem w_applies : (headSpec (Jvm.Cond.code x code maxLocals ret :: tables_1) room_1).applies x e0.platform about1 = true :=
  (Spec.applies_iff w_frames).mpr ⟨w_running, w_runnable, w_alone, w_named, w_hears, w_ripe, w_room, w_tables⟩
theorem atStart : AtStart classFile x code maxLocals ret World_1 tables_1 room_1 Calls_1 rest_1 Pre_1 launch0 p0 e0 about1 theMethod args0 below0 :=
  ⟨lists_1, trivial, launch0.admits_env _ _ _, launch0.least_env, fairChoices_fair.cas, fairChoices_fair.clock, w_frames, w_args, w_heap, w_applies, trivial, trivial, w_case⟩
end start1
theorem witness_1 : WitnessClaimed_1 := ⟨start1.p0, start1.e0, start1.about1, start1.theMethod, start1.args0, start1.below0, start1.atStart⟩
end Jvm.Pilot.@@N@@
