import JvmDerived
import JvmDerived.Pilot.@@N@@Statement
import JvmDerived.Pilot.@@N@@Code
set_option linter.unusedVariables false
set_option linter.unusedSimpArgs false
namespace Jvm.RoadKit
open Sem ClassFile Op Lib Jvm.Stand Jvm.Free Jvm.LawKit
section New
variable {p : Program} {l : Launch} {e : Env} {R : Room} {s : State} {m : MethodId} {args : Array Value} {below : List Frame} {meth : Method} {c : Code} {T : State} {locs : List Loc} {cells slots : Nat}
theorem retI (X : Stand p l e R s m args below meth c T locs cells slots) (hx : p.tables.exec = Jvm.exec) {pc : Nat} {Ls : Array Slot} {z : Int32} {rest : List Value} (hret : meth.sig.returnType = some .int) (hd : decode c.code pc = .ok (.ireturn, 1)) {fs : List Frame}
    (hl : ∀ (f : JFrame) (acts : List Action), f.method = m → f.locked = none → f.entered = [] → (doReturn e (T.setTop f) acts (some (.int z))).1 = T.setFrames fs) : Steps p.tables e below (T.setTop (mkF m pc Ls (.int z :: rest))) (T.setFrames fs) := by
  have hm' : T.vm.method? m = some meth := X.method'
  have hn : narrow .int (.int z) = .int z := rfl
  show Steps p.tables e below (T.setTop { method := m, pc := pc, locals := Ls, stack := _ :: rest, locked := none }) _
  jvm_step X.here [X.here.top, hx, hd, hm', hret, hn]
  first | (intro acts; rw [hl _ acts rfl rfl rfl]) | rw [hl _ _ rfl rfl rfl]
  exact Steps.refl _
theorem retA (X : Stand p l e R s m args below meth c T locs cells slots) (hx : p.tables.exec = Jvm.exec) {pc : Nat} {Ls : Array Slot} {z : Addr} {rest : List Value} {t : FieldType} (hret : meth.sig.returnType = some t) (ht : t.isReference = true) (hd : decode c.code pc = .ok (.areturn, 1)) {fs : List Frame}
    (hl : ∀ (f : JFrame) (acts : List Action), f.method = m → f.locked = none → f.entered = [] → (doReturn e (T.setTop f) acts (some (.ref z))).1 = T.setFrames fs) : Steps p.tables e below (T.setTop (mkF m pc Ls (.ref z :: rest))) (T.setFrames fs) := by
  have hm' : T.vm.method? m = some meth := X.method'
  show Steps p.tables e below (T.setTop { method := m, pc := pc, locals := Ls, stack := _ :: rest, locked := none }) _
  jvm_step X.here [X.here.top, hx, hd, hm', hret, ht, Value.isRef]
  first | (intro acts; rw [hl _ acts rfl rfl rfl]) | rw [hl _ _ rfl rfl rfl]
  exact Steps.refl _
theorem retJ (X : Stand p l e R s m args below meth c T locs cells slots) (hx : p.tables.exec = Jvm.exec) {pc : Nat} {Ls : Array Slot} {z : Int64} {rest : List Value} (hret : meth.sig.returnType = some .long) (hd : decode c.code pc = .ok (.lreturn, 1)) {fs : List Frame}
    (hl : ∀ (f : JFrame) (acts : List Action), f.method = m → f.locked = none → f.entered = [] → (doReturn e (T.setTop f) acts (some (.long z))).1 = T.setFrames fs) : Steps p.tables e below (T.setTop (mkF m pc Ls (.long z :: rest))) (T.setFrames fs) := by
  have hm' : T.vm.method? m = some meth := X.method'
  show Steps p.tables e below (T.setTop { method := m, pc := pc, locals := Ls, stack := _ :: rest, locked := none }) _
  jvm_step X.here [X.here.top, hx, hd, hm', hret]
  first | (intro acts; rw [hl _ acts rfl rfl rfl]) | rw [hl _ _ rfl rfl rfl]
  exact Steps.refl _
end New
end Jvm.RoadKit
namespace Jvm.Pilot.@@N@@
open Jvm Jvm.ClassFile Sem Op Lib Jvm.Free Jvm.Stand Jvm.LawKit Jvm.RoadKit Bundle Jvm.Pilot.@@N@@.Jvm.D
/-! My own frame of a walk: 'Done' says: from this frame the run ends, and Q holds of what came back, of the heap, and of the places written. -/
def Done (p : Program) (e : Env) (below : List Frame) (s : State) (R : Room) (Q : Option Value → Heap → List Loc → Prop) (T : State) (g : JFrame) : Prop :=
  ∃ s₂ o, Steps p.tables e below (T.setTop g) s₂ ∧ s₂.status = .running ∧ Ended s₂ below o ∧ ∃ v L, o = .returned v ∧ Q v s₂.heap L ∧ FrameEnd s o s₂ L R.cells R.slots
def Qp (h0 : Heap) (n0 : Nat) (z : Value) (v : Option Value) (h : Heap) (L : List Loc) : Prop := v = some z ∧ Fr n0 L ∧ h = h0
def Qv (h0 : Heap) (n0 : Nat) (v : Option Value) (h : Heap) (L : List Loc) : Prop := v = none ∧ Fr n0 L ∧ h = h0
def Ql (n0 : Nat) (z : Value) (v : Option Value) (h : Heap) (L : List Loc) : Prop := v = some z ∧ Fr n0 L
theorem Done.of {p : Program} {e : Env} {below : List Frame} {s : State} {R : Room} {Q : Option Value → Heap → List Loc → Prop} {T T' : State} {g g' : JFrame}
    (st : ∀ t, Steps p.tables e below (T'.setTop g') t → Steps p.tables e below (T.setTop g) t) (d : Done p e below s R Q T' g') : Done p e below s R Q T g := by
  obtain ⟨s₂, o, h1, h2⟩ := d
  exact ⟨s₂, o, st _ h1, h2⟩
section Ends
variable {p : Program} {l : Launch} {e : Env} {R : Room} {s : State} {m : MethodId} {args : Array Value} {below : List Frame} {meth : Method} {c : Code} {T : State} {locs : List Loc} {cells slots : Nat} {Q : Option Value → Heap → List Loc → Prop}
theorem doneI (X : Stand p l e R s m args below meth c T locs cells slots) (hx : p.tables.exec = Jvm.exec) {pc : Nat} {Ls : Array Slot} {z : Int32} {rest : List Value} (hret : meth.sig.returnType = some .int) (hlk : meth.locks = false) (hd : decode c.code pc = .ok (.ireturn, 1))
    (hQ : Q (some (.int z)) T.heap locs) (hc : cells ≤ R.cells) (hs : slots ≤ R.slots) : Done p e below s R Q T (mkF m pc Ls (.int z :: rest)) := by
  obtain ⟨fs, hr, hrun, hended, hW, hsame⟩ := X.leave (v := some (.int z)) (fun h => by rw [hret] at h; cases h) hlk
  exact ⟨_, _, retI X hx hret hd hr, hrun, hended, _, _, rfl, hQ, ⟨_, rfl⟩, hW, hsame.mono hc hs⟩
theorem doneN (t : FieldType) (X : Stand p l e R s m args below meth c T locs cells slots) (ht : t = .boolean ∨ t = .byte ∨ t = .char ∨ t = .short) (hx : p.tables.exec = Jvm.exec) {pc : Nat} {Ls : Array Slot} {z : Int32} {rest : List Value} (hret : meth.sig.returnType = some t) (hlk : meth.locks = false) (hd : decode c.code pc = .ok (.ireturn, 1))
    (hQ : Q (some (.int (nar t z))) T.heap locs) (hc : cells ≤ R.cells) (hs : slots ≤ R.slots) : Done p e below s R Q T (mkF m pc Ls (.int z :: rest)) := by
  obtain ⟨fs, hr, hrun, hended, hW, hsame⟩ := X.leave (v := some (.int (nar t z))) (fun h => by rw [hret] at h; cases h) hlk
  exact ⟨_, _, retN X hx hret ht hd hr, hrun, hended, _, _, rfl, hQ, ⟨_, rfl⟩, hW, hsame.mono hc hs⟩
theorem doneJ (X : Stand p l e R s m args below meth c T locs cells slots) (hx : p.tables.exec = Jvm.exec) {pc : Nat} {Ls : Array Slot} {z : Int64} {rest : List Value} (hret : meth.sig.returnType = some .long) (hlk : meth.locks = false) (hd : decode c.code pc = .ok (.lreturn, 1))
    (hQ : Q (some (.long z)) T.heap locs) (hc : cells ≤ R.cells) (hs : slots ≤ R.slots) : Done p e below s R Q T (mkF m pc Ls (.long z :: rest)) := by
  obtain ⟨fs, hr, hrun, hended, hW, hsame⟩ := X.leave (v := some (.long z)) (fun h => by rw [hret] at h; cases h) hlk
  exact ⟨_, _, retJ X hx hret hd hr, hrun, hended, _, _, rfl, hQ, ⟨_, rfl⟩, hW, hsame.mono hc hs⟩
theorem doneA (X : Stand p l e R s m args below meth c T locs cells slots) (hx : p.tables.exec = Jvm.exec) {pc : Nat} {Ls : Array Slot} {z : Addr} {rest : List Value} {t : FieldType} (hret : meth.sig.returnType = some t) (ht : t.isReference = true) (hlk : meth.locks = false) (hd : decode c.code pc = .ok (.areturn, 1))
    (hQ : Q (some (.ref z)) T.heap locs) (hc : cells ≤ R.cells) (hs : slots ≤ R.slots) : Done p e below s R Q T (mkF m pc Ls (.ref z :: rest)) := by
  obtain ⟨fs, hr, hrun, hended, hW, hsame⟩ := X.leave (v := some (.ref z)) (fun h => by rw [hret] at h; cases h) hlk
  exact ⟨_, _, retA X hx hret ht hd hr, hrun, hended, _, _, rfl, hQ, ⟨_, rfl⟩, hW, hsame.mono hc hs⟩
theorem doneV (X : Stand p l e R s m args below meth c T locs cells slots) (hx : p.tables.exec = Jvm.exec) {pc : Nat} {Ls : Array Slot} (hret : meth.sig.returnType = none) (hlk : meth.locks = false) (hd : decode c.code pc = .ok (.return_, 1))
    (hQ : Q none T.heap locs) (hc : cells ≤ R.cells) (hs : slots ≤ R.slots) : Done p e below s R Q T (mkF m pc Ls []) := by
  obtain ⟨fs, hr, hrun, hended, hW, hsame⟩ := X.leave (v := none) (fun _ => rfl) hlk
  exact ⟨_, _, X.returnOut hx hret hd hr, hrun, hended, _, _, rfl, hQ, ⟨_, rfl⟩, hW, hsame.mono hc hs⟩
end Ends
theorem lcLt_t {x y : Int64} (h : x < y) : ifCond.holds .lt (lcmpW x y) = true ∧ ifCond.holds .ge (lcmpW x y) = false := ⟨(if0 _ _).trans (tlt ((lw_lt x y).mpr h)).1, (if0 _ _).trans (tlt ((lw_lt x y).mpr h)).2.1⟩
theorem lcLt_f {x y : Int64} (h : ¬ x < y) : ifCond.holds .lt (lcmpW x y) = false ∧ ifCond.holds .ge (lcmpW x y) = true := ⟨(if0 _ _).trans (flt (fun q => h ((lw_lt x y).mp q))).1, (if0 _ _).trans (flt (fun q => h ((lw_lt x y).mp q))).2.1⟩
theorem lcGt_t {x y : Int64} (h : y < x) : ifCond.holds .gt (lcmpW x y) = true ∧ ifCond.holds .le (lcmpW x y) = false := ⟨(if0 _ _).trans (tlt ((lw_gt x y).mpr h)).2.2.1, (if0 _ _).trans (tlt ((lw_gt x y).mpr h)).2.2.2⟩
theorem lcGt_f {x y : Int64} (h : ¬ y < x) : ifCond.holds .gt (lcmpW x y) = false ∧ ifCond.holds .le (lcmpW x y) = true := ⟨(if0 _ _).trans (flt (fun q => h ((lw_gt x y).mp q))).2.2.1, (if0 _ _).trans (flt (fun q => h ((lw_gt x y).mp q))).2.2.2⟩
theorem lcEq_t {x y : Int64} (h : x = y) : ifCond.holds .eq (lcmpW x y) = true ∧ ifCond.holds .ne (lcmpW x y) = false := ⟨(if0 _ _).trans (teq ((lw_eq x y).mpr h)).1, (if0 _ _).trans (teq ((lw_eq x y).mpr h)).2⟩
theorem lcEq_f {x y : Int64} (h : ¬ x = y) : ifCond.holds .eq (lcmpW x y) = false ∧ ifCond.holds .ne (lcmpW x y) = true := ⟨(if0 _ _).trans (feq (fun q => h ((lw_eq x y).mp q))).1, (if0 _ _).trans (feq (fun q => h ((lw_eq x y).mp q))).2⟩
theorem own_selP {s : State} {args : Array Value} {y : MethodName} {n : Nat} (hins : (Cond.instantiable y.cls n).before args s = true) (hpriv : (Cond.privateMethod y).before args s = true) (hinst : (Cond.instanceMethod y).before args s = true) (hy : y.cls ≠ "java/lang/invoke/MethodHandle" ∧ y.cls ≠ "java/lang/invoke/VarHandle") :
    (Cond.selects y.cls y y).before args s = true := by
  obtain ⟨c, k, hc, hk, -, hniab, -, -⟩ := Cond.instantiable_spec hins
  exact selects_self_of_private hc hk (Bool.or_eq_false_iff.mp hniab).1 (Cond.privateMethod_at hpriv) hinst hy
theorem own_hat {c : Cell} {vs : List Int32} {j : Int32} (H : Has c (vs.map Value.int) (.int (0 : Int32))) (hin : ¬ (j < 0 ∨ c.slots.size ≤ j.toNatClampNeg)) : c.slots[j.toNatClampNeg]? = some (.int (vs.getD j.toNatClampNeg 0)) := by
  rw [H j.toNatClampNeg (Nat.lt_of_not_le fun q => hin (Or.inr q))]
  simp only [List.getD_eq_getElem?_getD, List.getElem?_map]
  cases vs[j.toNatClampNeg]? <;> rfl
theorem own_fin {n : Nat} (c : Int32) (h0 : 0 ≤ c.toInt) (h1 : c.toInt < n) : ∃ i : Fin n, c = Int32.ofInt (i.1 : Int) :=
  ⟨⟨c.toInt.toNat, by omega⟩, by show c = Int32.ofInt ((c.toInt.toNat : Nat) : Int); rw [Int.toNat_of_nonneg h0]; exact (Int32.ofInt_toInt c).symm⟩
theorem own_set (N i : Nat) (f : Nat → Int32) (v : Int32) : ((List.range N).map fun j => Value.int (f j)).set i (.int v) = (List.range N).map fun j => Value.int (if j = i then v else f j) := by
  apply List.ext_getElem
  · simp
  · intro k h1 h2
    rw [List.getElem_set]
    simp only [List.getElem_map, List.getElem_range]
    by_cases q : i = k
    · rw [if_pos q, if_pos q.symm]
    · rw [if_neg q, if_neg (Ne.symm q)]
theorem own_setA {Z : State} {h : Heap} {a : Addr} {k : ClassId} {ty : FieldType} {z : Int32} {N i : Nat} {f : Nat → Int32} {v : Int32} {dv : Value} (A : Arv Z h a k ty z (((List.range N).map fun j => Value.int (f j)).set i (.int v)) dv) :
    Arv Z h a k ty z ((List.range N).map fun j => Value.int (if j = i then v else f j)) dv := by rw [← own_set]; exact A
theorem own_hatF {c : Cell} {N : Nat} {f : Nat → Int32} {j : Int32} {d : Value} (H : Has c ((List.range N).map fun j => Value.int (f j)) d) (hN : c.slots.size = N) (hin : ¬ (j < 0 ∨ c.slots.size ≤ j.toNatClampNeg)) : c.slots[j.toNatClampNeg]? = some (.int (f j.toNatClampNeg)) := by
  have hl : j.toNatClampNeg < c.slots.size := Nat.lt_of_not_le fun q => hin (Or.inr q)
  rw [H j.toNatClampNeg hl, List.getD_eq_getElem?_getD, List.getElem?_map, List.getElem?_range (by omega)]
  rfl
theorem own_sz {c : Cell} {z : Int32} {N : Nat} (S : c.slots.size = z.toNatClampNeg) (h : z.toNatClampNeg = N := by decide) : c.slots.size = N := S.trans h
theorem own_len {c : Cell} {z j : Int32} {N : Nat} {f : Nat → Int32} (S : c.slots.size = z.toNatClampNeg) (hin : ¬ (j < 0 ∨ c.slots.size ≤ j.toNatClampNeg)) (h : z.toNatClampNeg = N := by decide) : j.toNatClampNeg < ((List.range N).map fun j => Value.int (f j)).length := by
  have : j.toNatClampNeg < c.slots.size := Nat.lt_of_not_le fun q => hin (Or.inr q)
  rw [List.length_map, List.length_range]; omega
theorem d2_0 : decode prog_113_method_2_code 0 = .ok (.iload_n 0, 1) := by decide +kernel
theorem d2_1 : decode prog_113_method_2_code 1 = .ok (.bipush 65, 2) := by decide +kernel
theorem d2_3 : decode prog_113_method_2_code 3 = .ok (.if_icmp .lt 9, 3) := by decide +kernel
theorem d2_6 : decode prog_113_method_2_code 6 = .ok (.iload_n 0, 1) := by decide +kernel
theorem d2_7 : decode prog_113_method_2_code 7 = .ok (.bipush 90, 2) := by decide +kernel
theorem d2_9 : decode prog_113_method_2_code 9 = .ok (.if_icmp .le 176, 3) := by decide +kernel
theorem d2_12 : decode prog_113_method_2_code 12 = .ok (.iload_n 0, 1) := by decide +kernel
theorem d2_13 : decode prog_113_method_2_code 13 = .ok (.bipush 97, 2) := by decide +kernel
theorem d2_15 : decode prog_113_method_2_code 15 = .ok (.if_icmp .lt 9, 3) := by decide +kernel
theorem d2_18 : decode prog_113_method_2_code 18 = .ok (.iload_n 0, 1) := by decide +kernel
theorem d2_19 : decode prog_113_method_2_code 19 = .ok (.bipush 122, 2) := by decide +kernel
theorem d2_21 : decode prog_113_method_2_code 21 = .ok (.if_icmp .le 164, 3) := by decide +kernel
theorem d2_24 : decode prog_113_method_2_code 24 = .ok (.iload_n 0, 1) := by decide +kernel
theorem d2_25 : decode prog_113_method_2_code 25 = .ok (.sipush 192, 3) := by decide +kernel
theorem d2_28 : decode prog_113_method_2_code 28 = .ok (.if_icmp .lt 10, 3) := by decide +kernel
theorem d2_31 : decode prog_113_method_2_code 31 = .ok (.iload_n 0, 1) := by decide +kernel
theorem d2_32 : decode prog_113_method_2_code 32 = .ok (.sipush 214, 3) := by decide +kernel
theorem d2_35 : decode prog_113_method_2_code 35 = .ok (.if_icmp .le 150, 3) := by decide +kernel
theorem d2_38 : decode prog_113_method_2_code 38 = .ok (.iload_n 0, 1) := by decide +kernel
theorem d2_39 : decode prog_113_method_2_code 39 = .ok (.sipush 216, 3) := by decide +kernel
theorem d2_42 : decode prog_113_method_2_code 42 = .ok (.if_icmp .lt 10, 3) := by decide +kernel
theorem d2_45 : decode prog_113_method_2_code 45 = .ok (.iload_n 0, 1) := by decide +kernel
theorem d2_46 : decode prog_113_method_2_code 46 = .ok (.sipush 246, 3) := by decide +kernel
theorem d2_49 : decode prog_113_method_2_code 49 = .ok (.if_icmp .le 136, 3) := by decide +kernel
theorem d2_52 : decode prog_113_method_2_code 52 = .ok (.iload_n 0, 1) := by decide +kernel
theorem d2_53 : decode prog_113_method_2_code 53 = .ok (.sipush 248, 3) := by decide +kernel
theorem d2_56 : decode prog_113_method_2_code 56 = .ok (.if_icmp .lt 10, 3) := by decide +kernel
theorem d2_59 : decode prog_113_method_2_code 59 = .ok (.iload_n 0, 1) := by decide +kernel
theorem d2_60 : decode prog_113_method_2_code 60 = .ok (.sipush 767, 3) := by decide +kernel
theorem d2_63 : decode prog_113_method_2_code 63 = .ok (.if_icmp .le 122, 3) := by decide +kernel
theorem d2_66 : decode prog_113_method_2_code 66 = .ok (.iload_n 0, 1) := by decide +kernel
theorem d2_67 : decode prog_113_method_2_code 67 = .ok (.sipush 880, 3) := by decide +kernel
theorem d2_70 : decode prog_113_method_2_code 70 = .ok (.if_icmp .lt 10, 3) := by decide +kernel
theorem d2_73 : decode prog_113_method_2_code 73 = .ok (.iload_n 0, 1) := by decide +kernel
theorem d2_74 : decode prog_113_method_2_code 74 = .ok (.sipush 893, 3) := by decide +kernel
theorem d2_77 : decode prog_113_method_2_code 77 = .ok (.if_icmp .le 108, 3) := by decide +kernel
theorem d2_80 : decode prog_113_method_2_code 80 = .ok (.iload_n 0, 1) := by decide +kernel
theorem d2_81 : decode prog_113_method_2_code 81 = .ok (.sipush 895, 3) := by decide +kernel
theorem d2_84 : decode prog_113_method_2_code 84 = .ok (.if_icmp .lt 10, 3) := by decide +kernel
theorem d2_87 : decode prog_113_method_2_code 87 = .ok (.iload_n 0, 1) := by decide +kernel
theorem d2_88 : decode prog_113_method_2_code 88 = .ok (.sipush 8191, 3) := by decide +kernel
theorem d2_91 : decode prog_113_method_2_code 91 = .ok (.if_icmp .le 94, 3) := by decide +kernel
theorem d2_94 : decode prog_113_method_2_code 94 = .ok (.iload_n 0, 1) := by decide +kernel
theorem d2_95 : decode prog_113_method_2_code 95 = .ok (.sipush 8204, 3) := by decide +kernel
theorem d2_98 : decode prog_113_method_2_code 98 = .ok (.if_icmp .lt 10, 3) := by decide +kernel
theorem d2_101 : decode prog_113_method_2_code 101 = .ok (.iload_n 0, 1) := by decide +kernel
theorem d2_102 : decode prog_113_method_2_code 102 = .ok (.sipush 8205, 3) := by decide +kernel
theorem d2_105 : decode prog_113_method_2_code 105 = .ok (.if_icmp .le 80, 3) := by decide +kernel
theorem d2_108 : decode prog_113_method_2_code 108 = .ok (.iload_n 0, 1) := by decide +kernel
theorem d2_109 : decode prog_113_method_2_code 109 = .ok (.sipush 8304, 3) := by decide +kernel
theorem d2_112 : decode prog_113_method_2_code 112 = .ok (.if_icmp .lt 10, 3) := by decide +kernel
theorem d2_115 : decode prog_113_method_2_code 115 = .ok (.iload_n 0, 1) := by decide +kernel
theorem d2_116 : decode prog_113_method_2_code 116 = .ok (.sipush 8591, 3) := by decide +kernel
theorem d2_119 : decode prog_113_method_2_code 119 = .ok (.if_icmp .le 66, 3) := by decide +kernel
theorem d2_122 : decode prog_113_method_2_code 122 = .ok (.iload_n 0, 1) := by decide +kernel
theorem d2_123 : decode prog_113_method_2_code 123 = .ok (.sipush 11264, 3) := by decide +kernel
theorem d2_126 : decode prog_113_method_2_code 126 = .ok (.if_icmp .lt 10, 3) := by decide +kernel
theorem d2_129 : decode prog_113_method_2_code 129 = .ok (.iload_n 0, 1) := by decide +kernel
theorem d2_130 : decode prog_113_method_2_code 130 = .ok (.sipush 12271, 3) := by decide +kernel
theorem d2_133 : decode prog_113_method_2_code 133 = .ok (.if_icmp .le 52, 3) := by decide +kernel
theorem d2_136 : decode prog_113_method_2_code 136 = .ok (.iload_n 0, 1) := by decide +kernel
theorem d2_137 : decode prog_113_method_2_code 137 = .ok (.sipush 12289, 3) := by decide +kernel
theorem d2_140 : decode prog_113_method_2_code 140 = .ok (.if_icmp .lt 9, 3) := by decide +kernel
theorem d2_143 : decode prog_113_method_2_code 143 = .ok (.iload_n 0, 1) := by decide +kernel
theorem d2_144 : decode prog_113_method_2_code 144 = .ok (.ldc 7, 2) := by decide +kernel
theorem d2_146 : decode prog_113_method_2_code 146 = .ok (.if_icmp .le 39, 3) := by decide +kernel
theorem d2_149 : decode prog_113_method_2_code 149 = .ok (.iload_n 0, 1) := by decide +kernel
theorem d2_150 : decode prog_113_method_2_code 150 = .ok (.ldc 8, 2) := by decide +kernel
theorem d2_152 : decode prog_113_method_2_code 152 = .ok (.if_icmp .lt 9, 3) := by decide +kernel
theorem d2_155 : decode prog_113_method_2_code 155 = .ok (.iload_n 0, 1) := by decide +kernel
theorem d2_156 : decode prog_113_method_2_code 156 = .ok (.ldc 9, 2) := by decide +kernel
theorem d2_158 : decode prog_113_method_2_code 158 = .ok (.if_icmp .le 27, 3) := by decide +kernel
theorem d2_161 : decode prog_113_method_2_code 161 = .ok (.iload_n 0, 1) := by decide +kernel
theorem d2_162 : decode prog_113_method_2_code 162 = .ok (.ldc 10, 2) := by decide +kernel
theorem d2_164 : decode prog_113_method_2_code 164 = .ok (.if_icmp .lt 9, 3) := by decide +kernel
theorem d2_167 : decode prog_113_method_2_code 167 = .ok (.iload_n 0, 1) := by decide +kernel
theorem d2_168 : decode prog_113_method_2_code 168 = .ok (.ldc 11, 2) := by decide +kernel
theorem d2_170 : decode prog_113_method_2_code 170 = .ok (.if_icmp .le 15, 3) := by decide +kernel
theorem d2_173 : decode prog_113_method_2_code 173 = .ok (.iload_n 0, 1) := by decide +kernel
theorem d2_174 : decode prog_113_method_2_code 174 = .ok (.ldc 12, 2) := by decide +kernel
theorem d2_176 : decode prog_113_method_2_code 176 = .ok (.if_icmp .lt 13, 3) := by decide +kernel
theorem d2_179 : decode prog_113_method_2_code 179 = .ok (.iload_n 0, 1) := by decide +kernel
theorem d2_180 : decode prog_113_method_2_code 180 = .ok (.ldc 13, 2) := by decide +kernel
theorem d2_182 : decode prog_113_method_2_code 182 = .ok (.if_icmp .gt 7, 3) := by decide +kernel
theorem d2_185 : decode prog_113_method_2_code 185 = .ok (.iconst 1, 1) := by decide +kernel
theorem d2_186 : decode prog_113_method_2_code 186 = .ok (.goto 4, 3) := by decide +kernel
theorem d2_189 : decode prog_113_method_2_code 189 = .ok (.iconst 0, 1) := by decide +kernel
theorem d2_190 : decode prog_113_method_2_code 190 = .ok (.ireturn, 1) := by decide +kernel
def F2_173 (i0 : Int32) : Int32 := (if i0 < (65536 : Int32) then (0 : Int32) else (if (983039 : Int32) < i0 then (0 : Int32) else (1 : Int32)))
set_option maxRecDepth 65536 in
set_option maxHeartbeats 40000000 in
theorem bk2_173 {p : Program} {l : Launch} {e : Env} {s : State} {m : MethodId} {args : Array Value} {below : List Frame} {meth : Method} {c : Code} {T0 : State} {locs : List Loc} {Z : State} {a0 : Array Value} {h0 : Heap} {n0 : Nat}
    (hx : p.tables.exec = Jvm.exec) (hZ : Z.Warmed39 s.vm) (hw : ∀ d ∈ tables_1, d.before a0 Z = true) (hby : c.code = prog_113_method_2_code) (hml : c.maxLocals = 1) (hown : s.vm.findClass "com/example/orbweave/orbweave/term/NameChars" = some m.cls) (hnm : meth.name = "isPnCharsBase") (hret : meth.sig.returnType = some .boolean) (hlk : meth.locks = false)
    (X0 : Stand p l e ({ frames := 0, cells := 0, slots := 0, locals := 0 } : Room) s m args below meth c T0 locs 0 0) (N0 : Fr n0 locs) (e0 : T0.heap = h0) (i0 : Int32) :
    Done p e below s ({ frames := 0, cells := 0, slots := 0, locals := 0 } : Room) (Qp h0 n0 (.int (F2_173 i0))) T0 (mkF m 173 #[.val (.int i0)] []) := by
  unfold F2_173
  refine Done.of (T' := T0) (g' := (mkF m 176 #[.val (.int i0)] [(.int (65536 : Int32)), (.int i0)])) (fun t k => ?_) ?_
  · show Steps p.tables e below (T0.setTop (mkF m 173 #[.val (.int i0)] [])) t
    refine XS.iloadN X0.here hx rfl (hb hby d2_173) rfl ?_
    show Steps p.tables e below (T0.setTop (mkF m 174 #[.val (.int i0)] [(.int i0)])) t
    refine X0.ldcInt hx hown (mvT hZ (hw _ (List.mem_of_getElem? (i := 19) rfl))) (g := (mkF m 174 #[.val (.int i0)] [(.int i0)])) rfl (hb hby d2_174) _ ?_
    exact k
  by_cases hc176_0 : i0 < (65536 : Int32)
  · rw [if_pos hc176_0]
    refine Done.of (T' := T0) (g' := (mkF m 190 #[.val (.int i0)] [(.int (0 : Int32))])) (fun t k => ?_) ?_
    · show Steps p.tables e below (T0.setTop (mkF m 176 #[.val (.int i0)] [(.int (65536 : Int32)), (.int i0)])) t
      refine XS.icmpYes X0.here hx rfl (pc0 := 176) (pc' := 189) rfl (hb hby d2_176) rfl (tlt hc176_0).1 (by decide) (by decide) ?_
      show Steps p.tables e below (T0.setTop (mkF m 189 #[.val (.int i0)] [])) t
      refine XS.iconst X0.here hx rfl (hb hby d2_189) ?_
      exact k
    exact doneN (t := .boolean) X0 (by simp) hx hret hlk (hb hby d2_190) ⟨rfl, N0, e0⟩ (by decide) (by decide)
  · rw [if_neg hc176_0]
    refine Done.of (T' := T0) (g' := (mkF m 182 #[.val (.int i0)] [(.int (983039 : Int32)), (.int i0)])) (fun t k => ?_) ?_
    · show Steps p.tables e below (T0.setTop (mkF m 176 #[.val (.int i0)] [(.int (65536 : Int32)), (.int i0)])) t
      refine XS.icmpNo X0.here hx rfl (hb hby d2_176) rfl (flt hc176_0).1 ?_
      show Steps p.tables e below (T0.setTop (mkF m 179 #[.val (.int i0)] [])) t
      refine XS.iloadN X0.here hx rfl (hb hby d2_179) rfl ?_
      show Steps p.tables e below (T0.setTop (mkF m 180 #[.val (.int i0)] [(.int i0)])) t
      refine X0.ldcInt hx hown (mvT hZ (hw _ (List.mem_of_getElem? (i := 32) rfl))) (g := (mkF m 180 #[.val (.int i0)] [(.int i0)])) rfl (hb hby d2_180) _ ?_
      exact k
    by_cases hc182_1 : (983039 : Int32) < i0
    · rw [if_pos hc182_1]
      refine Done.of (T' := T0) (g' := (mkF m 190 #[.val (.int i0)] [(.int (0 : Int32))])) (fun t k => ?_) ?_
      · show Steps p.tables e below (T0.setTop (mkF m 182 #[.val (.int i0)] [(.int (983039 : Int32)), (.int i0)])) t
        refine XS.icmpYes X0.here hx rfl (pc0 := 182) (pc' := 189) rfl (hb hby d2_182) rfl (tlt hc182_1).2.2.1 (by decide) (by decide) ?_
        show Steps p.tables e below (T0.setTop (mkF m 189 #[.val (.int i0)] [])) t
        refine XS.iconst X0.here hx rfl (hb hby d2_189) ?_
        exact k
      exact doneN (t := .boolean) X0 (by simp) hx hret hlk (hb hby d2_190) ⟨rfl, N0, e0⟩ (by decide) (by decide)
    · rw [if_neg hc182_1]
      refine Done.of (T' := T0) (g' := (mkF m 190 #[.val (.int i0)] [(.int (1 : Int32))])) (fun t k => ?_) ?_
      · show Steps p.tables e below (T0.setTop (mkF m 182 #[.val (.int i0)] [(.int (983039 : Int32)), (.int i0)])) t
        refine XS.icmpNo X0.here hx rfl (hb hby d2_182) rfl (flt hc182_1).2.2.1 ?_
        show Steps p.tables e below (T0.setTop (mkF m 185 #[.val (.int i0)] [])) t
        refine XS.iconst X0.here hx rfl (hb hby d2_185) ?_
        show Steps p.tables e below (T0.setTop (mkF m 186 #[.val (.int i0)] [(.int (1 : Int32))])) t
        refine XS.goto X0.here hx rfl (pc0 := 186) (pc' := 190) rfl (hb hby d2_186) (by decide) (by decide) ?_
        exact k
      exact doneN (t := .boolean) X0 (by simp) hx hret hlk (hb hby d2_190) ⟨rfl, N0, e0⟩ (by decide) (by decide)
def F2_161 (i0 : Int32) : Int32 := (if i0 < (65008 : Int32) then (F2_173 i0) else (if (65533 : Int32) < i0 then (F2_173 i0) else (1 : Int32)))
set_option maxRecDepth 65536 in
set_option maxHeartbeats 40000000 in
theorem bk2_161 {p : Program} {l : Launch} {e : Env} {s : State} {m : MethodId} {args : Array Value} {below : List Frame} {meth : Method} {c : Code} {T0 : State} {locs : List Loc} {Z : State} {a0 : Array Value} {h0 : Heap} {n0 : Nat}
    (hx : p.tables.exec = Jvm.exec) (hZ : Z.Warmed39 s.vm) (hw : ∀ d ∈ tables_1, d.before a0 Z = true) (hby : c.code = prog_113_method_2_code) (hml : c.maxLocals = 1) (hown : s.vm.findClass "com/example/orbweave/orbweave/term/NameChars" = some m.cls) (hnm : meth.name = "isPnCharsBase") (hret : meth.sig.returnType = some .boolean) (hlk : meth.locks = false)
    (X0 : Stand p l e ({ frames := 0, cells := 0, slots := 0, locals := 0 } : Room) s m args below meth c T0 locs 0 0) (N0 : Fr n0 locs) (e0 : T0.heap = h0) (i0 : Int32) :
    Done p e below s ({ frames := 0, cells := 0, slots := 0, locals := 0 } : Room) (Qp h0 n0 (.int (F2_161 i0))) T0 (mkF m 161 #[.val (.int i0)] []) := by
  unfold F2_161
  refine Done.of (T' := T0) (g' := (mkF m 164 #[.val (.int i0)] [(.int (65008 : Int32)), (.int i0)])) (fun t k => ?_) ?_
  · show Steps p.tables e below (T0.setTop (mkF m 161 #[.val (.int i0)] [])) t
    refine XS.iloadN X0.here hx rfl (hb hby d2_161) rfl ?_
    show Steps p.tables e below (T0.setTop (mkF m 162 #[.val (.int i0)] [(.int i0)])) t
    refine X0.ldcInt hx hown (mvT hZ (hw _ (List.mem_of_getElem? (i := 18) rfl))) (g := (mkF m 162 #[.val (.int i0)] [(.int i0)])) rfl (hb hby d2_162) _ ?_
    exact k
  by_cases hc164_0 : i0 < (65008 : Int32)
  · rw [if_pos hc164_0]
    refine Done.of (T' := T0) (g' := (mkF m 173 #[.val (.int i0)] [])) (fun t k => ?_) ?_
    · show Steps p.tables e below (T0.setTop (mkF m 164 #[.val (.int i0)] [(.int (65008 : Int32)), (.int i0)])) t
      refine XS.icmpYes X0.here hx rfl (pc0 := 164) (pc' := 173) rfl (hb hby d2_164) rfl (tlt hc164_0).1 (by decide) (by decide) ?_
      exact k
    exact bk2_173 hx hZ hw hby hml hown hnm hret hlk X0 N0 e0 i0
  · rw [if_neg hc164_0]
    refine Done.of (T' := T0) (g' := (mkF m 170 #[.val (.int i0)] [(.int (65533 : Int32)), (.int i0)])) (fun t k => ?_) ?_
    · show Steps p.tables e below (T0.setTop (mkF m 164 #[.val (.int i0)] [(.int (65008 : Int32)), (.int i0)])) t
      refine XS.icmpNo X0.here hx rfl (hb hby d2_164) rfl (flt hc164_0).1 ?_
      show Steps p.tables e below (T0.setTop (mkF m 167 #[.val (.int i0)] [])) t
      refine XS.iloadN X0.here hx rfl (hb hby d2_167) rfl ?_
      show Steps p.tables e below (T0.setTop (mkF m 168 #[.val (.int i0)] [(.int i0)])) t
      refine X0.ldcInt hx hown (mvT hZ (hw _ (List.mem_of_getElem? (i := 31) rfl))) (g := (mkF m 168 #[.val (.int i0)] [(.int i0)])) rfl (hb hby d2_168) _ ?_
      exact k
    by_cases hc170_1 : (65533 : Int32) < i0
    · rw [if_pos hc170_1]
      refine Done.of (T' := T0) (g' := (mkF m 173 #[.val (.int i0)] [])) (fun t k => ?_) ?_
      · show Steps p.tables e below (T0.setTop (mkF m 170 #[.val (.int i0)] [(.int (65533 : Int32)), (.int i0)])) t
        refine XS.icmpNo X0.here hx rfl (hb hby d2_170) rfl (tlt hc170_1).2.2.2 ?_
        exact k
      exact bk2_173 hx hZ hw hby hml hown hnm hret hlk X0 N0 e0 i0
    · rw [if_neg hc170_1]
      refine Done.of (T' := T0) (g' := (mkF m 190 #[.val (.int i0)] [(.int (1 : Int32))])) (fun t k => ?_) ?_
      · show Steps p.tables e below (T0.setTop (mkF m 170 #[.val (.int i0)] [(.int (65533 : Int32)), (.int i0)])) t
        refine XS.icmpYes X0.here hx rfl (pc0 := 170) (pc' := 185) rfl (hb hby d2_170) rfl (flt hc170_1).2.2.2 (by decide) (by decide) ?_
        show Steps p.tables e below (T0.setTop (mkF m 185 #[.val (.int i0)] [])) t
        refine XS.iconst X0.here hx rfl (hb hby d2_185) ?_
        show Steps p.tables e below (T0.setTop (mkF m 186 #[.val (.int i0)] [(.int (1 : Int32))])) t
        refine XS.goto X0.here hx rfl (pc0 := 186) (pc' := 190) rfl (hb hby d2_186) (by decide) (by decide) ?_
        exact k
      exact doneN (t := .boolean) X0 (by simp) hx hret hlk (hb hby d2_190) ⟨rfl, N0, e0⟩ (by decide) (by decide)
def F2_149 (i0 : Int32) : Int32 := (if i0 < (63744 : Int32) then (F2_161 i0) else (if (64975 : Int32) < i0 then (F2_161 i0) else (1 : Int32)))
set_option maxRecDepth 65536 in
set_option maxHeartbeats 40000000 in
theorem bk2_149 {p : Program} {l : Launch} {e : Env} {s : State} {m : MethodId} {args : Array Value} {below : List Frame} {meth : Method} {c : Code} {T0 : State} {locs : List Loc} {Z : State} {a0 : Array Value} {h0 : Heap} {n0 : Nat}
    (hx : p.tables.exec = Jvm.exec) (hZ : Z.Warmed39 s.vm) (hw : ∀ d ∈ tables_1, d.before a0 Z = true) (hby : c.code = prog_113_method_2_code) (hml : c.maxLocals = 1) (hown : s.vm.findClass "com/example/orbweave/orbweave/term/NameChars" = some m.cls) (hnm : meth.name = "isPnCharsBase") (hret : meth.sig.returnType = some .boolean) (hlk : meth.locks = false)
    (X0 : Stand p l e ({ frames := 0, cells := 0, slots := 0, locals := 0 } : Room) s m args below meth c T0 locs 0 0) (N0 : Fr n0 locs) (e0 : T0.heap = h0) (i0 : Int32) :
    Done p e below s ({ frames := 0, cells := 0, slots := 0, locals := 0 } : Room) (Qp h0 n0 (.int (F2_149 i0))) T0 (mkF m 149 #[.val (.int i0)] []) := by
  unfold F2_149
  refine Done.of (T' := T0) (g' := (mkF m 152 #[.val (.int i0)] [(.int (63744 : Int32)), (.int i0)])) (fun t k => ?_) ?_
  · show Steps p.tables e below (T0.setTop (mkF m 149 #[.val (.int i0)] [])) t
    refine XS.iloadN X0.here hx rfl (hb hby d2_149) rfl ?_
    show Steps p.tables e below (T0.setTop (mkF m 150 #[.val (.int i0)] [(.int i0)])) t
    refine X0.ldcInt hx hown (mvT hZ (hw _ (List.mem_of_getElem? (i := 17) rfl))) (g := (mkF m 150 #[.val (.int i0)] [(.int i0)])) rfl (hb hby d2_150) _ ?_
    exact k
  by_cases hc152_0 : i0 < (63744 : Int32)
  · rw [if_pos hc152_0]
    refine Done.of (T' := T0) (g' := (mkF m 161 #[.val (.int i0)] [])) (fun t k => ?_) ?_
    · show Steps p.tables e below (T0.setTop (mkF m 152 #[.val (.int i0)] [(.int (63744 : Int32)), (.int i0)])) t
      refine XS.icmpYes X0.here hx rfl (pc0 := 152) (pc' := 161) rfl (hb hby d2_152) rfl (tlt hc152_0).1 (by decide) (by decide) ?_
      exact k
    exact bk2_161 hx hZ hw hby hml hown hnm hret hlk X0 N0 e0 i0
  · rw [if_neg hc152_0]
    refine Done.of (T' := T0) (g' := (mkF m 158 #[.val (.int i0)] [(.int (64975 : Int32)), (.int i0)])) (fun t k => ?_) ?_
    · show Steps p.tables e below (T0.setTop (mkF m 152 #[.val (.int i0)] [(.int (63744 : Int32)), (.int i0)])) t
      refine XS.icmpNo X0.here hx rfl (hb hby d2_152) rfl (flt hc152_0).1 ?_
      show Steps p.tables e below (T0.setTop (mkF m 155 #[.val (.int i0)] [])) t
      refine XS.iloadN X0.here hx rfl (hb hby d2_155) rfl ?_
      show Steps p.tables e below (T0.setTop (mkF m 156 #[.val (.int i0)] [(.int i0)])) t
      refine X0.ldcInt hx hown (mvT hZ (hw _ (List.mem_of_getElem? (i := 30) rfl))) (g := (mkF m 156 #[.val (.int i0)] [(.int i0)])) rfl (hb hby d2_156) _ ?_
      exact k
    by_cases hc158_1 : (64975 : Int32) < i0
    · rw [if_pos hc158_1]
      refine Done.of (T' := T0) (g' := (mkF m 161 #[.val (.int i0)] [])) (fun t k => ?_) ?_
      · show Steps p.tables e below (T0.setTop (mkF m 158 #[.val (.int i0)] [(.int (64975 : Int32)), (.int i0)])) t
        refine XS.icmpNo X0.here hx rfl (hb hby d2_158) rfl (tlt hc158_1).2.2.2 ?_
        exact k
      exact bk2_161 hx hZ hw hby hml hown hnm hret hlk X0 N0 e0 i0
    · rw [if_neg hc158_1]
      refine Done.of (T' := T0) (g' := (mkF m 190 #[.val (.int i0)] [(.int (1 : Int32))])) (fun t k => ?_) ?_
      · show Steps p.tables e below (T0.setTop (mkF m 158 #[.val (.int i0)] [(.int (64975 : Int32)), (.int i0)])) t
        refine XS.icmpYes X0.here hx rfl (pc0 := 158) (pc' := 185) rfl (hb hby d2_158) rfl (flt hc158_1).2.2.2 (by decide) (by decide) ?_
        show Steps p.tables e below (T0.setTop (mkF m 185 #[.val (.int i0)] [])) t
        refine XS.iconst X0.here hx rfl (hb hby d2_185) ?_
        show Steps p.tables e below (T0.setTop (mkF m 186 #[.val (.int i0)] [(.int (1 : Int32))])) t
        refine XS.goto X0.here hx rfl (pc0 := 186) (pc' := 190) rfl (hb hby d2_186) (by decide) (by decide) ?_
        exact k
      exact doneN (t := .boolean) X0 (by simp) hx hret hlk (hb hby d2_190) ⟨rfl, N0, e0⟩ (by decide) (by decide)
def F2_136 (i0 : Int32) : Int32 := (if i0 < (12289 : Int32) then (F2_149 i0) else (if (55295 : Int32) < i0 then (F2_149 i0) else (1 : Int32)))
set_option maxRecDepth 65536 in
set_option maxHeartbeats 40000000 in
theorem bk2_136 {p : Program} {l : Launch} {e : Env} {s : State} {m : MethodId} {args : Array Value} {below : List Frame} {meth : Method} {c : Code} {T0 : State} {locs : List Loc} {Z : State} {a0 : Array Value} {h0 : Heap} {n0 : Nat}
    (hx : p.tables.exec = Jvm.exec) (hZ : Z.Warmed39 s.vm) (hw : ∀ d ∈ tables_1, d.before a0 Z = true) (hby : c.code = prog_113_method_2_code) (hml : c.maxLocals = 1) (hown : s.vm.findClass "com/example/orbweave/orbweave/term/NameChars" = some m.cls) (hnm : meth.name = "isPnCharsBase") (hret : meth.sig.returnType = some .boolean) (hlk : meth.locks = false)
    (X0 : Stand p l e ({ frames := 0, cells := 0, slots := 0, locals := 0 } : Room) s m args below meth c T0 locs 0 0) (N0 : Fr n0 locs) (e0 : T0.heap = h0) (i0 : Int32) :
    Done p e below s ({ frames := 0, cells := 0, slots := 0, locals := 0 } : Room) (Qp h0 n0 (.int (F2_136 i0))) T0 (mkF m 136 #[.val (.int i0)] []) := by
  unfold F2_136
  refine Done.of (T' := T0) (g' := (mkF m 140 #[.val (.int i0)] [(.int (12289 : Int32)), (.int i0)])) (fun t k => ?_) ?_
  · show Steps p.tables e below (T0.setTop (mkF m 136 #[.val (.int i0)] [])) t
    refine XS.iloadN X0.here hx rfl (hb hby d2_136) rfl ?_
    show Steps p.tables e below (T0.setTop (mkF m 137 #[.val (.int i0)] [(.int i0)])) t
    refine XS.sipush X0.here hx rfl (hb hby d2_137) ?_
    exact k
  by_cases hc140_0 : i0 < (12289 : Int32)
  · rw [if_pos hc140_0]
    refine Done.of (T' := T0) (g' := (mkF m 149 #[.val (.int i0)] [])) (fun t k => ?_) ?_
    · show Steps p.tables e below (T0.setTop (mkF m 140 #[.val (.int i0)] [(.int (12289 : Int32)), (.int i0)])) t
      refine XS.icmpYes X0.here hx rfl (pc0 := 140) (pc' := 149) rfl (hb hby d2_140) rfl (tlt hc140_0).1 (by decide) (by decide) ?_
      exact k
    exact bk2_149 hx hZ hw hby hml hown hnm hret hlk X0 N0 e0 i0
  · rw [if_neg hc140_0]
    refine Done.of (T' := T0) (g' := (mkF m 146 #[.val (.int i0)] [(.int (55295 : Int32)), (.int i0)])) (fun t k => ?_) ?_
    · show Steps p.tables e below (T0.setTop (mkF m 140 #[.val (.int i0)] [(.int (12289 : Int32)), (.int i0)])) t
      refine XS.icmpNo X0.here hx rfl (hb hby d2_140) rfl (flt hc140_0).1 ?_
      show Steps p.tables e below (T0.setTop (mkF m 143 #[.val (.int i0)] [])) t
      refine XS.iloadN X0.here hx rfl (hb hby d2_143) rfl ?_
      show Steps p.tables e below (T0.setTop (mkF m 144 #[.val (.int i0)] [(.int i0)])) t
      refine X0.ldcInt hx hown (mvT hZ (hw _ (List.mem_of_getElem? (i := 29) rfl))) (g := (mkF m 144 #[.val (.int i0)] [(.int i0)])) rfl (hb hby d2_144) _ ?_
      exact k
    by_cases hc146_1 : (55295 : Int32) < i0
    · rw [if_pos hc146_1]
      refine Done.of (T' := T0) (g' := (mkF m 149 #[.val (.int i0)] [])) (fun t k => ?_) ?_
      · show Steps p.tables e below (T0.setTop (mkF m 146 #[.val (.int i0)] [(.int (55295 : Int32)), (.int i0)])) t
        refine XS.icmpNo X0.here hx rfl (hb hby d2_146) rfl (tlt hc146_1).2.2.2 ?_
        exact k
      exact bk2_149 hx hZ hw hby hml hown hnm hret hlk X0 N0 e0 i0
    · rw [if_neg hc146_1]
      refine Done.of (T' := T0) (g' := (mkF m 190 #[.val (.int i0)] [(.int (1 : Int32))])) (fun t k => ?_) ?_
      · show Steps p.tables e below (T0.setTop (mkF m 146 #[.val (.int i0)] [(.int (55295 : Int32)), (.int i0)])) t
        refine XS.icmpYes X0.here hx rfl (pc0 := 146) (pc' := 185) rfl (hb hby d2_146) rfl (flt hc146_1).2.2.2 (by decide) (by decide) ?_
        show Steps p.tables e below (T0.setTop (mkF m 185 #[.val (.int i0)] [])) t
        refine XS.iconst X0.here hx rfl (hb hby d2_185) ?_
        show Steps p.tables e below (T0.setTop (mkF m 186 #[.val (.int i0)] [(.int (1 : Int32))])) t
        refine XS.goto X0.here hx rfl (pc0 := 186) (pc' := 190) rfl (hb hby d2_186) (by decide) (by decide) ?_
        exact k
      exact doneN (t := .boolean) X0 (by simp) hx hret hlk (hb hby d2_190) ⟨rfl, N0, e0⟩ (by decide) (by decide)
def F2_122 (i0 : Int32) : Int32 := (if i0 < (11264 : Int32) then (F2_136 i0) else (if (12271 : Int32) < i0 then (F2_136 i0) else (1 : Int32)))
set_option maxRecDepth 65536 in
set_option maxHeartbeats 40000000 in
theorem bk2_122 {p : Program} {l : Launch} {e : Env} {s : State} {m : MethodId} {args : Array Value} {below : List Frame} {meth : Method} {c : Code} {T0 : State} {locs : List Loc} {Z : State} {a0 : Array Value} {h0 : Heap} {n0 : Nat}
    (hx : p.tables.exec = Jvm.exec) (hZ : Z.Warmed39 s.vm) (hw : ∀ d ∈ tables_1, d.before a0 Z = true) (hby : c.code = prog_113_method_2_code) (hml : c.maxLocals = 1) (hown : s.vm.findClass "com/example/orbweave/orbweave/term/NameChars" = some m.cls) (hnm : meth.name = "isPnCharsBase") (hret : meth.sig.returnType = some .boolean) (hlk : meth.locks = false)
    (X0 : Stand p l e ({ frames := 0, cells := 0, slots := 0, locals := 0 } : Room) s m args below meth c T0 locs 0 0) (N0 : Fr n0 locs) (e0 : T0.heap = h0) (i0 : Int32) :
    Done p e below s ({ frames := 0, cells := 0, slots := 0, locals := 0 } : Room) (Qp h0 n0 (.int (F2_122 i0))) T0 (mkF m 122 #[.val (.int i0)] []) := by
  unfold F2_122
  refine Done.of (T' := T0) (g' := (mkF m 126 #[.val (.int i0)] [(.int (11264 : Int32)), (.int i0)])) (fun t k => ?_) ?_
  · show Steps p.tables e below (T0.setTop (mkF m 122 #[.val (.int i0)] [])) t
    refine XS.iloadN X0.here hx rfl (hb hby d2_122) rfl ?_
    show Steps p.tables e below (T0.setTop (mkF m 123 #[.val (.int i0)] [(.int i0)])) t
    refine XS.sipush X0.here hx rfl (hb hby d2_123) ?_
    exact k
  by_cases hc126_0 : i0 < (11264 : Int32)
  · rw [if_pos hc126_0]
    refine Done.of (T' := T0) (g' := (mkF m 136 #[.val (.int i0)] [])) (fun t k => ?_) ?_
    · show Steps p.tables e below (T0.setTop (mkF m 126 #[.val (.int i0)] [(.int (11264 : Int32)), (.int i0)])) t
      refine XS.icmpYes X0.here hx rfl (pc0 := 126) (pc' := 136) rfl (hb hby d2_126) rfl (tlt hc126_0).1 (by decide) (by decide) ?_
      exact k
    exact bk2_136 hx hZ hw hby hml hown hnm hret hlk X0 N0 e0 i0
  · rw [if_neg hc126_0]
    refine Done.of (T' := T0) (g' := (mkF m 133 #[.val (.int i0)] [(.int (12271 : Int32)), (.int i0)])) (fun t k => ?_) ?_
    · show Steps p.tables e below (T0.setTop (mkF m 126 #[.val (.int i0)] [(.int (11264 : Int32)), (.int i0)])) t
      refine XS.icmpNo X0.here hx rfl (hb hby d2_126) rfl (flt hc126_0).1 ?_
      show Steps p.tables e below (T0.setTop (mkF m 129 #[.val (.int i0)] [])) t
      refine XS.iloadN X0.here hx rfl (hb hby d2_129) rfl ?_
      show Steps p.tables e below (T0.setTop (mkF m 130 #[.val (.int i0)] [(.int i0)])) t
      refine XS.sipush X0.here hx rfl (hb hby d2_130) ?_
      exact k
    by_cases hc133_1 : (12271 : Int32) < i0
    · rw [if_pos hc133_1]
      refine Done.of (T' := T0) (g' := (mkF m 136 #[.val (.int i0)] [])) (fun t k => ?_) ?_
      · show Steps p.tables e below (T0.setTop (mkF m 133 #[.val (.int i0)] [(.int (12271 : Int32)), (.int i0)])) t
        refine XS.icmpNo X0.here hx rfl (hb hby d2_133) rfl (tlt hc133_1).2.2.2 ?_
        exact k
      exact bk2_136 hx hZ hw hby hml hown hnm hret hlk X0 N0 e0 i0
    · rw [if_neg hc133_1]
      refine Done.of (T' := T0) (g' := (mkF m 190 #[.val (.int i0)] [(.int (1 : Int32))])) (fun t k => ?_) ?_
      · show Steps p.tables e below (T0.setTop (mkF m 133 #[.val (.int i0)] [(.int (12271 : Int32)), (.int i0)])) t
        refine XS.icmpYes X0.here hx rfl (pc0 := 133) (pc' := 185) rfl (hb hby d2_133) rfl (flt hc133_1).2.2.2 (by decide) (by decide) ?_
        show Steps p.tables e below (T0.setTop (mkF m 185 #[.val (.int i0)] [])) t
        refine XS.iconst X0.here hx rfl (hb hby d2_185) ?_
        show Steps p.tables e below (T0.setTop (mkF m 186 #[.val (.int i0)] [(.int (1 : Int32))])) t
        refine XS.goto X0.here hx rfl (pc0 := 186) (pc' := 190) rfl (hb hby d2_186) (by decide) (by decide) ?_
        exact k
      exact doneN (t := .boolean) X0 (by simp) hx hret hlk (hb hby d2_190) ⟨rfl, N0, e0⟩ (by decide) (by decide)
def F2_108 (i0 : Int32) : Int32 := (if i0 < (8304 : Int32) then (F2_122 i0) else (if (8591 : Int32) < i0 then (F2_122 i0) else (1 : Int32)))
set_option maxRecDepth 65536 in
set_option maxHeartbeats 40000000 in
theorem bk2_108 {p : Program} {l : Launch} {e : Env} {s : State} {m : MethodId} {args : Array Value} {below : List Frame} {meth : Method} {c : Code} {T0 : State} {locs : List Loc} {Z : State} {a0 : Array Value} {h0 : Heap} {n0 : Nat}
    (hx : p.tables.exec = Jvm.exec) (hZ : Z.Warmed39 s.vm) (hw : ∀ d ∈ tables_1, d.before a0 Z = true) (hby : c.code = prog_113_method_2_code) (hml : c.maxLocals = 1) (hown : s.vm.findClass "com/example/orbweave/orbweave/term/NameChars" = some m.cls) (hnm : meth.name = "isPnCharsBase") (hret : meth.sig.returnType = some .boolean) (hlk : meth.locks = false)
    (X0 : Stand p l e ({ frames := 0, cells := 0, slots := 0, locals := 0 } : Room) s m args below meth c T0 locs 0 0) (N0 : Fr n0 locs) (e0 : T0.heap = h0) (i0 : Int32) :
    Done p e below s ({ frames := 0, cells := 0, slots := 0, locals := 0 } : Room) (Qp h0 n0 (.int (F2_108 i0))) T0 (mkF m 108 #[.val (.int i0)] []) := by
  unfold F2_108
  refine Done.of (T' := T0) (g' := (mkF m 112 #[.val (.int i0)] [(.int (8304 : Int32)), (.int i0)])) (fun t k => ?_) ?_
  · show Steps p.tables e below (T0.setTop (mkF m 108 #[.val (.int i0)] [])) t
    refine XS.iloadN X0.here hx rfl (hb hby d2_108) rfl ?_
    show Steps p.tables e below (T0.setTop (mkF m 109 #[.val (.int i0)] [(.int i0)])) t
    refine XS.sipush X0.here hx rfl (hb hby d2_109) ?_
    exact k
  by_cases hc112_0 : i0 < (8304 : Int32)
  · rw [if_pos hc112_0]
    refine Done.of (T' := T0) (g' := (mkF m 122 #[.val (.int i0)] [])) (fun t k => ?_) ?_
    · show Steps p.tables e below (T0.setTop (mkF m 112 #[.val (.int i0)] [(.int (8304 : Int32)), (.int i0)])) t
      refine XS.icmpYes X0.here hx rfl (pc0 := 112) (pc' := 122) rfl (hb hby d2_112) rfl (tlt hc112_0).1 (by decide) (by decide) ?_
      exact k
    exact bk2_122 hx hZ hw hby hml hown hnm hret hlk X0 N0 e0 i0
  · rw [if_neg hc112_0]
    refine Done.of (T' := T0) (g' := (mkF m 119 #[.val (.int i0)] [(.int (8591 : Int32)), (.int i0)])) (fun t k => ?_) ?_
    · show Steps p.tables e below (T0.setTop (mkF m 112 #[.val (.int i0)] [(.int (8304 : Int32)), (.int i0)])) t
      refine XS.icmpNo X0.here hx rfl (hb hby d2_112) rfl (flt hc112_0).1 ?_
      show Steps p.tables e below (T0.setTop (mkF m 115 #[.val (.int i0)] [])) t
      refine XS.iloadN X0.here hx rfl (hb hby d2_115) rfl ?_
      show Steps p.tables e below (T0.setTop (mkF m 116 #[.val (.int i0)] [(.int i0)])) t
      refine XS.sipush X0.here hx rfl (hb hby d2_116) ?_
      exact k
    by_cases hc119_1 : (8591 : Int32) < i0
    · rw [if_pos hc119_1]
      refine Done.of (T' := T0) (g' := (mkF m 122 #[.val (.int i0)] [])) (fun t k => ?_) ?_
      · show Steps p.tables e below (T0.setTop (mkF m 119 #[.val (.int i0)] [(.int (8591 : Int32)), (.int i0)])) t
        refine XS.icmpNo X0.here hx rfl (hb hby d2_119) rfl (tlt hc119_1).2.2.2 ?_
        exact k
      exact bk2_122 hx hZ hw hby hml hown hnm hret hlk X0 N0 e0 i0
    · rw [if_neg hc119_1]
      refine Done.of (T' := T0) (g' := (mkF m 190 #[.val (.int i0)] [(.int (1 : Int32))])) (fun t k => ?_) ?_
      · show Steps p.tables e below (T0.setTop (mkF m 119 #[.val (.int i0)] [(.int (8591 : Int32)), (.int i0)])) t
        refine XS.icmpYes X0.here hx rfl (pc0 := 119) (pc' := 185) rfl (hb hby d2_119) rfl (flt hc119_1).2.2.2 (by decide) (by decide) ?_
        show Steps p.tables e below (T0.setTop (mkF m 185 #[.val (.int i0)] [])) t
        refine XS.iconst X0.here hx rfl (hb hby d2_185) ?_
        show Steps p.tables e below (T0.setTop (mkF m 186 #[.val (.int i0)] [(.int (1 : Int32))])) t
        refine XS.goto X0.here hx rfl (pc0 := 186) (pc' := 190) rfl (hb hby d2_186) (by decide) (by decide) ?_
        exact k
      exact doneN (t := .boolean) X0 (by simp) hx hret hlk (hb hby d2_190) ⟨rfl, N0, e0⟩ (by decide) (by decide)
def F2_94 (i0 : Int32) : Int32 := (if i0 < (8204 : Int32) then (F2_108 i0) else (if (8205 : Int32) < i0 then (F2_108 i0) else (1 : Int32)))
set_option maxRecDepth 65536 in
set_option maxHeartbeats 40000000 in
theorem bk2_94 {p : Program} {l : Launch} {e : Env} {s : State} {m : MethodId} {args : Array Value} {below : List Frame} {meth : Method} {c : Code} {T0 : State} {locs : List Loc} {Z : State} {a0 : Array Value} {h0 : Heap} {n0 : Nat}
    (hx : p.tables.exec = Jvm.exec) (hZ : Z.Warmed39 s.vm) (hw : ∀ d ∈ tables_1, d.before a0 Z = true) (hby : c.code = prog_113_method_2_code) (hml : c.maxLocals = 1) (hown : s.vm.findClass "com/example/orbweave/orbweave/term/NameChars" = some m.cls) (hnm : meth.name = "isPnCharsBase") (hret : meth.sig.returnType = some .boolean) (hlk : meth.locks = false)
    (X0 : Stand p l e ({ frames := 0, cells := 0, slots := 0, locals := 0 } : Room) s m args below meth c T0 locs 0 0) (N0 : Fr n0 locs) (e0 : T0.heap = h0) (i0 : Int32) :
    Done p e below s ({ frames := 0, cells := 0, slots := 0, locals := 0 } : Room) (Qp h0 n0 (.int (F2_94 i0))) T0 (mkF m 94 #[.val (.int i0)] []) := by
  unfold F2_94
  refine Done.of (T' := T0) (g' := (mkF m 98 #[.val (.int i0)] [(.int (8204 : Int32)), (.int i0)])) (fun t k => ?_) ?_
  · show Steps p.tables e below (T0.setTop (mkF m 94 #[.val (.int i0)] [])) t
    refine XS.iloadN X0.here hx rfl (hb hby d2_94) rfl ?_
    show Steps p.tables e below (T0.setTop (mkF m 95 #[.val (.int i0)] [(.int i0)])) t
    refine XS.sipush X0.here hx rfl (hb hby d2_95) ?_
    exact k
  by_cases hc98_0 : i0 < (8204 : Int32)
  · rw [if_pos hc98_0]
    refine Done.of (T' := T0) (g' := (mkF m 108 #[.val (.int i0)] [])) (fun t k => ?_) ?_
    · show Steps p.tables e below (T0.setTop (mkF m 98 #[.val (.int i0)] [(.int (8204 : Int32)), (.int i0)])) t
      refine XS.icmpYes X0.here hx rfl (pc0 := 98) (pc' := 108) rfl (hb hby d2_98) rfl (tlt hc98_0).1 (by decide) (by decide) ?_
      exact k
    exact bk2_108 hx hZ hw hby hml hown hnm hret hlk X0 N0 e0 i0
  · rw [if_neg hc98_0]
    refine Done.of (T' := T0) (g' := (mkF m 105 #[.val (.int i0)] [(.int (8205 : Int32)), (.int i0)])) (fun t k => ?_) ?_
    · show Steps p.tables e below (T0.setTop (mkF m 98 #[.val (.int i0)] [(.int (8204 : Int32)), (.int i0)])) t
      refine XS.icmpNo X0.here hx rfl (hb hby d2_98) rfl (flt hc98_0).1 ?_
      show Steps p.tables e below (T0.setTop (mkF m 101 #[.val (.int i0)] [])) t
      refine XS.iloadN X0.here hx rfl (hb hby d2_101) rfl ?_
      show Steps p.tables e below (T0.setTop (mkF m 102 #[.val (.int i0)] [(.int i0)])) t
      refine XS.sipush X0.here hx rfl (hb hby d2_102) ?_
      exact k
    by_cases hc105_1 : (8205 : Int32) < i0
    · rw [if_pos hc105_1]
      refine Done.of (T' := T0) (g' := (mkF m 108 #[.val (.int i0)] [])) (fun t k => ?_) ?_
      · show Steps p.tables e below (T0.setTop (mkF m 105 #[.val (.int i0)] [(.int (8205 : Int32)), (.int i0)])) t
        refine XS.icmpNo X0.here hx rfl (hb hby d2_105) rfl (tlt hc105_1).2.2.2 ?_
        exact k
      exact bk2_108 hx hZ hw hby hml hown hnm hret hlk X0 N0 e0 i0
    · rw [if_neg hc105_1]
      refine Done.of (T' := T0) (g' := (mkF m 190 #[.val (.int i0)] [(.int (1 : Int32))])) (fun t k => ?_) ?_
      · show Steps p.tables e below (T0.setTop (mkF m 105 #[.val (.int i0)] [(.int (8205 : Int32)), (.int i0)])) t
        refine XS.icmpYes X0.here hx rfl (pc0 := 105) (pc' := 185) rfl (hb hby d2_105) rfl (flt hc105_1).2.2.2 (by decide) (by decide) ?_
        show Steps p.tables e below (T0.setTop (mkF m 185 #[.val (.int i0)] [])) t
        refine XS.iconst X0.here hx rfl (hb hby d2_185) ?_
        show Steps p.tables e below (T0.setTop (mkF m 186 #[.val (.int i0)] [(.int (1 : Int32))])) t
        refine XS.goto X0.here hx rfl (pc0 := 186) (pc' := 190) rfl (hb hby d2_186) (by decide) (by decide) ?_
        exact k
      exact doneN (t := .boolean) X0 (by simp) hx hret hlk (hb hby d2_190) ⟨rfl, N0, e0⟩ (by decide) (by decide)
def F2_80 (i0 : Int32) : Int32 := (if i0 < (895 : Int32) then (F2_94 i0) else (if (8191 : Int32) < i0 then (F2_94 i0) else (1 : Int32)))
set_option maxRecDepth 65536 in
set_option maxHeartbeats 40000000 in
theorem bk2_80 {p : Program} {l : Launch} {e : Env} {s : State} {m : MethodId} {args : Array Value} {below : List Frame} {meth : Method} {c : Code} {T0 : State} {locs : List Loc} {Z : State} {a0 : Array Value} {h0 : Heap} {n0 : Nat}
    (hx : p.tables.exec = Jvm.exec) (hZ : Z.Warmed39 s.vm) (hw : ∀ d ∈ tables_1, d.before a0 Z = true) (hby : c.code = prog_113_method_2_code) (hml : c.maxLocals = 1) (hown : s.vm.findClass "com/example/orbweave/orbweave/term/NameChars" = some m.cls) (hnm : meth.name = "isPnCharsBase") (hret : meth.sig.returnType = some .boolean) (hlk : meth.locks = false)
    (X0 : Stand p l e ({ frames := 0, cells := 0, slots := 0, locals := 0 } : Room) s m args below meth c T0 locs 0 0) (N0 : Fr n0 locs) (e0 : T0.heap = h0) (i0 : Int32) :
    Done p e below s ({ frames := 0, cells := 0, slots := 0, locals := 0 } : Room) (Qp h0 n0 (.int (F2_80 i0))) T0 (mkF m 80 #[.val (.int i0)] []) := by
  unfold F2_80
  refine Done.of (T' := T0) (g' := (mkF m 84 #[.val (.int i0)] [(.int (895 : Int32)), (.int i0)])) (fun t k => ?_) ?_
  · show Steps p.tables e below (T0.setTop (mkF m 80 #[.val (.int i0)] [])) t
    refine XS.iloadN X0.here hx rfl (hb hby d2_80) rfl ?_
    show Steps p.tables e below (T0.setTop (mkF m 81 #[.val (.int i0)] [(.int i0)])) t
    refine XS.sipush X0.here hx rfl (hb hby d2_81) ?_
    exact k
  by_cases hc84_0 : i0 < (895 : Int32)
  · rw [if_pos hc84_0]
    refine Done.of (T' := T0) (g' := (mkF m 94 #[.val (.int i0)] [])) (fun t k => ?_) ?_
    · show Steps p.tables e below (T0.setTop (mkF m 84 #[.val (.int i0)] [(.int (895 : Int32)), (.int i0)])) t
      refine XS.icmpYes X0.here hx rfl (pc0 := 84) (pc' := 94) rfl (hb hby d2_84) rfl (tlt hc84_0).1 (by decide) (by decide) ?_
      exact k
    exact bk2_94 hx hZ hw hby hml hown hnm hret hlk X0 N0 e0 i0
  · rw [if_neg hc84_0]
    refine Done.of (T' := T0) (g' := (mkF m 91 #[.val (.int i0)] [(.int (8191 : Int32)), (.int i0)])) (fun t k => ?_) ?_
    · show Steps p.tables e below (T0.setTop (mkF m 84 #[.val (.int i0)] [(.int (895 : Int32)), (.int i0)])) t
      refine XS.icmpNo X0.here hx rfl (hb hby d2_84) rfl (flt hc84_0).1 ?_
      show Steps p.tables e below (T0.setTop (mkF m 87 #[.val (.int i0)] [])) t
      refine XS.iloadN X0.here hx rfl (hb hby d2_87) rfl ?_
      show Steps p.tables e below (T0.setTop (mkF m 88 #[.val (.int i0)] [(.int i0)])) t
      refine XS.sipush X0.here hx rfl (hb hby d2_88) ?_
      exact k
    by_cases hc91_1 : (8191 : Int32) < i0
    · rw [if_pos hc91_1]
      refine Done.of (T' := T0) (g' := (mkF m 94 #[.val (.int i0)] [])) (fun t k => ?_) ?_
      · show Steps p.tables e below (T0.setTop (mkF m 91 #[.val (.int i0)] [(.int (8191 : Int32)), (.int i0)])) t
        refine XS.icmpNo X0.here hx rfl (hb hby d2_91) rfl (tlt hc91_1).2.2.2 ?_
        exact k
      exact bk2_94 hx hZ hw hby hml hown hnm hret hlk X0 N0 e0 i0
    · rw [if_neg hc91_1]
      refine Done.of (T' := T0) (g' := (mkF m 190 #[.val (.int i0)] [(.int (1 : Int32))])) (fun t k => ?_) ?_
      · show Steps p.tables e below (T0.setTop (mkF m 91 #[.val (.int i0)] [(.int (8191 : Int32)), (.int i0)])) t
        refine XS.icmpYes X0.here hx rfl (pc0 := 91) (pc' := 185) rfl (hb hby d2_91) rfl (flt hc91_1).2.2.2 (by decide) (by decide) ?_
        show Steps p.tables e below (T0.setTop (mkF m 185 #[.val (.int i0)] [])) t
        refine XS.iconst X0.here hx rfl (hb hby d2_185) ?_
        show Steps p.tables e below (T0.setTop (mkF m 186 #[.val (.int i0)] [(.int (1 : Int32))])) t
        refine XS.goto X0.here hx rfl (pc0 := 186) (pc' := 190) rfl (hb hby d2_186) (by decide) (by decide) ?_
        exact k
      exact doneN (t := .boolean) X0 (by simp) hx hret hlk (hb hby d2_190) ⟨rfl, N0, e0⟩ (by decide) (by decide)
def F2_66 (i0 : Int32) : Int32 := (if i0 < (880 : Int32) then (F2_80 i0) else (if (893 : Int32) < i0 then (F2_80 i0) else (1 : Int32)))
set_option maxRecDepth 65536 in
set_option maxHeartbeats 40000000 in
theorem bk2_66 {p : Program} {l : Launch} {e : Env} {s : State} {m : MethodId} {args : Array Value} {below : List Frame} {meth : Method} {c : Code} {T0 : State} {locs : List Loc} {Z : State} {a0 : Array Value} {h0 : Heap} {n0 : Nat}
    (hx : p.tables.exec = Jvm.exec) (hZ : Z.Warmed39 s.vm) (hw : ∀ d ∈ tables_1, d.before a0 Z = true) (hby : c.code = prog_113_method_2_code) (hml : c.maxLocals = 1) (hown : s.vm.findClass "com/example/orbweave/orbweave/term/NameChars" = some m.cls) (hnm : meth.name = "isPnCharsBase") (hret : meth.sig.returnType = some .boolean) (hlk : meth.locks = false)
    (X0 : Stand p l e ({ frames := 0, cells := 0, slots := 0, locals := 0 } : Room) s m args below meth c T0 locs 0 0) (N0 : Fr n0 locs) (e0 : T0.heap = h0) (i0 : Int32) :
    Done p e below s ({ frames := 0, cells := 0, slots := 0, locals := 0 } : Room) (Qp h0 n0 (.int (F2_66 i0))) T0 (mkF m 66 #[.val (.int i0)] []) := by
  unfold F2_66
  refine Done.of (T' := T0) (g' := (mkF m 70 #[.val (.int i0)] [(.int (880 : Int32)), (.int i0)])) (fun t k => ?_) ?_
  · show Steps p.tables e below (T0.setTop (mkF m 66 #[.val (.int i0)] [])) t
    refine XS.iloadN X0.here hx rfl (hb hby d2_66) rfl ?_
    show Steps p.tables e below (T0.setTop (mkF m 67 #[.val (.int i0)] [(.int i0)])) t
    refine XS.sipush X0.here hx rfl (hb hby d2_67) ?_
    exact k
  by_cases hc70_0 : i0 < (880 : Int32)
  · rw [if_pos hc70_0]
    refine Done.of (T' := T0) (g' := (mkF m 80 #[.val (.int i0)] [])) (fun t k => ?_) ?_
    · show Steps p.tables e below (T0.setTop (mkF m 70 #[.val (.int i0)] [(.int (880 : Int32)), (.int i0)])) t
      refine XS.icmpYes X0.here hx rfl (pc0 := 70) (pc' := 80) rfl (hb hby d2_70) rfl (tlt hc70_0).1 (by decide) (by decide) ?_
      exact k
    exact bk2_80 hx hZ hw hby hml hown hnm hret hlk X0 N0 e0 i0
  · rw [if_neg hc70_0]
    refine Done.of (T' := T0) (g' := (mkF m 77 #[.val (.int i0)] [(.int (893 : Int32)), (.int i0)])) (fun t k => ?_) ?_
    · show Steps p.tables e below (T0.setTop (mkF m 70 #[.val (.int i0)] [(.int (880 : Int32)), (.int i0)])) t
      refine XS.icmpNo X0.here hx rfl (hb hby d2_70) rfl (flt hc70_0).1 ?_
      show Steps p.tables e below (T0.setTop (mkF m 73 #[.val (.int i0)] [])) t
      refine XS.iloadN X0.here hx rfl (hb hby d2_73) rfl ?_
      show Steps p.tables e below (T0.setTop (mkF m 74 #[.val (.int i0)] [(.int i0)])) t
      refine XS.sipush X0.here hx rfl (hb hby d2_74) ?_
      exact k
    by_cases hc77_1 : (893 : Int32) < i0
    · rw [if_pos hc77_1]
      refine Done.of (T' := T0) (g' := (mkF m 80 #[.val (.int i0)] [])) (fun t k => ?_) ?_
      · show Steps p.tables e below (T0.setTop (mkF m 77 #[.val (.int i0)] [(.int (893 : Int32)), (.int i0)])) t
        refine XS.icmpNo X0.here hx rfl (hb hby d2_77) rfl (tlt hc77_1).2.2.2 ?_
        exact k
      exact bk2_80 hx hZ hw hby hml hown hnm hret hlk X0 N0 e0 i0
    · rw [if_neg hc77_1]
      refine Done.of (T' := T0) (g' := (mkF m 190 #[.val (.int i0)] [(.int (1 : Int32))])) (fun t k => ?_) ?_
      · show Steps p.tables e below (T0.setTop (mkF m 77 #[.val (.int i0)] [(.int (893 : Int32)), (.int i0)])) t
        refine XS.icmpYes X0.here hx rfl (pc0 := 77) (pc' := 185) rfl (hb hby d2_77) rfl (flt hc77_1).2.2.2 (by decide) (by decide) ?_
        show Steps p.tables e below (T0.setTop (mkF m 185 #[.val (.int i0)] [])) t
        refine XS.iconst X0.here hx rfl (hb hby d2_185) ?_
        show Steps p.tables e below (T0.setTop (mkF m 186 #[.val (.int i0)] [(.int (1 : Int32))])) t
        refine XS.goto X0.here hx rfl (pc0 := 186) (pc' := 190) rfl (hb hby d2_186) (by decide) (by decide) ?_
        exact k
      exact doneN (t := .boolean) X0 (by simp) hx hret hlk (hb hby d2_190) ⟨rfl, N0, e0⟩ (by decide) (by decide)
def F2_52 (i0 : Int32) : Int32 := (if i0 < (248 : Int32) then (F2_66 i0) else (if (767 : Int32) < i0 then (F2_66 i0) else (1 : Int32)))
set_option maxRecDepth 65536 in
set_option maxHeartbeats 40000000 in
theorem bk2_52 {p : Program} {l : Launch} {e : Env} {s : State} {m : MethodId} {args : Array Value} {below : List Frame} {meth : Method} {c : Code} {T0 : State} {locs : List Loc} {Z : State} {a0 : Array Value} {h0 : Heap} {n0 : Nat}
    (hx : p.tables.exec = Jvm.exec) (hZ : Z.Warmed39 s.vm) (hw : ∀ d ∈ tables_1, d.before a0 Z = true) (hby : c.code = prog_113_method_2_code) (hml : c.maxLocals = 1) (hown : s.vm.findClass "com/example/orbweave/orbweave/term/NameChars" = some m.cls) (hnm : meth.name = "isPnCharsBase") (hret : meth.sig.returnType = some .boolean) (hlk : meth.locks = false)
    (X0 : Stand p l e ({ frames := 0, cells := 0, slots := 0, locals := 0 } : Room) s m args below meth c T0 locs 0 0) (N0 : Fr n0 locs) (e0 : T0.heap = h0) (i0 : Int32) :
    Done p e below s ({ frames := 0, cells := 0, slots := 0, locals := 0 } : Room) (Qp h0 n0 (.int (F2_52 i0))) T0 (mkF m 52 #[.val (.int i0)] []) := by
  unfold F2_52
  refine Done.of (T' := T0) (g' := (mkF m 56 #[.val (.int i0)] [(.int (248 : Int32)), (.int i0)])) (fun t k => ?_) ?_
  · show Steps p.tables e below (T0.setTop (mkF m 52 #[.val (.int i0)] [])) t
    refine XS.iloadN X0.here hx rfl (hb hby d2_52) rfl ?_
    show Steps p.tables e below (T0.setTop (mkF m 53 #[.val (.int i0)] [(.int i0)])) t
    refine XS.sipush X0.here hx rfl (hb hby d2_53) ?_
    exact k
  by_cases hc56_0 : i0 < (248 : Int32)
  · rw [if_pos hc56_0]
    refine Done.of (T' := T0) (g' := (mkF m 66 #[.val (.int i0)] [])) (fun t k => ?_) ?_
    · show Steps p.tables e below (T0.setTop (mkF m 56 #[.val (.int i0)] [(.int (248 : Int32)), (.int i0)])) t
      refine XS.icmpYes X0.here hx rfl (pc0 := 56) (pc' := 66) rfl (hb hby d2_56) rfl (tlt hc56_0).1 (by decide) (by decide) ?_
      exact k
    exact bk2_66 hx hZ hw hby hml hown hnm hret hlk X0 N0 e0 i0
  · rw [if_neg hc56_0]
    refine Done.of (T' := T0) (g' := (mkF m 63 #[.val (.int i0)] [(.int (767 : Int32)), (.int i0)])) (fun t k => ?_) ?_
    · show Steps p.tables e below (T0.setTop (mkF m 56 #[.val (.int i0)] [(.int (248 : Int32)), (.int i0)])) t
      refine XS.icmpNo X0.here hx rfl (hb hby d2_56) rfl (flt hc56_0).1 ?_
      show Steps p.tables e below (T0.setTop (mkF m 59 #[.val (.int i0)] [])) t
      refine XS.iloadN X0.here hx rfl (hb hby d2_59) rfl ?_
      show Steps p.tables e below (T0.setTop (mkF m 60 #[.val (.int i0)] [(.int i0)])) t
      refine XS.sipush X0.here hx rfl (hb hby d2_60) ?_
      exact k
    by_cases hc63_1 : (767 : Int32) < i0
    · rw [if_pos hc63_1]
      refine Done.of (T' := T0) (g' := (mkF m 66 #[.val (.int i0)] [])) (fun t k => ?_) ?_
      · show Steps p.tables e below (T0.setTop (mkF m 63 #[.val (.int i0)] [(.int (767 : Int32)), (.int i0)])) t
        refine XS.icmpNo X0.here hx rfl (hb hby d2_63) rfl (tlt hc63_1).2.2.2 ?_
        exact k
      exact bk2_66 hx hZ hw hby hml hown hnm hret hlk X0 N0 e0 i0
    · rw [if_neg hc63_1]
      refine Done.of (T' := T0) (g' := (mkF m 190 #[.val (.int i0)] [(.int (1 : Int32))])) (fun t k => ?_) ?_
      · show Steps p.tables e below (T0.setTop (mkF m 63 #[.val (.int i0)] [(.int (767 : Int32)), (.int i0)])) t
        refine XS.icmpYes X0.here hx rfl (pc0 := 63) (pc' := 185) rfl (hb hby d2_63) rfl (flt hc63_1).2.2.2 (by decide) (by decide) ?_
        show Steps p.tables e below (T0.setTop (mkF m 185 #[.val (.int i0)] [])) t
        refine XS.iconst X0.here hx rfl (hb hby d2_185) ?_
        show Steps p.tables e below (T0.setTop (mkF m 186 #[.val (.int i0)] [(.int (1 : Int32))])) t
        refine XS.goto X0.here hx rfl (pc0 := 186) (pc' := 190) rfl (hb hby d2_186) (by decide) (by decide) ?_
        exact k
      exact doneN (t := .boolean) X0 (by simp) hx hret hlk (hb hby d2_190) ⟨rfl, N0, e0⟩ (by decide) (by decide)
def F2_38 (i0 : Int32) : Int32 := (if i0 < (216 : Int32) then (F2_52 i0) else (if (246 : Int32) < i0 then (F2_52 i0) else (1 : Int32)))
set_option maxRecDepth 65536 in
set_option maxHeartbeats 40000000 in
theorem bk2_38 {p : Program} {l : Launch} {e : Env} {s : State} {m : MethodId} {args : Array Value} {below : List Frame} {meth : Method} {c : Code} {T0 : State} {locs : List Loc} {Z : State} {a0 : Array Value} {h0 : Heap} {n0 : Nat}
    (hx : p.tables.exec = Jvm.exec) (hZ : Z.Warmed39 s.vm) (hw : ∀ d ∈ tables_1, d.before a0 Z = true) (hby : c.code = prog_113_method_2_code) (hml : c.maxLocals = 1) (hown : s.vm.findClass "com/example/orbweave/orbweave/term/NameChars" = some m.cls) (hnm : meth.name = "isPnCharsBase") (hret : meth.sig.returnType = some .boolean) (hlk : meth.locks = false)
    (X0 : Stand p l e ({ frames := 0, cells := 0, slots := 0, locals := 0 } : Room) s m args below meth c T0 locs 0 0) (N0 : Fr n0 locs) (e0 : T0.heap = h0) (i0 : Int32) :
    Done p e below s ({ frames := 0, cells := 0, slots := 0, locals := 0 } : Room) (Qp h0 n0 (.int (F2_38 i0))) T0 (mkF m 38 #[.val (.int i0)] []) := by
  unfold F2_38
  refine Done.of (T' := T0) (g' := (mkF m 42 #[.val (.int i0)] [(.int (216 : Int32)), (.int i0)])) (fun t k => ?_) ?_
  · show Steps p.tables e below (T0.setTop (mkF m 38 #[.val (.int i0)] [])) t
    refine XS.iloadN X0.here hx rfl (hb hby d2_38) rfl ?_
    show Steps p.tables e below (T0.setTop (mkF m 39 #[.val (.int i0)] [(.int i0)])) t
    refine XS.sipush X0.here hx rfl (hb hby d2_39) ?_
    exact k
  by_cases hc42_0 : i0 < (216 : Int32)
  · rw [if_pos hc42_0]
    refine Done.of (T' := T0) (g' := (mkF m 52 #[.val (.int i0)] [])) (fun t k => ?_) ?_
    · show Steps p.tables e below (T0.setTop (mkF m 42 #[.val (.int i0)] [(.int (216 : Int32)), (.int i0)])) t
      refine XS.icmpYes X0.here hx rfl (pc0 := 42) (pc' := 52) rfl (hb hby d2_42) rfl (tlt hc42_0).1 (by decide) (by decide) ?_
      exact k
    exact bk2_52 hx hZ hw hby hml hown hnm hret hlk X0 N0 e0 i0
  · rw [if_neg hc42_0]
    refine Done.of (T' := T0) (g' := (mkF m 49 #[.val (.int i0)] [(.int (246 : Int32)), (.int i0)])) (fun t k => ?_) ?_
    · show Steps p.tables e below (T0.setTop (mkF m 42 #[.val (.int i0)] [(.int (216 : Int32)), (.int i0)])) t
      refine XS.icmpNo X0.here hx rfl (hb hby d2_42) rfl (flt hc42_0).1 ?_
      show Steps p.tables e below (T0.setTop (mkF m 45 #[.val (.int i0)] [])) t
      refine XS.iloadN X0.here hx rfl (hb hby d2_45) rfl ?_
      show Steps p.tables e below (T0.setTop (mkF m 46 #[.val (.int i0)] [(.int i0)])) t
      refine XS.sipush X0.here hx rfl (hb hby d2_46) ?_
      exact k
    by_cases hc49_1 : (246 : Int32) < i0
    · rw [if_pos hc49_1]
      refine Done.of (T' := T0) (g' := (mkF m 52 #[.val (.int i0)] [])) (fun t k => ?_) ?_
      · show Steps p.tables e below (T0.setTop (mkF m 49 #[.val (.int i0)] [(.int (246 : Int32)), (.int i0)])) t
        refine XS.icmpNo X0.here hx rfl (hb hby d2_49) rfl (tlt hc49_1).2.2.2 ?_
        exact k
      exact bk2_52 hx hZ hw hby hml hown hnm hret hlk X0 N0 e0 i0
    · rw [if_neg hc49_1]
      refine Done.of (T' := T0) (g' := (mkF m 190 #[.val (.int i0)] [(.int (1 : Int32))])) (fun t k => ?_) ?_
      · show Steps p.tables e below (T0.setTop (mkF m 49 #[.val (.int i0)] [(.int (246 : Int32)), (.int i0)])) t
        refine XS.icmpYes X0.here hx rfl (pc0 := 49) (pc' := 185) rfl (hb hby d2_49) rfl (flt hc49_1).2.2.2 (by decide) (by decide) ?_
        show Steps p.tables e below (T0.setTop (mkF m 185 #[.val (.int i0)] [])) t
        refine XS.iconst X0.here hx rfl (hb hby d2_185) ?_
        show Steps p.tables e below (T0.setTop (mkF m 186 #[.val (.int i0)] [(.int (1 : Int32))])) t
        refine XS.goto X0.here hx rfl (pc0 := 186) (pc' := 190) rfl (hb hby d2_186) (by decide) (by decide) ?_
        exact k
      exact doneN (t := .boolean) X0 (by simp) hx hret hlk (hb hby d2_190) ⟨rfl, N0, e0⟩ (by decide) (by decide)
def F2_24 (i0 : Int32) : Int32 := (if i0 < (192 : Int32) then (F2_38 i0) else (if (214 : Int32) < i0 then (F2_38 i0) else (1 : Int32)))
set_option maxRecDepth 65536 in
set_option maxHeartbeats 40000000 in
theorem bk2_24 {p : Program} {l : Launch} {e : Env} {s : State} {m : MethodId} {args : Array Value} {below : List Frame} {meth : Method} {c : Code} {T0 : State} {locs : List Loc} {Z : State} {a0 : Array Value} {h0 : Heap} {n0 : Nat}
    (hx : p.tables.exec = Jvm.exec) (hZ : Z.Warmed39 s.vm) (hw : ∀ d ∈ tables_1, d.before a0 Z = true) (hby : c.code = prog_113_method_2_code) (hml : c.maxLocals = 1) (hown : s.vm.findClass "com/example/orbweave/orbweave/term/NameChars" = some m.cls) (hnm : meth.name = "isPnCharsBase") (hret : meth.sig.returnType = some .boolean) (hlk : meth.locks = false)
    (X0 : Stand p l e ({ frames := 0, cells := 0, slots := 0, locals := 0 } : Room) s m args below meth c T0 locs 0 0) (N0 : Fr n0 locs) (e0 : T0.heap = h0) (i0 : Int32) :
    Done p e below s ({ frames := 0, cells := 0, slots := 0, locals := 0 } : Room) (Qp h0 n0 (.int (F2_24 i0))) T0 (mkF m 24 #[.val (.int i0)] []) := by
  unfold F2_24
  refine Done.of (T' := T0) (g' := (mkF m 28 #[.val (.int i0)] [(.int (192 : Int32)), (.int i0)])) (fun t k => ?_) ?_
  · show Steps p.tables e below (T0.setTop (mkF m 24 #[.val (.int i0)] [])) t
    refine XS.iloadN X0.here hx rfl (hb hby d2_24) rfl ?_
    show Steps p.tables e below (T0.setTop (mkF m 25 #[.val (.int i0)] [(.int i0)])) t
    refine XS.sipush X0.here hx rfl (hb hby d2_25) ?_
    exact k
  by_cases hc28_0 : i0 < (192 : Int32)
  · rw [if_pos hc28_0]
    refine Done.of (T' := T0) (g' := (mkF m 38 #[.val (.int i0)] [])) (fun t k => ?_) ?_
    · show Steps p.tables e below (T0.setTop (mkF m 28 #[.val (.int i0)] [(.int (192 : Int32)), (.int i0)])) t
      refine XS.icmpYes X0.here hx rfl (pc0 := 28) (pc' := 38) rfl (hb hby d2_28) rfl (tlt hc28_0).1 (by decide) (by decide) ?_
      exact k
    exact bk2_38 hx hZ hw hby hml hown hnm hret hlk X0 N0 e0 i0
  · rw [if_neg hc28_0]
    refine Done.of (T' := T0) (g' := (mkF m 35 #[.val (.int i0)] [(.int (214 : Int32)), (.int i0)])) (fun t k => ?_) ?_
    · show Steps p.tables e below (T0.setTop (mkF m 28 #[.val (.int i0)] [(.int (192 : Int32)), (.int i0)])) t
      refine XS.icmpNo X0.here hx rfl (hb hby d2_28) rfl (flt hc28_0).1 ?_
      show Steps p.tables e below (T0.setTop (mkF m 31 #[.val (.int i0)] [])) t
      refine XS.iloadN X0.here hx rfl (hb hby d2_31) rfl ?_
      show Steps p.tables e below (T0.setTop (mkF m 32 #[.val (.int i0)] [(.int i0)])) t
      refine XS.sipush X0.here hx rfl (hb hby d2_32) ?_
      exact k
    by_cases hc35_1 : (214 : Int32) < i0
    · rw [if_pos hc35_1]
      refine Done.of (T' := T0) (g' := (mkF m 38 #[.val (.int i0)] [])) (fun t k => ?_) ?_
      · show Steps p.tables e below (T0.setTop (mkF m 35 #[.val (.int i0)] [(.int (214 : Int32)), (.int i0)])) t
        refine XS.icmpNo X0.here hx rfl (hb hby d2_35) rfl (tlt hc35_1).2.2.2 ?_
        exact k
      exact bk2_38 hx hZ hw hby hml hown hnm hret hlk X0 N0 e0 i0
    · rw [if_neg hc35_1]
      refine Done.of (T' := T0) (g' := (mkF m 190 #[.val (.int i0)] [(.int (1 : Int32))])) (fun t k => ?_) ?_
      · show Steps p.tables e below (T0.setTop (mkF m 35 #[.val (.int i0)] [(.int (214 : Int32)), (.int i0)])) t
        refine XS.icmpYes X0.here hx rfl (pc0 := 35) (pc' := 185) rfl (hb hby d2_35) rfl (flt hc35_1).2.2.2 (by decide) (by decide) ?_
        show Steps p.tables e below (T0.setTop (mkF m 185 #[.val (.int i0)] [])) t
        refine XS.iconst X0.here hx rfl (hb hby d2_185) ?_
        show Steps p.tables e below (T0.setTop (mkF m 186 #[.val (.int i0)] [(.int (1 : Int32))])) t
        refine XS.goto X0.here hx rfl (pc0 := 186) (pc' := 190) rfl (hb hby d2_186) (by decide) (by decide) ?_
        exact k
      exact doneN (t := .boolean) X0 (by simp) hx hret hlk (hb hby d2_190) ⟨rfl, N0, e0⟩ (by decide) (by decide)
def F2_12 (i0 : Int32) : Int32 := (if i0 < (97 : Int32) then (F2_24 i0) else (if (122 : Int32) < i0 then (F2_24 i0) else (1 : Int32)))
set_option maxRecDepth 65536 in
set_option maxHeartbeats 40000000 in
theorem bk2_12 {p : Program} {l : Launch} {e : Env} {s : State} {m : MethodId} {args : Array Value} {below : List Frame} {meth : Method} {c : Code} {T0 : State} {locs : List Loc} {Z : State} {a0 : Array Value} {h0 : Heap} {n0 : Nat}
    (hx : p.tables.exec = Jvm.exec) (hZ : Z.Warmed39 s.vm) (hw : ∀ d ∈ tables_1, d.before a0 Z = true) (hby : c.code = prog_113_method_2_code) (hml : c.maxLocals = 1) (hown : s.vm.findClass "com/example/orbweave/orbweave/term/NameChars" = some m.cls) (hnm : meth.name = "isPnCharsBase") (hret : meth.sig.returnType = some .boolean) (hlk : meth.locks = false)
    (X0 : Stand p l e ({ frames := 0, cells := 0, slots := 0, locals := 0 } : Room) s m args below meth c T0 locs 0 0) (N0 : Fr n0 locs) (e0 : T0.heap = h0) (i0 : Int32) :
    Done p e below s ({ frames := 0, cells := 0, slots := 0, locals := 0 } : Room) (Qp h0 n0 (.int (F2_12 i0))) T0 (mkF m 12 #[.val (.int i0)] []) := by
  unfold F2_12
  refine Done.of (T' := T0) (g' := (mkF m 15 #[.val (.int i0)] [(.int (97 : Int32)), (.int i0)])) (fun t k => ?_) ?_
  · show Steps p.tables e below (T0.setTop (mkF m 12 #[.val (.int i0)] [])) t
    refine XS.iloadN X0.here hx rfl (hb hby d2_12) rfl ?_
    show Steps p.tables e below (T0.setTop (mkF m 13 #[.val (.int i0)] [(.int i0)])) t
    refine XS.bipush X0.here hx rfl (hb hby d2_13) ?_
    exact k
  by_cases hc15_0 : i0 < (97 : Int32)
  · rw [if_pos hc15_0]
    refine Done.of (T' := T0) (g' := (mkF m 24 #[.val (.int i0)] [])) (fun t k => ?_) ?_
    · show Steps p.tables e below (T0.setTop (mkF m 15 #[.val (.int i0)] [(.int (97 : Int32)), (.int i0)])) t
      refine XS.icmpYes X0.here hx rfl (pc0 := 15) (pc' := 24) rfl (hb hby d2_15) rfl (tlt hc15_0).1 (by decide) (by decide) ?_
      exact k
    exact bk2_24 hx hZ hw hby hml hown hnm hret hlk X0 N0 e0 i0
  · rw [if_neg hc15_0]
    refine Done.of (T' := T0) (g' := (mkF m 21 #[.val (.int i0)] [(.int (122 : Int32)), (.int i0)])) (fun t k => ?_) ?_
    · show Steps p.tables e below (T0.setTop (mkF m 15 #[.val (.int i0)] [(.int (97 : Int32)), (.int i0)])) t
      refine XS.icmpNo X0.here hx rfl (hb hby d2_15) rfl (flt hc15_0).1 ?_
      show Steps p.tables e below (T0.setTop (mkF m 18 #[.val (.int i0)] [])) t
      refine XS.iloadN X0.here hx rfl (hb hby d2_18) rfl ?_
      show Steps p.tables e below (T0.setTop (mkF m 19 #[.val (.int i0)] [(.int i0)])) t
      refine XS.bipush X0.here hx rfl (hb hby d2_19) ?_
      exact k
    by_cases hc21_1 : (122 : Int32) < i0
    · rw [if_pos hc21_1]
      refine Done.of (T' := T0) (g' := (mkF m 24 #[.val (.int i0)] [])) (fun t k => ?_) ?_
      · show Steps p.tables e below (T0.setTop (mkF m 21 #[.val (.int i0)] [(.int (122 : Int32)), (.int i0)])) t
        refine XS.icmpNo X0.here hx rfl (hb hby d2_21) rfl (tlt hc21_1).2.2.2 ?_
        exact k
      exact bk2_24 hx hZ hw hby hml hown hnm hret hlk X0 N0 e0 i0
    · rw [if_neg hc21_1]
      refine Done.of (T' := T0) (g' := (mkF m 190 #[.val (.int i0)] [(.int (1 : Int32))])) (fun t k => ?_) ?_
      · show Steps p.tables e below (T0.setTop (mkF m 21 #[.val (.int i0)] [(.int (122 : Int32)), (.int i0)])) t
        refine XS.icmpYes X0.here hx rfl (pc0 := 21) (pc' := 185) rfl (hb hby d2_21) rfl (flt hc21_1).2.2.2 (by decide) (by decide) ?_
        show Steps p.tables e below (T0.setTop (mkF m 185 #[.val (.int i0)] [])) t
        refine XS.iconst X0.here hx rfl (hb hby d2_185) ?_
        show Steps p.tables e below (T0.setTop (mkF m 186 #[.val (.int i0)] [(.int (1 : Int32))])) t
        refine XS.goto X0.here hx rfl (pc0 := 186) (pc' := 190) rfl (hb hby d2_186) (by decide) (by decide) ?_
        exact k
      exact doneN (t := .boolean) X0 (by simp) hx hret hlk (hb hby d2_190) ⟨rfl, N0, e0⟩ (by decide) (by decide)
def F2_0 (p1 : Int32) : Int32 := (if p1 < (65 : Int32) then (F2_12 p1) else (if (90 : Int32) < p1 then (F2_12 p1) else (1 : Int32)))
set_option maxRecDepth 65536 in
set_option maxHeartbeats 40000000 in
theorem bk2_0 {p : Program} {l : Launch} {e : Env} {s : State} {m : MethodId} {args : Array Value} {below : List Frame} {meth : Method} {c : Code} {T0 : State} {locs : List Loc} {Z : State} {a0 : Array Value} {h0 : Heap} {n0 : Nat}
    (hx : p.tables.exec = Jvm.exec) (hZ : Z.Warmed39 s.vm) (hw : ∀ d ∈ tables_1, d.before a0 Z = true) (hby : c.code = prog_113_method_2_code) (hml : c.maxLocals = 1) (hown : s.vm.findClass "com/example/orbweave/orbweave/term/NameChars" = some m.cls) (hnm : meth.name = "isPnCharsBase") (hret : meth.sig.returnType = some .boolean) (hlk : meth.locks = false)
    (X0 : Stand p l e ({ frames := 0, cells := 0, slots := 0, locals := 0 } : Room) s m args below meth c T0 locs 0 0) (N0 : Fr n0 locs) (e0 : T0.heap = h0) (p1 : Int32) :
    Done p e below s ({ frames := 0, cells := 0, slots := 0, locals := 0 } : Room) (Qp h0 n0 (.int (F2_0 p1))) T0 (mkF m 0 #[.val (.int p1)] []) := by
  unfold F2_0
  refine Done.of (T' := T0) (g' := (mkF m 3 #[.val (.int p1)] [(.int (65 : Int32)), (.int p1)])) (fun t k => ?_) ?_
  · show Steps p.tables e below (T0.setTop (mkF m 0 #[.val (.int p1)] [])) t
    refine XS.iloadN X0.here hx rfl (hb hby d2_0) rfl ?_
    show Steps p.tables e below (T0.setTop (mkF m 1 #[.val (.int p1)] [(.int p1)])) t
    refine XS.bipush X0.here hx rfl (hb hby d2_1) ?_
    exact k
  by_cases hc3_0 : p1 < (65 : Int32)
  · rw [if_pos hc3_0]
    refine Done.of (T' := T0) (g' := (mkF m 12 #[.val (.int p1)] [])) (fun t k => ?_) ?_
    · show Steps p.tables e below (T0.setTop (mkF m 3 #[.val (.int p1)] [(.int (65 : Int32)), (.int p1)])) t
      refine XS.icmpYes X0.here hx rfl (pc0 := 3) (pc' := 12) rfl (hb hby d2_3) rfl (tlt hc3_0).1 (by decide) (by decide) ?_
      exact k
    exact bk2_12 hx hZ hw hby hml hown hnm hret hlk X0 N0 e0 p1
  · rw [if_neg hc3_0]
    refine Done.of (T' := T0) (g' := (mkF m 9 #[.val (.int p1)] [(.int (90 : Int32)), (.int p1)])) (fun t k => ?_) ?_
    · show Steps p.tables e below (T0.setTop (mkF m 3 #[.val (.int p1)] [(.int (65 : Int32)), (.int p1)])) t
      refine XS.icmpNo X0.here hx rfl (hb hby d2_3) rfl (flt hc3_0).1 ?_
      show Steps p.tables e below (T0.setTop (mkF m 6 #[.val (.int p1)] [])) t
      refine XS.iloadN X0.here hx rfl (hb hby d2_6) rfl ?_
      show Steps p.tables e below (T0.setTop (mkF m 7 #[.val (.int p1)] [(.int p1)])) t
      refine XS.bipush X0.here hx rfl (hb hby d2_7) ?_
      exact k
    by_cases hc9_1 : (90 : Int32) < p1
    · rw [if_pos hc9_1]
      refine Done.of (T' := T0) (g' := (mkF m 12 #[.val (.int p1)] [])) (fun t k => ?_) ?_
      · show Steps p.tables e below (T0.setTop (mkF m 9 #[.val (.int p1)] [(.int (90 : Int32)), (.int p1)])) t
        refine XS.icmpNo X0.here hx rfl (hb hby d2_9) rfl (tlt hc9_1).2.2.2 ?_
        exact k
      exact bk2_12 hx hZ hw hby hml hown hnm hret hlk X0 N0 e0 p1
    · rw [if_neg hc9_1]
      refine Done.of (T' := T0) (g' := (mkF m 190 #[.val (.int p1)] [(.int (1 : Int32))])) (fun t k => ?_) ?_
      · show Steps p.tables e below (T0.setTop (mkF m 9 #[.val (.int p1)] [(.int (90 : Int32)), (.int p1)])) t
        refine XS.icmpYes X0.here hx rfl (pc0 := 9) (pc' := 185) rfl (hb hby d2_9) rfl (flt hc9_1).2.2.2 (by decide) (by decide) ?_
        show Steps p.tables e below (T0.setTop (mkF m 185 #[.val (.int p1)] [])) t
        refine XS.iconst X0.here hx rfl (hb hby d2_185) ?_
        show Steps p.tables e below (T0.setTop (mkF m 186 #[.val (.int p1)] [(.int (1 : Int32))])) t
        refine XS.goto X0.here hx rfl (pc0 := 186) (pc' := 190) rfl (hb hby d2_186) (by decide) (by decide) ?_
        exact k
      exact doneN (t := .boolean) X0 (by simp) hx hret hlk (hb hby d2_190) ⟨rfl, N0, e0⟩ (by decide) (by decide)
theorem ef_2 (m : MethodId) (p1 : Int32) : entryFrame m #[(.int p1)] 1 = mkF m 0 #[.val (.int p1)] [] := by first | (simp [entryFrame, mkF, argsToLocals, Value.category, maxLocals]; done) | rfl
theorem pn_2 : plainName "com/example/orbweave/orbweave/term/NameChars" = true := by first | (simp [plainName, overriddenIn]; done) | decide +kernel
set_option maxRecDepth 65536 in
set_option maxHeartbeats 40000000 in
theorem rm2 (l : Launch) (Z : State) (a0 : Array Value) (hw : ∀ d ∈ tables_1, d.before a0 Z = true) (ws : List Jvm.Cond) (p1 : Int32) (h0 : Heap) (n0 : Nat) :
    MetFree l (⟨"com/example/orbweave/orbweave/term/NameChars", "isPnCharsBase", "(I)Z"⟩ : MethodName) (head1 (Jvm.Cond.code (⟨"com/example/orbweave/orbweave/term/NameChars", "isPnCharsBase", "(I)Z"⟩ : MethodName) prog_113_method_2_code 1 (some .boolean) :: ws) ({ frames := 0, cells := 0, slots := 0, locals := 0 } : Room)) (fun a U => a = #[(.int p1)] ∧ Z.Warmed39 U.vm ∧ U.heap = h0) (fun _ _ _ _ _ => True) (fun _ U o U' => ∃ v L, o = .returned v ∧ (Qp h0 n0 (.int (F2_0 p1))) v U'.heap L ∧ FrameEnd U o U' L ({ frames := 0, cells := 0, slots := 0, locals := 0 } : Room).cells ({ frames := 0, cells := 0, slots := 0, locals := 0 } : Room).slots) := by
  refine MetFree.of_bodySF (plainFor_of_name pn_2) hisR ?_
  intro p e s m args below meth c s₁ Bd hml0 hP hK
  obtain ⟨rfl, hZ, hh⟩ := hP
  have hown : s.vm.findClass "com/example/orbweave/orbweave/term/NameChars" = some m.cls := findClass_of_methodNamed Bd.named
  have hnm := (name_of_methodNamed Bd.named Bd.method).1
  have X0 : Stand p l e ({ frames := 0, cells := 0, slots := 0, locals := 0 } : Room) s m #[(.int p1)] below meth c s₁ [] 0 0 := Stand.of_body Bd
  have e0 : s₁.heap = h0 := by rw [← hh, Bd.state]; rfl
  have d := bk2_0 (n0 := n0) Bd.exec hZ hw Bd.bytes hml0 hown hnm Bd.returns (BodyLoose.notSynchronized Bd) X0 (Fr.nil n0) e0 p1
  have d2 : Done p e below s ({ frames := 0, cells := 0, slots := 0, locals := 0 } : Room) (Qp h0 n0 (.int (F2_0 p1))) s₁ (entryFrame m #[(.int p1)] 1) := by rw [ef_2]; exact d
  exact d2
theorem pd_0 : parseMethodDescriptor "(I)Z" = some ⟨[.int], some .boolean⟩ := by decide +kernel
theorem d1_0 : decode prog_113_method_3_code 0 = .ok (.iload_n 0, 1) := by decide +kernel
theorem d1_1 : decode prog_113_method_3_code 1 = .ok (.bipush 95, 2) := by decide +kernel
theorem d1_3 : decode prog_113_method_3_code 3 = .ok (.if_icmp .eq 10, 3) := by decide +kernel
theorem d1_6 : decode prog_113_method_3_code 6 = .ok (.iload_n 0, 1) := by decide +kernel
theorem d1_7 : decode prog_113_method_3_code 7 = .ok (.invokestatic 14, 3) := by decide +kernel
theorem d1_10 : decode prog_113_method_3_code 10 = .ok (.ifCond .eq 7, 3) := by decide +kernel
theorem d1_13 : decode prog_113_method_3_code 13 = .ok (.iconst 1, 1) := by decide +kernel
theorem d1_14 : decode prog_113_method_3_code 14 = .ok (.goto 4, 3) := by decide +kernel
theorem d1_17 : decode prog_113_method_3_code 17 = .ok (.iconst 0, 1) := by decide +kernel
theorem d1_18 : decode prog_113_method_3_code 18 = .ok (.ireturn, 1) := by decide +kernel
def F1_0 (p1 : Int32) : Int32 := (if p1 = (95 : Int32) then (1 : Int32) else (if (F2_0 p1) = (0 : Int32) then (0 : Int32) else (1 : Int32)))
set_option maxRecDepth 65536 in
set_option maxHeartbeats 40000000 in
theorem bk1_0 {p : Program} {l : Launch} {e : Env} {s : State} {m : MethodId} {args : Array Value} {below : List Frame} {meth : Method} {c : Code} {T0 : State} {locs : List Loc} {Z : State} {a0 : Array Value} {h0 : Heap} {n0 : Nat}
    (hx : p.tables.exec = Jvm.exec) (hZ : Z.Warmed39 s.vm) (hw : ∀ d ∈ tables_1, d.before a0 Z = true) (hby : c.code = prog_113_method_3_code) (hml : c.maxLocals = 1) (hown : s.vm.findClass "com/example/orbweave/orbweave/term/NameChars" = some m.cls) (hnm : meth.name = "isPnCharsU") (hret : meth.sig.returnType = some .boolean) (hlk : meth.locks = false)
    (X0 : Stand p l e ({ frames := 1, cells := 0, slots := 0, locals := 12 } : Room) s m args below meth c T0 locs 0 0) (N0 : Fr n0 locs) (e0 : T0.heap = h0) (p1 : Int32) :
    Done p e below s ({ frames := 1, cells := 0, slots := 0, locals := 12 } : Room) (Qp h0 n0 (.int (F1_0 p1))) T0 (mkF m 0 #[.val (.int p1)] []) := by
  unfold F1_0
  refine Done.of (T' := T0) (g' := (mkF m 3 #[.val (.int p1)] [(.int (95 : Int32)), (.int p1)])) (fun t k => ?_) ?_
  · show Steps p.tables e below (T0.setTop (mkF m 0 #[.val (.int p1)] [])) t
    refine XS.iloadN X0.here hx rfl (hb hby d1_0) rfl ?_
    show Steps p.tables e below (T0.setTop (mkF m 1 #[.val (.int p1)] [(.int p1)])) t
    refine XS.bipush X0.here hx rfl (hb hby d1_1) ?_
    exact k
  by_cases hc3_0 : p1 = (95 : Int32)
  · rw [if_pos hc3_0]
    refine Done.of (T' := T0) (g' := (mkF m 18 #[.val (.int p1)] [(.int (1 : Int32))])) (fun t k => ?_) ?_
    · show Steps p.tables e below (T0.setTop (mkF m 3 #[.val (.int p1)] [(.int (95 : Int32)), (.int p1)])) t
      refine XS.icmpYes X0.here hx rfl (pc0 := 3) (pc' := 13) rfl (hb hby d1_3) rfl (teq hc3_0).1 (by decide) (by decide) ?_
      show Steps p.tables e below (T0.setTop (mkF m 13 #[.val (.int p1)] [])) t
      refine XS.iconst X0.here hx rfl (hb hby d1_13) ?_
      show Steps p.tables e below (T0.setTop (mkF m 14 #[.val (.int p1)] [(.int (1 : Int32))])) t
      refine XS.goto X0.here hx rfl (pc0 := 14) (pc' := 18) rfl (hb hby d1_14) (by decide) (by decide) ?_
      exact k
    exact doneN (t := .boolean) X0 (by simp) hx hret hlk (hb hby d1_18) ⟨rfl, N0, e0⟩ (by decide) (by decide)
  · rw [if_neg hc3_0]
    refine Done.of (T' := T0) (g' := (mkF m 7 #[.val (.int p1)] [(.int p1)])) (fun t k => ?_) ?_
    · show Steps p.tables e below (T0.setTop (mkF m 3 #[.val (.int p1)] [(.int (95 : Int32)), (.int p1)])) t
      refine XS.icmpNo X0.here hx rfl (hb hby d1_3) rfl (feq hc3_0).1 ?_
      show Steps p.tables e below (T0.setTop (mkF m 6 #[.val (.int p1)] [])) t
      refine XS.iloadN X0.here hx rfl (hb hby d1_6) rfl ?_
      exact k
    obtain ⟨_, _, ⟨T2, L2, k2, n2⟩, -, X2, ⟨Lc2, hQ2, l2, y2, z2⟩, st2⟩ := Jvm.LawKit.callS X0 hx (y := (⟨"com/example/orbweave/orbweave/term/NameChars", "isPnCharsBase", "(I)Z"⟩ : MethodName)) hown (mvT hZ (hw _ (List.mem_of_getElem? (i := 14) rfl))) (mvT hZ (hw _ (List.mem_of_getElem? (i := 15) rfl))) (mvT hZ (hw _ (List.mem_of_getElem? (i := 12) rfl))) (mvT hZ (hw _ (List.mem_of_getElem? (i := 16) rfl))) (by decide) (backOf (W := 0) (rm2 l Z a0 hw [] p1 h0 n0) hZ (hw _ (List.mem_of_getElem? (i := 16) rfl)) (hw _ (List.mem_of_getElem? (i := 12) rfl)) (by decide) (by decide)) (g := (mkF m 7 #[.val (.int p1)] [(.int p1)])) rfl (by rw [hml]; rfl) (argsL := [(.int p1)]) (rest := []) (lenOf pd_0 rfl) rfl (by show 2 * 0 + _ ≤ _; exact Nat.le_of_eq rfl) (hb hby d1_7) (fun _ _ => ⟨rfl, e0, (by decide : 0 + 0 ≤ _), (by decide : 0 + 0 ≤ _)⟩)
    dsimp only [Pt.U, Pt.locs, Pt.cells, Pt.slots] at X2 l2 y2 z2 st2 hQ2
    subst l2 y2 z2
    obtain ⟨rfl, N2q, e2⟩ := hQ2
    have N2 := Fr.app N0 N2q
    replace X2 : Stand p l e ({ frames := 1, cells := 0, slots := 0, locals := 12 } : Room) s m args below meth c T2 _ 0 0 := X2
    refine Done.of (g' := (mkF m 10 #[.val (.int p1)] [(.int (F2_0 p1))])) st2 ?_
    by_cases hc10_2 : (F2_0 p1) = (0 : Int32)
    · rw [if_pos hc10_2]
      refine Done.of (T' := T2) (g' := (mkF m 18 #[.val (.int p1)] [(.int (0 : Int32))])) (fun t k => ?_) ?_
      · show Steps p.tables e below (T2.setTop (mkF m 10 #[.val (.int p1)] [(.int (F2_0 p1))])) t
        refine XS.ifYes X2.here hx rfl (pc0 := 10) (pc' := 17) rfl (hb hby d1_10) rfl ((if0 _ _).trans (teq hc10_2).1) (by decide) (by decide) ?_
        show Steps p.tables e below (T2.setTop (mkF m 17 #[.val (.int p1)] [])) t
        refine XS.iconst X2.here hx rfl (hb hby d1_17) ?_
        exact k
      exact doneN (t := .boolean) X2 (by simp) hx hret hlk (hb hby d1_18) ⟨rfl, N2, e2⟩ (by decide) (by decide)
    · rw [if_neg hc10_2]
      refine Done.of (T' := T2) (g' := (mkF m 18 #[.val (.int p1)] [(.int (1 : Int32))])) (fun t k => ?_) ?_
      · show Steps p.tables e below (T2.setTop (mkF m 10 #[.val (.int p1)] [(.int (F2_0 p1))])) t
        refine XS.ifNo X2.here hx rfl (hb hby d1_10) rfl ((if0 _ _).trans (feq hc10_2).1) ?_
        show Steps p.tables e below (T2.setTop (mkF m 13 #[.val (.int p1)] [])) t
        refine XS.iconst X2.here hx rfl (hb hby d1_13) ?_
        show Steps p.tables e below (T2.setTop (mkF m 14 #[.val (.int p1)] [(.int (1 : Int32))])) t
        refine XS.goto X2.here hx rfl (pc0 := 14) (pc' := 18) rfl (hb hby d1_14) (by decide) (by decide) ?_
        exact k
      exact doneN (t := .boolean) X2 (by simp) hx hret hlk (hb hby d1_18) ⟨rfl, N2, e2⟩ (by decide) (by decide)
theorem ef_1 (m : MethodId) (p1 : Int32) : entryFrame m #[(.int p1)] 1 = mkF m 0 #[.val (.int p1)] [] := by first | (simp [entryFrame, mkF, argsToLocals, Value.category, maxLocals]; done) | rfl
theorem pn_1 : plainName "com/example/orbweave/orbweave/term/NameChars" = true := by first | (simp [plainName, overriddenIn]; done) | decide +kernel
set_option maxRecDepth 65536 in
set_option maxHeartbeats 40000000 in
theorem rm1 (l : Launch) (Z : State) (a0 : Array Value) (hw : ∀ d ∈ tables_1, d.before a0 Z = true) (ws : List Jvm.Cond) (p1 : Int32) (h0 : Heap) (n0 : Nat) :
    MetFree l (⟨"com/example/orbweave/orbweave/term/NameChars", "isPnCharsU", "(I)Z"⟩ : MethodName) (head1 (Jvm.Cond.code (⟨"com/example/orbweave/orbweave/term/NameChars", "isPnCharsU", "(I)Z"⟩ : MethodName) prog_113_method_3_code 1 (some .boolean) :: ws) ({ frames := 1, cells := 0, slots := 0, locals := 12 } : Room)) (fun a U => a = #[(.int p1)] ∧ Z.Warmed39 U.vm ∧ U.heap = h0) (fun _ _ _ _ _ => True) (fun _ U o U' => ∃ v L, o = .returned v ∧ (Qp h0 n0 (.int (F1_0 p1))) v U'.heap L ∧ FrameEnd U o U' L ({ frames := 1, cells := 0, slots := 0, locals := 12 } : Room).cells ({ frames := 1, cells := 0, slots := 0, locals := 12 } : Room).slots) := by
  refine MetFree.of_bodySF (plainFor_of_name pn_1) hisR ?_
  intro p e s m args below meth c s₁ Bd hml0 hP hK
  obtain ⟨rfl, hZ, hh⟩ := hP
  have hown : s.vm.findClass "com/example/orbweave/orbweave/term/NameChars" = some m.cls := findClass_of_methodNamed Bd.named
  have hnm := (name_of_methodNamed Bd.named Bd.method).1
  have X0 : Stand p l e ({ frames := 1, cells := 0, slots := 0, locals := 12 } : Room) s m #[(.int p1)] below meth c s₁ [] 0 0 := Stand.of_body Bd
  have e0 : s₁.heap = h0 := by rw [← hh, Bd.state]; rfl
  have d := bk1_0 (n0 := n0) Bd.exec hZ hw Bd.bytes hml0 hown hnm Bd.returns (BodyLoose.notSynchronized Bd) X0 (Fr.nil n0) e0 p1
  have d2 : Done p e below s ({ frames := 1, cells := 0, slots := 0, locals := 12 } : Room) (Qp h0 n0 (.int (F1_0 p1))) s₁ (entryFrame m #[(.int p1)] 1) := by rw [ef_1]; exact d
  exact d2
theorem d3_0 : decode method_2_code 0 = .ok (.iload_n 0, 1) := by decide +kernel
theorem d3_1 : decode method_2_code 1 = .ok (.ifCond .lt 9, 3) := by decide +kernel
theorem d3_4 : decode method_2_code 4 = .ok (.iload_n 0, 1) := by decide +kernel
theorem d3_5 : decode method_2_code 5 = .ok (.ldc 7, 2) := by decide +kernel
theorem d3_7 : decode method_2_code 7 = .ok (.if_icmp .le 5, 3) := by decide +kernel
theorem d3_10 : decode method_2_code 10 = .ok (.iconst 0, 1) := by decide +kernel
theorem d3_11 : decode method_2_code 11 = .ok (.ireturn, 1) := by decide +kernel
theorem d3_12 : decode method_2_code 12 = .ok (.iload_n 0, 1) := by decide +kernel
theorem d3_13 : decode method_2_code 13 = .ok (.sipush 128, 3) := by decide +kernel
theorem d3_16 : decode method_2_code 16 = .ok (.if_icmp .ge 32, 3) := by decide +kernel
theorem d3_19 : decode method_2_code 19 = .ok (.iload_n 0, 1) := by decide +kernel
theorem d3_20 : decode method_2_code 20 = .ok (.bipush 32, 2) := by decide +kernel
theorem d3_22 : decode method_2_code 22 = .ok (.ior, 1) := by decide +kernel
theorem d3_23 : decode method_2_code 23 = .ok (.istore_n 1, 1) := by decide +kernel
theorem d3_24 : decode method_2_code 24 = .ok (.iload_n 0, 1) := by decide +kernel
theorem d3_25 : decode method_2_code 25 = .ok (.bipush 95, 2) := by decide +kernel
theorem d3_27 : decode method_2_code 27 = .ok (.if_icmp .eq 15, 3) := by decide +kernel
theorem d3_30 : decode method_2_code 30 = .ok (.iload_n 1, 1) := by decide +kernel
theorem d3_31 : decode method_2_code 31 = .ok (.bipush 97, 2) := by decide +kernel
theorem d3_33 : decode method_2_code 33 = .ok (.if_icmp .lt 13, 3) := by decide +kernel
theorem d3_36 : decode method_2_code 36 = .ok (.iload_n 1, 1) := by decide +kernel
theorem d3_37 : decode method_2_code 37 = .ok (.bipush 122, 2) := by decide +kernel
theorem d3_39 : decode method_2_code 39 = .ok (.if_icmp .gt 7, 3) := by decide +kernel
theorem d3_42 : decode method_2_code 42 = .ok (.iconst 1, 1) := by decide +kernel
theorem d3_43 : decode method_2_code 43 = .ok (.goto 4, 3) := by decide +kernel
theorem d3_46 : decode method_2_code 46 = .ok (.iconst 0, 1) := by decide +kernel
theorem d3_47 : decode method_2_code 47 = .ok (.ireturn, 1) := by decide +kernel
theorem d3_48 : decode method_2_code 48 = .ok (.iload_n 0, 1) := by decide +kernel
theorem d3_49 : decode method_2_code 49 = .ok (.sipush 191, 3) := by decide +kernel
theorem d3_52 : decode method_2_code 52 = .ok (.if_icmp .gt 5, 3) := by decide +kernel
theorem d3_55 : decode method_2_code 55 = .ok (.iconst 0, 1) := by decide +kernel
theorem d3_56 : decode method_2_code 56 = .ok (.ireturn, 1) := by decide +kernel
theorem d3_57 : decode method_2_code 57 = .ok (.iload_n 0, 1) := by decide +kernel
theorem d3_58 : decode method_2_code 58 = .ok (.sipush 215, 3) := by decide +kernel
theorem d3_61 : decode method_2_code 61 = .ok (.if_icmp .eq 17, 3) := by decide +kernel
theorem d3_64 : decode method_2_code 64 = .ok (.iload_n 0, 1) := by decide +kernel
theorem d3_65 : decode method_2_code 65 = .ok (.sipush 247, 3) := by decide +kernel
theorem d3_68 : decode method_2_code 68 = .ok (.if_icmp .eq 10, 3) := by decide +kernel
theorem d3_71 : decode method_2_code 71 = .ok (.iload_n 0, 1) := by decide +kernel
theorem d3_72 : decode method_2_code 72 = .ok (.sipush 894, 3) := by decide +kernel
theorem d3_75 : decode method_2_code 75 = .ok (.if_icmp .ne 5, 3) := by decide +kernel
theorem d3_78 : decode method_2_code 78 = .ok (.iconst 0, 1) := by decide +kernel
theorem d3_79 : decode method_2_code 79 = .ok (.ireturn, 1) := by decide +kernel
theorem d3_80 : decode method_2_code 80 = .ok (.iload_n 0, 1) := by decide +kernel
theorem d3_81 : decode method_2_code 81 = .ok (.sipush 768, 3) := by decide +kernel
theorem d3_84 : decode method_2_code 84 = .ok (.if_icmp .lt 12, 3) := by decide +kernel
theorem d3_87 : decode method_2_code 87 = .ok (.iload_n 0, 1) := by decide +kernel
theorem d3_88 : decode method_2_code 88 = .ok (.sipush 879, 3) := by decide +kernel
theorem d3_91 : decode method_2_code 91 = .ok (.if_icmp .gt 5, 3) := by decide +kernel
theorem d3_94 : decode method_2_code 94 = .ok (.iconst 0, 1) := by decide +kernel
theorem d3_95 : decode method_2_code 95 = .ok (.ireturn, 1) := by decide +kernel
theorem d3_96 : decode method_2_code 96 = .ok (.iload_n 0, 1) := by decide +kernel
theorem d3_97 : decode method_2_code 97 = .ok (.sipush 8192, 3) := by decide +kernel
theorem d3_100 : decode method_2_code 100 = .ok (.if_icmp .lt 30, 3) := by decide +kernel
theorem d3_103 : decode method_2_code 103 = .ok (.iload_n 0, 1) := by decide +kernel
theorem d3_104 : decode method_2_code 104 = .ok (.sipush 8303, 3) := by decide +kernel
theorem d3_107 : decode method_2_code 107 = .ok (.if_icmp .gt 23, 3) := by decide +kernel
theorem d3_110 : decode method_2_code 110 = .ok (.iload_n 0, 1) := by decide +kernel
theorem d3_111 : decode method_2_code 111 = .ok (.sipush 8204, 3) := by decide +kernel
theorem d3_114 : decode method_2_code 114 = .ok (.if_icmp .eq 10, 3) := by decide +kernel
theorem d3_117 : decode method_2_code 117 = .ok (.iload_n 0, 1) := by decide +kernel
theorem d3_118 : decode method_2_code 118 = .ok (.sipush 8205, 3) := by decide +kernel
theorem d3_121 : decode method_2_code 121 = .ok (.if_icmp .ne 7, 3) := by decide +kernel
theorem d3_124 : decode method_2_code 124 = .ok (.iconst 1, 1) := by decide +kernel
theorem d3_125 : decode method_2_code 125 = .ok (.goto 4, 3) := by decide +kernel
theorem d3_128 : decode method_2_code 128 = .ok (.iconst 0, 1) := by decide +kernel
theorem d3_129 : decode method_2_code 129 = .ok (.ireturn, 1) := by decide +kernel
theorem d3_130 : decode method_2_code 130 = .ok (.iload_n 0, 1) := by decide +kernel
theorem d3_131 : decode method_2_code 131 = .ok (.sipush 8592, 3) := by decide +kernel
theorem d3_134 : decode method_2_code 134 = .ok (.if_icmp .lt 12, 3) := by decide +kernel
theorem d3_137 : decode method_2_code 137 = .ok (.iload_n 0, 1) := by decide +kernel
theorem d3_138 : decode method_2_code 138 = .ok (.sipush 11263, 3) := by decide +kernel
theorem d3_141 : decode method_2_code 141 = .ok (.if_icmp .gt 5, 3) := by decide +kernel
theorem d3_144 : decode method_2_code 144 = .ok (.iconst 0, 1) := by decide +kernel
theorem d3_145 : decode method_2_code 145 = .ok (.ireturn, 1) := by decide +kernel
theorem d3_146 : decode method_2_code 146 = .ok (.iload_n 0, 1) := by decide +kernel
theorem d3_147 : decode method_2_code 147 = .ok (.sipush 12272, 3) := by decide +kernel
theorem d3_150 : decode method_2_code 150 = .ok (.if_icmp .lt 12, 3) := by decide +kernel
theorem d3_153 : decode method_2_code 153 = .ok (.iload_n 0, 1) := by decide +kernel
theorem d3_154 : decode method_2_code 154 = .ok (.sipush 12288, 3) := by decide +kernel
theorem d3_157 : decode method_2_code 157 = .ok (.if_icmp .gt 5, 3) := by decide +kernel
theorem d3_160 : decode method_2_code 160 = .ok (.iconst 0, 1) := by decide +kernel
theorem d3_161 : decode method_2_code 161 = .ok (.ireturn, 1) := by decide +kernel
theorem d3_162 : decode method_2_code 162 = .ok (.iload_n 0, 1) := by decide +kernel
theorem d3_163 : decode method_2_code 163 = .ok (.ldc 8, 2) := by decide +kernel
theorem d3_165 : decode method_2_code 165 = .ok (.if_icmp .lt 11, 3) := by decide +kernel
theorem d3_168 : decode method_2_code 168 = .ok (.iload_n 0, 1) := by decide +kernel
theorem d3_169 : decode method_2_code 169 = .ok (.ldc 9, 2) := by decide +kernel
theorem d3_171 : decode method_2_code 171 = .ok (.if_icmp .gt 5, 3) := by decide +kernel
theorem d3_174 : decode method_2_code 174 = .ok (.iconst 0, 1) := by decide +kernel
theorem d3_175 : decode method_2_code 175 = .ok (.ireturn, 1) := by decide +kernel
theorem d3_176 : decode method_2_code 176 = .ok (.iload_n 0, 1) := by decide +kernel
theorem d3_177 : decode method_2_code 177 = .ok (.ldc 10, 2) := by decide +kernel
theorem d3_179 : decode method_2_code 179 = .ok (.if_icmp .lt 11, 3) := by decide +kernel
theorem d3_182 : decode method_2_code 182 = .ok (.iload_n 0, 1) := by decide +kernel
theorem d3_183 : decode method_2_code 183 = .ok (.ldc 11, 2) := by decide +kernel
theorem d3_185 : decode method_2_code 185 = .ok (.if_icmp .gt 5, 3) := by decide +kernel
theorem d3_188 : decode method_2_code 188 = .ok (.iconst 0, 1) := by decide +kernel
theorem d3_189 : decode method_2_code 189 = .ok (.ireturn, 1) := by decide +kernel
theorem d3_190 : decode method_2_code 190 = .ok (.iload_n 0, 1) := by decide +kernel
theorem d3_191 : decode method_2_code 191 = .ok (.ldc 12, 2) := by decide +kernel
theorem d3_193 : decode method_2_code 193 = .ok (.if_icmp .eq 9, 3) := by decide +kernel
theorem d3_196 : decode method_2_code 196 = .ok (.iload_n 0, 1) := by decide +kernel
theorem d3_197 : decode method_2_code 197 = .ok (.ldc 13, 2) := by decide +kernel
theorem d3_199 : decode method_2_code 199 = .ok (.if_icmp .ne 5, 3) := by decide +kernel
theorem d3_202 : decode method_2_code 202 = .ok (.iconst 0, 1) := by decide +kernel
theorem d3_203 : decode method_2_code 203 = .ok (.ireturn, 1) := by decide +kernel
theorem d3_204 : decode method_2_code 204 = .ok (.iconst 1, 1) := by decide +kernel
theorem d3_205 : decode method_2_code 205 = .ok (.ireturn, 1) := by decide +kernel
def F3_190 (i0 : Int32) : Int32 := (if i0 = (65534 : Int32) then (0 : Int32) else (if i0 = (65535 : Int32) then (0 : Int32) else (1 : Int32)))
set_option maxRecDepth 65536 in
set_option maxHeartbeats 40000000 in
theorem bk3_190 {p : Program} {l : Launch} {e : Env} {s : State} {m : MethodId} {args : Array Value} {below : List Frame} {meth : Method} {c : Code} {T0 : State} {locs : List Loc} {Z : State} {a0 : Array Value} {h0 : Heap} {n0 : Nat}
    (hx : p.tables.exec = Jvm.exec) (hZ : Z.Warmed39 s.vm) (hw : ∀ d ∈ tables_1, d.before a0 Z = true) (hby : c.code = method_2_code) (hml : c.maxLocals = 2) (hown : s.vm.findClass "com/example/orbweave/orbweave/term/NameCharsIsPnCharsUPinLaw" = some m.cls) (hnm : meth.name = "ref") (hret : meth.sig.returnType = some .boolean) (hlk : meth.locks = false)
    (X0 : Stand p l e ({ frames := 0, cells := 0, slots := 0, locals := 0 } : Room) s m args below meth c T0 locs 0 0) (N0 : Fr n0 locs) (e0 : T0.heap = h0) (i0 : Int32) :
    Done p e below s ({ frames := 0, cells := 0, slots := 0, locals := 0 } : Room) (Qp h0 n0 (.int (F3_190 i0))) T0 (mkF m 190 #[.val (.int i0), .unset] []) := by
  unfold F3_190
  refine Done.of (T' := T0) (g' := (mkF m 193 #[.val (.int i0), .unset] [(.int (65534 : Int32)), (.int i0)])) (fun t k => ?_) ?_
  · show Steps p.tables e below (T0.setTop (mkF m 190 #[.val (.int i0), .unset] [])) t
    refine XS.iloadN X0.here hx rfl (hb hby d3_190) rfl ?_
    show Steps p.tables e below (T0.setTop (mkF m 191 #[.val (.int i0), .unset] [(.int i0)])) t
    refine X0.ldcInt hx hown (mvT hZ (hw _ (List.mem_of_getElem? (i := 26) rfl))) (g := (mkF m 191 #[.val (.int i0), .unset] [(.int i0)])) rfl (hb hby d3_191) _ ?_
    exact k
  by_cases hc193_0 : i0 = (65534 : Int32)
  · rw [if_pos hc193_0]
    refine Done.of (T' := T0) (g' := (mkF m 203 #[.val (.int i0), .unset] [(.int (0 : Int32))])) (fun t k => ?_) ?_
    · show Steps p.tables e below (T0.setTop (mkF m 193 #[.val (.int i0), .unset] [(.int (65534 : Int32)), (.int i0)])) t
      refine XS.icmpYes X0.here hx rfl (pc0 := 193) (pc' := 202) rfl (hb hby d3_193) rfl (teq hc193_0).1 (by decide) (by decide) ?_
      show Steps p.tables e below (T0.setTop (mkF m 202 #[.val (.int i0), .unset] [])) t
      refine XS.iconst X0.here hx rfl (hb hby d3_202) ?_
      exact k
    exact doneN (t := .boolean) X0 (by simp) hx hret hlk (hb hby d3_203) ⟨rfl, N0, e0⟩ (by decide) (by decide)
  · rw [if_neg hc193_0]
    refine Done.of (T' := T0) (g' := (mkF m 199 #[.val (.int i0), .unset] [(.int (65535 : Int32)), (.int i0)])) (fun t k => ?_) ?_
    · show Steps p.tables e below (T0.setTop (mkF m 193 #[.val (.int i0), .unset] [(.int (65534 : Int32)), (.int i0)])) t
      refine XS.icmpNo X0.here hx rfl (hb hby d3_193) rfl (feq hc193_0).1 ?_
      show Steps p.tables e below (T0.setTop (mkF m 196 #[.val (.int i0), .unset] [])) t
      refine XS.iloadN X0.here hx rfl (hb hby d3_196) rfl ?_
      show Steps p.tables e below (T0.setTop (mkF m 197 #[.val (.int i0), .unset] [(.int i0)])) t
      refine X0.ldcInt hx hown (mvT hZ (hw _ (List.mem_of_getElem? (i := 27) rfl))) (g := (mkF m 197 #[.val (.int i0), .unset] [(.int i0)])) rfl (hb hby d3_197) _ ?_
      exact k
    by_cases hc199_1 : i0 = (65535 : Int32)
    · rw [if_pos hc199_1]
      refine Done.of (T' := T0) (g' := (mkF m 203 #[.val (.int i0), .unset] [(.int (0 : Int32))])) (fun t k => ?_) ?_
      · show Steps p.tables e below (T0.setTop (mkF m 199 #[.val (.int i0), .unset] [(.int (65535 : Int32)), (.int i0)])) t
        refine XS.icmpNo X0.here hx rfl (hb hby d3_199) rfl (teq hc199_1).2 ?_
        show Steps p.tables e below (T0.setTop (mkF m 202 #[.val (.int i0), .unset] [])) t
        refine XS.iconst X0.here hx rfl (hb hby d3_202) ?_
        exact k
      exact doneN (t := .boolean) X0 (by simp) hx hret hlk (hb hby d3_203) ⟨rfl, N0, e0⟩ (by decide) (by decide)
    · rw [if_neg hc199_1]
      refine Done.of (T' := T0) (g' := (mkF m 205 #[.val (.int i0), .unset] [(.int (1 : Int32))])) (fun t k => ?_) ?_
      · show Steps p.tables e below (T0.setTop (mkF m 199 #[.val (.int i0), .unset] [(.int (65535 : Int32)), (.int i0)])) t
        refine XS.icmpYes X0.here hx rfl (pc0 := 199) (pc' := 204) rfl (hb hby d3_199) rfl (feq hc199_1).2 (by decide) (by decide) ?_
        show Steps p.tables e below (T0.setTop (mkF m 204 #[.val (.int i0), .unset] [])) t
        refine XS.iconst X0.here hx rfl (hb hby d3_204) ?_
        exact k
      exact doneN (t := .boolean) X0 (by simp) hx hret hlk (hb hby d3_205) ⟨rfl, N0, e0⟩ (by decide) (by decide)
def F3_176 (i0 : Int32) : Int32 := (if i0 < (64976 : Int32) then (F3_190 i0) else (if (65007 : Int32) < i0 then (F3_190 i0) else (0 : Int32)))
set_option maxRecDepth 65536 in
set_option maxHeartbeats 40000000 in
theorem bk3_176 {p : Program} {l : Launch} {e : Env} {s : State} {m : MethodId} {args : Array Value} {below : List Frame} {meth : Method} {c : Code} {T0 : State} {locs : List Loc} {Z : State} {a0 : Array Value} {h0 : Heap} {n0 : Nat}
    (hx : p.tables.exec = Jvm.exec) (hZ : Z.Warmed39 s.vm) (hw : ∀ d ∈ tables_1, d.before a0 Z = true) (hby : c.code = method_2_code) (hml : c.maxLocals = 2) (hown : s.vm.findClass "com/example/orbweave/orbweave/term/NameCharsIsPnCharsUPinLaw" = some m.cls) (hnm : meth.name = "ref") (hret : meth.sig.returnType = some .boolean) (hlk : meth.locks = false)
    (X0 : Stand p l e ({ frames := 0, cells := 0, slots := 0, locals := 0 } : Room) s m args below meth c T0 locs 0 0) (N0 : Fr n0 locs) (e0 : T0.heap = h0) (i0 : Int32) :
    Done p e below s ({ frames := 0, cells := 0, slots := 0, locals := 0 } : Room) (Qp h0 n0 (.int (F3_176 i0))) T0 (mkF m 176 #[.val (.int i0), .unset] []) := by
  unfold F3_176
  refine Done.of (T' := T0) (g' := (mkF m 179 #[.val (.int i0), .unset] [(.int (64976 : Int32)), (.int i0)])) (fun t k => ?_) ?_
  · show Steps p.tables e below (T0.setTop (mkF m 176 #[.val (.int i0), .unset] [])) t
    refine XS.iloadN X0.here hx rfl (hb hby d3_176) rfl ?_
    show Steps p.tables e below (T0.setTop (mkF m 177 #[.val (.int i0), .unset] [(.int i0)])) t
    refine X0.ldcInt hx hown (mvT hZ (hw _ (List.mem_of_getElem? (i := 25) rfl))) (g := (mkF m 177 #[.val (.int i0), .unset] [(.int i0)])) rfl (hb hby d3_177) _ ?_
    exact k
  by_cases hc179_0 : i0 < (64976 : Int32)
  · rw [if_pos hc179_0]
    refine Done.of (T' := T0) (g' := (mkF m 190 #[.val (.int i0), .unset] [])) (fun t k => ?_) ?_
    · show Steps p.tables e below (T0.setTop (mkF m 179 #[.val (.int i0), .unset] [(.int (64976 : Int32)), (.int i0)])) t
      refine XS.icmpYes X0.here hx rfl (pc0 := 179) (pc' := 190) rfl (hb hby d3_179) rfl (tlt hc179_0).1 (by decide) (by decide) ?_
      exact k
    exact bk3_190 hx hZ hw hby hml hown hnm hret hlk X0 N0 e0 i0
  · rw [if_neg hc179_0]
    refine Done.of (T' := T0) (g' := (mkF m 185 #[.val (.int i0), .unset] [(.int (65007 : Int32)), (.int i0)])) (fun t k => ?_) ?_
    · show Steps p.tables e below (T0.setTop (mkF m 179 #[.val (.int i0), .unset] [(.int (64976 : Int32)), (.int i0)])) t
      refine XS.icmpNo X0.here hx rfl (hb hby d3_179) rfl (flt hc179_0).1 ?_
      show Steps p.tables e below (T0.setTop (mkF m 182 #[.val (.int i0), .unset] [])) t
      refine XS.iloadN X0.here hx rfl (hb hby d3_182) rfl ?_
      show Steps p.tables e below (T0.setTop (mkF m 183 #[.val (.int i0), .unset] [(.int i0)])) t
      refine X0.ldcInt hx hown (mvT hZ (hw _ (List.mem_of_getElem? (i := 34) rfl))) (g := (mkF m 183 #[.val (.int i0), .unset] [(.int i0)])) rfl (hb hby d3_183) _ ?_
      exact k
    by_cases hc185_1 : (65007 : Int32) < i0
    · rw [if_pos hc185_1]
      refine Done.of (T' := T0) (g' := (mkF m 190 #[.val (.int i0), .unset] [])) (fun t k => ?_) ?_
      · show Steps p.tables e below (T0.setTop (mkF m 185 #[.val (.int i0), .unset] [(.int (65007 : Int32)), (.int i0)])) t
        refine XS.icmpYes X0.here hx rfl (pc0 := 185) (pc' := 190) rfl (hb hby d3_185) rfl (tlt hc185_1).2.2.1 (by decide) (by decide) ?_
        exact k
      exact bk3_190 hx hZ hw hby hml hown hnm hret hlk X0 N0 e0 i0
    · rw [if_neg hc185_1]
      refine Done.of (T' := T0) (g' := (mkF m 189 #[.val (.int i0), .unset] [(.int (0 : Int32))])) (fun t k => ?_) ?_
      · show Steps p.tables e below (T0.setTop (mkF m 185 #[.val (.int i0), .unset] [(.int (65007 : Int32)), (.int i0)])) t
        refine XS.icmpNo X0.here hx rfl (hb hby d3_185) rfl (flt hc185_1).2.2.1 ?_
        show Steps p.tables e below (T0.setTop (mkF m 188 #[.val (.int i0), .unset] [])) t
        refine XS.iconst X0.here hx rfl (hb hby d3_188) ?_
        exact k
      exact doneN (t := .boolean) X0 (by simp) hx hret hlk (hb hby d3_189) ⟨rfl, N0, e0⟩ (by decide) (by decide)
def F3_162 (i0 : Int32) : Int32 := (if i0 < (55296 : Int32) then (F3_176 i0) else (if (63743 : Int32) < i0 then (F3_176 i0) else (0 : Int32)))
set_option maxRecDepth 65536 in
set_option maxHeartbeats 40000000 in
theorem bk3_162 {p : Program} {l : Launch} {e : Env} {s : State} {m : MethodId} {args : Array Value} {below : List Frame} {meth : Method} {c : Code} {T0 : State} {locs : List Loc} {Z : State} {a0 : Array Value} {h0 : Heap} {n0 : Nat}
    (hx : p.tables.exec = Jvm.exec) (hZ : Z.Warmed39 s.vm) (hw : ∀ d ∈ tables_1, d.before a0 Z = true) (hby : c.code = method_2_code) (hml : c.maxLocals = 2) (hown : s.vm.findClass "com/example/orbweave/orbweave/term/NameCharsIsPnCharsUPinLaw" = some m.cls) (hnm : meth.name = "ref") (hret : meth.sig.returnType = some .boolean) (hlk : meth.locks = false)
    (X0 : Stand p l e ({ frames := 0, cells := 0, slots := 0, locals := 0 } : Room) s m args below meth c T0 locs 0 0) (N0 : Fr n0 locs) (e0 : T0.heap = h0) (i0 : Int32) :
    Done p e below s ({ frames := 0, cells := 0, slots := 0, locals := 0 } : Room) (Qp h0 n0 (.int (F3_162 i0))) T0 (mkF m 162 #[.val (.int i0), .unset] []) := by
  unfold F3_162
  refine Done.of (T' := T0) (g' := (mkF m 165 #[.val (.int i0), .unset] [(.int (55296 : Int32)), (.int i0)])) (fun t k => ?_) ?_
  · show Steps p.tables e below (T0.setTop (mkF m 162 #[.val (.int i0), .unset] [])) t
    refine XS.iloadN X0.here hx rfl (hb hby d3_162) rfl ?_
    show Steps p.tables e below (T0.setTop (mkF m 163 #[.val (.int i0), .unset] [(.int i0)])) t
    refine X0.ldcInt hx hown (mvT hZ (hw _ (List.mem_of_getElem? (i := 24) rfl))) (g := (mkF m 163 #[.val (.int i0), .unset] [(.int i0)])) rfl (hb hby d3_163) _ ?_
    exact k
  by_cases hc165_0 : i0 < (55296 : Int32)
  · rw [if_pos hc165_0]
    refine Done.of (T' := T0) (g' := (mkF m 176 #[.val (.int i0), .unset] [])) (fun t k => ?_) ?_
    · show Steps p.tables e below (T0.setTop (mkF m 165 #[.val (.int i0), .unset] [(.int (55296 : Int32)), (.int i0)])) t
      refine XS.icmpYes X0.here hx rfl (pc0 := 165) (pc' := 176) rfl (hb hby d3_165) rfl (tlt hc165_0).1 (by decide) (by decide) ?_
      exact k
    exact bk3_176 hx hZ hw hby hml hown hnm hret hlk X0 N0 e0 i0
  · rw [if_neg hc165_0]
    refine Done.of (T' := T0) (g' := (mkF m 171 #[.val (.int i0), .unset] [(.int (63743 : Int32)), (.int i0)])) (fun t k => ?_) ?_
    · show Steps p.tables e below (T0.setTop (mkF m 165 #[.val (.int i0), .unset] [(.int (55296 : Int32)), (.int i0)])) t
      refine XS.icmpNo X0.here hx rfl (hb hby d3_165) rfl (flt hc165_0).1 ?_
      show Steps p.tables e below (T0.setTop (mkF m 168 #[.val (.int i0), .unset] [])) t
      refine XS.iloadN X0.here hx rfl (hb hby d3_168) rfl ?_
      show Steps p.tables e below (T0.setTop (mkF m 169 #[.val (.int i0), .unset] [(.int i0)])) t
      refine X0.ldcInt hx hown (mvT hZ (hw _ (List.mem_of_getElem? (i := 33) rfl))) (g := (mkF m 169 #[.val (.int i0), .unset] [(.int i0)])) rfl (hb hby d3_169) _ ?_
      exact k
    by_cases hc171_1 : (63743 : Int32) < i0
    · rw [if_pos hc171_1]
      refine Done.of (T' := T0) (g' := (mkF m 176 #[.val (.int i0), .unset] [])) (fun t k => ?_) ?_
      · show Steps p.tables e below (T0.setTop (mkF m 171 #[.val (.int i0), .unset] [(.int (63743 : Int32)), (.int i0)])) t
        refine XS.icmpYes X0.here hx rfl (pc0 := 171) (pc' := 176) rfl (hb hby d3_171) rfl (tlt hc171_1).2.2.1 (by decide) (by decide) ?_
        exact k
      exact bk3_176 hx hZ hw hby hml hown hnm hret hlk X0 N0 e0 i0
    · rw [if_neg hc171_1]
      refine Done.of (T' := T0) (g' := (mkF m 175 #[.val (.int i0), .unset] [(.int (0 : Int32))])) (fun t k => ?_) ?_
      · show Steps p.tables e below (T0.setTop (mkF m 171 #[.val (.int i0), .unset] [(.int (63743 : Int32)), (.int i0)])) t
        refine XS.icmpNo X0.here hx rfl (hb hby d3_171) rfl (flt hc171_1).2.2.1 ?_
        show Steps p.tables e below (T0.setTop (mkF m 174 #[.val (.int i0), .unset] [])) t
        refine XS.iconst X0.here hx rfl (hb hby d3_174) ?_
        exact k
      exact doneN (t := .boolean) X0 (by simp) hx hret hlk (hb hby d3_175) ⟨rfl, N0, e0⟩ (by decide) (by decide)
def F3_146 (i0 : Int32) : Int32 := (if i0 < (12272 : Int32) then (F3_162 i0) else (if (12288 : Int32) < i0 then (F3_162 i0) else (0 : Int32)))
set_option maxRecDepth 65536 in
set_option maxHeartbeats 40000000 in
theorem bk3_146 {p : Program} {l : Launch} {e : Env} {s : State} {m : MethodId} {args : Array Value} {below : List Frame} {meth : Method} {c : Code} {T0 : State} {locs : List Loc} {Z : State} {a0 : Array Value} {h0 : Heap} {n0 : Nat}
    (hx : p.tables.exec = Jvm.exec) (hZ : Z.Warmed39 s.vm) (hw : ∀ d ∈ tables_1, d.before a0 Z = true) (hby : c.code = method_2_code) (hml : c.maxLocals = 2) (hown : s.vm.findClass "com/example/orbweave/orbweave/term/NameCharsIsPnCharsUPinLaw" = some m.cls) (hnm : meth.name = "ref") (hret : meth.sig.returnType = some .boolean) (hlk : meth.locks = false)
    (X0 : Stand p l e ({ frames := 0, cells := 0, slots := 0, locals := 0 } : Room) s m args below meth c T0 locs 0 0) (N0 : Fr n0 locs) (e0 : T0.heap = h0) (i0 : Int32) :
    Done p e below s ({ frames := 0, cells := 0, slots := 0, locals := 0 } : Room) (Qp h0 n0 (.int (F3_146 i0))) T0 (mkF m 146 #[.val (.int i0), .unset] []) := by
  unfold F3_146
  refine Done.of (T' := T0) (g' := (mkF m 150 #[.val (.int i0), .unset] [(.int (12272 : Int32)), (.int i0)])) (fun t k => ?_) ?_
  · show Steps p.tables e below (T0.setTop (mkF m 146 #[.val (.int i0), .unset] [])) t
    refine XS.iloadN X0.here hx rfl (hb hby d3_146) rfl ?_
    show Steps p.tables e below (T0.setTop (mkF m 147 #[.val (.int i0), .unset] [(.int i0)])) t
    refine XS.sipush X0.here hx rfl (hb hby d3_147) ?_
    exact k
  by_cases hc150_0 : i0 < (12272 : Int32)
  · rw [if_pos hc150_0]
    refine Done.of (T' := T0) (g' := (mkF m 162 #[.val (.int i0), .unset] [])) (fun t k => ?_) ?_
    · show Steps p.tables e below (T0.setTop (mkF m 150 #[.val (.int i0), .unset] [(.int (12272 : Int32)), (.int i0)])) t
      refine XS.icmpYes X0.here hx rfl (pc0 := 150) (pc' := 162) rfl (hb hby d3_150) rfl (tlt hc150_0).1 (by decide) (by decide) ?_
      exact k
    exact bk3_162 hx hZ hw hby hml hown hnm hret hlk X0 N0 e0 i0
  · rw [if_neg hc150_0]
    refine Done.of (T' := T0) (g' := (mkF m 157 #[.val (.int i0), .unset] [(.int (12288 : Int32)), (.int i0)])) (fun t k => ?_) ?_
    · show Steps p.tables e below (T0.setTop (mkF m 150 #[.val (.int i0), .unset] [(.int (12272 : Int32)), (.int i0)])) t
      refine XS.icmpNo X0.here hx rfl (hb hby d3_150) rfl (flt hc150_0).1 ?_
      show Steps p.tables e below (T0.setTop (mkF m 153 #[.val (.int i0), .unset] [])) t
      refine XS.iloadN X0.here hx rfl (hb hby d3_153) rfl ?_
      show Steps p.tables e below (T0.setTop (mkF m 154 #[.val (.int i0), .unset] [(.int i0)])) t
      refine XS.sipush X0.here hx rfl (hb hby d3_154) ?_
      exact k
    by_cases hc157_1 : (12288 : Int32) < i0
    · rw [if_pos hc157_1]
      refine Done.of (T' := T0) (g' := (mkF m 162 #[.val (.int i0), .unset] [])) (fun t k => ?_) ?_
      · show Steps p.tables e below (T0.setTop (mkF m 157 #[.val (.int i0), .unset] [(.int (12288 : Int32)), (.int i0)])) t
        refine XS.icmpYes X0.here hx rfl (pc0 := 157) (pc' := 162) rfl (hb hby d3_157) rfl (tlt hc157_1).2.2.1 (by decide) (by decide) ?_
        exact k
      exact bk3_162 hx hZ hw hby hml hown hnm hret hlk X0 N0 e0 i0
    · rw [if_neg hc157_1]
      refine Done.of (T' := T0) (g' := (mkF m 161 #[.val (.int i0), .unset] [(.int (0 : Int32))])) (fun t k => ?_) ?_
      · show Steps p.tables e below (T0.setTop (mkF m 157 #[.val (.int i0), .unset] [(.int (12288 : Int32)), (.int i0)])) t
        refine XS.icmpNo X0.here hx rfl (hb hby d3_157) rfl (flt hc157_1).2.2.1 ?_
        show Steps p.tables e below (T0.setTop (mkF m 160 #[.val (.int i0), .unset] [])) t
        refine XS.iconst X0.here hx rfl (hb hby d3_160) ?_
        exact k
      exact doneN (t := .boolean) X0 (by simp) hx hret hlk (hb hby d3_161) ⟨rfl, N0, e0⟩ (by decide) (by decide)
def F3_130 (i0 : Int32) : Int32 := (if i0 < (8592 : Int32) then (F3_146 i0) else (if (11263 : Int32) < i0 then (F3_146 i0) else (0 : Int32)))
set_option maxRecDepth 65536 in
set_option maxHeartbeats 40000000 in
theorem bk3_130 {p : Program} {l : Launch} {e : Env} {s : State} {m : MethodId} {args : Array Value} {below : List Frame} {meth : Method} {c : Code} {T0 : State} {locs : List Loc} {Z : State} {a0 : Array Value} {h0 : Heap} {n0 : Nat}
    (hx : p.tables.exec = Jvm.exec) (hZ : Z.Warmed39 s.vm) (hw : ∀ d ∈ tables_1, d.before a0 Z = true) (hby : c.code = method_2_code) (hml : c.maxLocals = 2) (hown : s.vm.findClass "com/example/orbweave/orbweave/term/NameCharsIsPnCharsUPinLaw" = some m.cls) (hnm : meth.name = "ref") (hret : meth.sig.returnType = some .boolean) (hlk : meth.locks = false)
    (X0 : Stand p l e ({ frames := 0, cells := 0, slots := 0, locals := 0 } : Room) s m args below meth c T0 locs 0 0) (N0 : Fr n0 locs) (e0 : T0.heap = h0) (i0 : Int32) :
    Done p e below s ({ frames := 0, cells := 0, slots := 0, locals := 0 } : Room) (Qp h0 n0 (.int (F3_130 i0))) T0 (mkF m 130 #[.val (.int i0), .unset] []) := by
  unfold F3_130
  refine Done.of (T' := T0) (g' := (mkF m 134 #[.val (.int i0), .unset] [(.int (8592 : Int32)), (.int i0)])) (fun t k => ?_) ?_
  · show Steps p.tables e below (T0.setTop (mkF m 130 #[.val (.int i0), .unset] [])) t
    refine XS.iloadN X0.here hx rfl (hb hby d3_130) rfl ?_
    show Steps p.tables e below (T0.setTop (mkF m 131 #[.val (.int i0), .unset] [(.int i0)])) t
    refine XS.sipush X0.here hx rfl (hb hby d3_131) ?_
    exact k
  by_cases hc134_0 : i0 < (8592 : Int32)
  · rw [if_pos hc134_0]
    refine Done.of (T' := T0) (g' := (mkF m 146 #[.val (.int i0), .unset] [])) (fun t k => ?_) ?_
    · show Steps p.tables e below (T0.setTop (mkF m 134 #[.val (.int i0), .unset] [(.int (8592 : Int32)), (.int i0)])) t
      refine XS.icmpYes X0.here hx rfl (pc0 := 134) (pc' := 146) rfl (hb hby d3_134) rfl (tlt hc134_0).1 (by decide) (by decide) ?_
      exact k
    exact bk3_146 hx hZ hw hby hml hown hnm hret hlk X0 N0 e0 i0
  · rw [if_neg hc134_0]
    refine Done.of (T' := T0) (g' := (mkF m 141 #[.val (.int i0), .unset] [(.int (11263 : Int32)), (.int i0)])) (fun t k => ?_) ?_
    · show Steps p.tables e below (T0.setTop (mkF m 134 #[.val (.int i0), .unset] [(.int (8592 : Int32)), (.int i0)])) t
      refine XS.icmpNo X0.here hx rfl (hb hby d3_134) rfl (flt hc134_0).1 ?_
      show Steps p.tables e below (T0.setTop (mkF m 137 #[.val (.int i0), .unset] [])) t
      refine XS.iloadN X0.here hx rfl (hb hby d3_137) rfl ?_
      show Steps p.tables e below (T0.setTop (mkF m 138 #[.val (.int i0), .unset] [(.int i0)])) t
      refine XS.sipush X0.here hx rfl (hb hby d3_138) ?_
      exact k
    by_cases hc141_1 : (11263 : Int32) < i0
    · rw [if_pos hc141_1]
      refine Done.of (T' := T0) (g' := (mkF m 146 #[.val (.int i0), .unset] [])) (fun t k => ?_) ?_
      · show Steps p.tables e below (T0.setTop (mkF m 141 #[.val (.int i0), .unset] [(.int (11263 : Int32)), (.int i0)])) t
        refine XS.icmpYes X0.here hx rfl (pc0 := 141) (pc' := 146) rfl (hb hby d3_141) rfl (tlt hc141_1).2.2.1 (by decide) (by decide) ?_
        exact k
      exact bk3_146 hx hZ hw hby hml hown hnm hret hlk X0 N0 e0 i0
    · rw [if_neg hc141_1]
      refine Done.of (T' := T0) (g' := (mkF m 145 #[.val (.int i0), .unset] [(.int (0 : Int32))])) (fun t k => ?_) ?_
      · show Steps p.tables e below (T0.setTop (mkF m 141 #[.val (.int i0), .unset] [(.int (11263 : Int32)), (.int i0)])) t
        refine XS.icmpNo X0.here hx rfl (hb hby d3_141) rfl (flt hc141_1).2.2.1 ?_
        show Steps p.tables e below (T0.setTop (mkF m 144 #[.val (.int i0), .unset] [])) t
        refine XS.iconst X0.here hx rfl (hb hby d3_144) ?_
        exact k
      exact doneN (t := .boolean) X0 (by simp) hx hret hlk (hb hby d3_145) ⟨rfl, N0, e0⟩ (by decide) (by decide)
def F3_96 (i0 : Int32) : Int32 := (if i0 < (8192 : Int32) then (F3_130 i0) else (if (8303 : Int32) < i0 then (F3_130 i0) else (if i0 = (8204 : Int32) then (1 : Int32) else (if i0 = (8205 : Int32) then (1 : Int32) else (0 : Int32)))))
set_option maxRecDepth 65536 in
set_option maxHeartbeats 40000000 in
theorem bk3_96 {p : Program} {l : Launch} {e : Env} {s : State} {m : MethodId} {args : Array Value} {below : List Frame} {meth : Method} {c : Code} {T0 : State} {locs : List Loc} {Z : State} {a0 : Array Value} {h0 : Heap} {n0 : Nat}
    (hx : p.tables.exec = Jvm.exec) (hZ : Z.Warmed39 s.vm) (hw : ∀ d ∈ tables_1, d.before a0 Z = true) (hby : c.code = method_2_code) (hml : c.maxLocals = 2) (hown : s.vm.findClass "com/example/orbweave/orbweave/term/NameCharsIsPnCharsUPinLaw" = some m.cls) (hnm : meth.name = "ref") (hret : meth.sig.returnType = some .boolean) (hlk : meth.locks = false)
    (X0 : Stand p l e ({ frames := 0, cells := 0, slots := 0, locals := 0 } : Room) s m args below meth c T0 locs 0 0) (N0 : Fr n0 locs) (e0 : T0.heap = h0) (i0 : Int32) :
    Done p e below s ({ frames := 0, cells := 0, slots := 0, locals := 0 } : Room) (Qp h0 n0 (.int (F3_96 i0))) T0 (mkF m 96 #[.val (.int i0), .unset] []) := by
  unfold F3_96
  refine Done.of (T' := T0) (g' := (mkF m 100 #[.val (.int i0), .unset] [(.int (8192 : Int32)), (.int i0)])) (fun t k => ?_) ?_
  · show Steps p.tables e below (T0.setTop (mkF m 96 #[.val (.int i0), .unset] [])) t
    refine XS.iloadN X0.here hx rfl (hb hby d3_96) rfl ?_
    show Steps p.tables e below (T0.setTop (mkF m 97 #[.val (.int i0), .unset] [(.int i0)])) t
    refine XS.sipush X0.here hx rfl (hb hby d3_97) ?_
    exact k
  by_cases hc100_0 : i0 < (8192 : Int32)
  · rw [if_pos hc100_0]
    refine Done.of (T' := T0) (g' := (mkF m 130 #[.val (.int i0), .unset] [])) (fun t k => ?_) ?_
    · show Steps p.tables e below (T0.setTop (mkF m 100 #[.val (.int i0), .unset] [(.int (8192 : Int32)), (.int i0)])) t
      refine XS.icmpYes X0.here hx rfl (pc0 := 100) (pc' := 130) rfl (hb hby d3_100) rfl (tlt hc100_0).1 (by decide) (by decide) ?_
      exact k
    exact bk3_130 hx hZ hw hby hml hown hnm hret hlk X0 N0 e0 i0
  · rw [if_neg hc100_0]
    refine Done.of (T' := T0) (g' := (mkF m 107 #[.val (.int i0), .unset] [(.int (8303 : Int32)), (.int i0)])) (fun t k => ?_) ?_
    · show Steps p.tables e below (T0.setTop (mkF m 100 #[.val (.int i0), .unset] [(.int (8192 : Int32)), (.int i0)])) t
      refine XS.icmpNo X0.here hx rfl (hb hby d3_100) rfl (flt hc100_0).1 ?_
      show Steps p.tables e below (T0.setTop (mkF m 103 #[.val (.int i0), .unset] [])) t
      refine XS.iloadN X0.here hx rfl (hb hby d3_103) rfl ?_
      show Steps p.tables e below (T0.setTop (mkF m 104 #[.val (.int i0), .unset] [(.int i0)])) t
      refine XS.sipush X0.here hx rfl (hb hby d3_104) ?_
      exact k
    by_cases hc107_1 : (8303 : Int32) < i0
    · rw [if_pos hc107_1]
      refine Done.of (T' := T0) (g' := (mkF m 130 #[.val (.int i0), .unset] [])) (fun t k => ?_) ?_
      · show Steps p.tables e below (T0.setTop (mkF m 107 #[.val (.int i0), .unset] [(.int (8303 : Int32)), (.int i0)])) t
        refine XS.icmpYes X0.here hx rfl (pc0 := 107) (pc' := 130) rfl (hb hby d3_107) rfl (tlt hc107_1).2.2.1 (by decide) (by decide) ?_
        exact k
      exact bk3_130 hx hZ hw hby hml hown hnm hret hlk X0 N0 e0 i0
    · rw [if_neg hc107_1]
      refine Done.of (T' := T0) (g' := (mkF m 114 #[.val (.int i0), .unset] [(.int (8204 : Int32)), (.int i0)])) (fun t k => ?_) ?_
      · show Steps p.tables e below (T0.setTop (mkF m 107 #[.val (.int i0), .unset] [(.int (8303 : Int32)), (.int i0)])) t
        refine XS.icmpNo X0.here hx rfl (hb hby d3_107) rfl (flt hc107_1).2.2.1 ?_
        show Steps p.tables e below (T0.setTop (mkF m 110 #[.val (.int i0), .unset] [])) t
        refine XS.iloadN X0.here hx rfl (hb hby d3_110) rfl ?_
        show Steps p.tables e below (T0.setTop (mkF m 111 #[.val (.int i0), .unset] [(.int i0)])) t
        refine XS.sipush X0.here hx rfl (hb hby d3_111) ?_
        exact k
      by_cases hc114_2 : i0 = (8204 : Int32)
      · rw [if_pos hc114_2]
        refine Done.of (T' := T0) (g' := (mkF m 129 #[.val (.int i0), .unset] [(.int (1 : Int32))])) (fun t k => ?_) ?_
        · show Steps p.tables e below (T0.setTop (mkF m 114 #[.val (.int i0), .unset] [(.int (8204 : Int32)), (.int i0)])) t
          refine XS.icmpYes X0.here hx rfl (pc0 := 114) (pc' := 124) rfl (hb hby d3_114) rfl (teq hc114_2).1 (by decide) (by decide) ?_
          show Steps p.tables e below (T0.setTop (mkF m 124 #[.val (.int i0), .unset] [])) t
          refine XS.iconst X0.here hx rfl (hb hby d3_124) ?_
          show Steps p.tables e below (T0.setTop (mkF m 125 #[.val (.int i0), .unset] [(.int (1 : Int32))])) t
          refine XS.goto X0.here hx rfl (pc0 := 125) (pc' := 129) rfl (hb hby d3_125) (by decide) (by decide) ?_
          exact k
        exact doneN (t := .boolean) X0 (by simp) hx hret hlk (hb hby d3_129) ⟨rfl, N0, e0⟩ (by decide) (by decide)
      · rw [if_neg hc114_2]
        refine Done.of (T' := T0) (g' := (mkF m 121 #[.val (.int i0), .unset] [(.int (8205 : Int32)), (.int i0)])) (fun t k => ?_) ?_
        · show Steps p.tables e below (T0.setTop (mkF m 114 #[.val (.int i0), .unset] [(.int (8204 : Int32)), (.int i0)])) t
          refine XS.icmpNo X0.here hx rfl (hb hby d3_114) rfl (feq hc114_2).1 ?_
          show Steps p.tables e below (T0.setTop (mkF m 117 #[.val (.int i0), .unset] [])) t
          refine XS.iloadN X0.here hx rfl (hb hby d3_117) rfl ?_
          show Steps p.tables e below (T0.setTop (mkF m 118 #[.val (.int i0), .unset] [(.int i0)])) t
          refine XS.sipush X0.here hx rfl (hb hby d3_118) ?_
          exact k
        by_cases hc121_3 : i0 = (8205 : Int32)
        · rw [if_pos hc121_3]
          refine Done.of (T' := T0) (g' := (mkF m 129 #[.val (.int i0), .unset] [(.int (1 : Int32))])) (fun t k => ?_) ?_
          · show Steps p.tables e below (T0.setTop (mkF m 121 #[.val (.int i0), .unset] [(.int (8205 : Int32)), (.int i0)])) t
            refine XS.icmpNo X0.here hx rfl (hb hby d3_121) rfl (teq hc121_3).2 ?_
            show Steps p.tables e below (T0.setTop (mkF m 124 #[.val (.int i0), .unset] [])) t
            refine XS.iconst X0.here hx rfl (hb hby d3_124) ?_
            show Steps p.tables e below (T0.setTop (mkF m 125 #[.val (.int i0), .unset] [(.int (1 : Int32))])) t
            refine XS.goto X0.here hx rfl (pc0 := 125) (pc' := 129) rfl (hb hby d3_125) (by decide) (by decide) ?_
            exact k
          exact doneN (t := .boolean) X0 (by simp) hx hret hlk (hb hby d3_129) ⟨rfl, N0, e0⟩ (by decide) (by decide)
        · rw [if_neg hc121_3]
          refine Done.of (T' := T0) (g' := (mkF m 129 #[.val (.int i0), .unset] [(.int (0 : Int32))])) (fun t k => ?_) ?_
          · show Steps p.tables e below (T0.setTop (mkF m 121 #[.val (.int i0), .unset] [(.int (8205 : Int32)), (.int i0)])) t
            refine XS.icmpYes X0.here hx rfl (pc0 := 121) (pc' := 128) rfl (hb hby d3_121) rfl (feq hc121_3).2 (by decide) (by decide) ?_
            show Steps p.tables e below (T0.setTop (mkF m 128 #[.val (.int i0), .unset] [])) t
            refine XS.iconst X0.here hx rfl (hb hby d3_128) ?_
            exact k
          exact doneN (t := .boolean) X0 (by simp) hx hret hlk (hb hby d3_129) ⟨rfl, N0, e0⟩ (by decide) (by decide)
def F3_0 (p1 : Int32) : Int32 := (if p1 < (0 : Int32) then (0 : Int32) else (if (983039 : Int32) < p1 then (0 : Int32) else (if p1 < (128 : Int32) then (if p1 = (95 : Int32) then (1 : Int32) else (if (p1 ||| (32 : Int32)) < (97 : Int32) then (0 : Int32) else (if (122 : Int32) < (p1 ||| (32 : Int32)) then (0 : Int32) else (1 : Int32)))) else (if (191 : Int32) < p1 then (if p1 = (215 : Int32) then (0 : Int32) else (if p1 = (247 : Int32) then (0 : Int32) else (if p1 = (894 : Int32) then (0 : Int32) else (if p1 < (768 : Int32) then (F3_96 p1) else (if (879 : Int32) < p1 then (F3_96 p1) else (0 : Int32)))))) else (0 : Int32)))))
set_option maxRecDepth 65536 in
set_option maxHeartbeats 40000000 in
theorem bk3_0 {p : Program} {l : Launch} {e : Env} {s : State} {m : MethodId} {args : Array Value} {below : List Frame} {meth : Method} {c : Code} {T0 : State} {locs : List Loc} {Z : State} {a0 : Array Value} {h0 : Heap} {n0 : Nat}
    (hx : p.tables.exec = Jvm.exec) (hZ : Z.Warmed39 s.vm) (hw : ∀ d ∈ tables_1, d.before a0 Z = true) (hby : c.code = method_2_code) (hml : c.maxLocals = 2) (hown : s.vm.findClass "com/example/orbweave/orbweave/term/NameCharsIsPnCharsUPinLaw" = some m.cls) (hnm : meth.name = "ref") (hret : meth.sig.returnType = some .boolean) (hlk : meth.locks = false)
    (X0 : Stand p l e ({ frames := 0, cells := 0, slots := 0, locals := 0 } : Room) s m args below meth c T0 locs 0 0) (N0 : Fr n0 locs) (e0 : T0.heap = h0) (p1 : Int32) :
    Done p e below s ({ frames := 0, cells := 0, slots := 0, locals := 0 } : Room) (Qp h0 n0 (.int (F3_0 p1))) T0 (mkF m 0 #[.val (.int p1), .unset] []) := by
  unfold F3_0
  refine Done.of (T' := T0) (g' := (mkF m 1 #[.val (.int p1), .unset] [(.int p1)])) (fun t k => ?_) ?_
  · show Steps p.tables e below (T0.setTop (mkF m 0 #[.val (.int p1), .unset] [])) t
    refine XS.iloadN X0.here hx rfl (hb hby d3_0) rfl ?_
    exact k
  by_cases hc1_0 : p1 < (0 : Int32)
  · rw [if_pos hc1_0]
    refine Done.of (T' := T0) (g' := (mkF m 11 #[.val (.int p1), .unset] [(.int (0 : Int32))])) (fun t k => ?_) ?_
    · show Steps p.tables e below (T0.setTop (mkF m 1 #[.val (.int p1), .unset] [(.int p1)])) t
      refine XS.ifYes X0.here hx rfl (pc0 := 1) (pc' := 10) rfl (hb hby d3_1) rfl ((if0 _ _).trans (tlt hc1_0).1) (by decide) (by decide) ?_
      show Steps p.tables e below (T0.setTop (mkF m 10 #[.val (.int p1), .unset] [])) t
      refine XS.iconst X0.here hx rfl (hb hby d3_10) ?_
      exact k
    exact doneN (t := .boolean) X0 (by simp) hx hret hlk (hb hby d3_11) ⟨rfl, N0, e0⟩ (by decide) (by decide)
  · rw [if_neg hc1_0]
    refine Done.of (T' := T0) (g' := (mkF m 7 #[.val (.int p1), .unset] [(.int (983039 : Int32)), (.int p1)])) (fun t k => ?_) ?_
    · show Steps p.tables e below (T0.setTop (mkF m 1 #[.val (.int p1), .unset] [(.int p1)])) t
      refine XS.ifNo X0.here hx rfl (hb hby d3_1) rfl ((if0 _ _).trans (flt hc1_0).1) ?_
      show Steps p.tables e below (T0.setTop (mkF m 4 #[.val (.int p1), .unset] [])) t
      refine XS.iloadN X0.here hx rfl (hb hby d3_4) rfl ?_
      show Steps p.tables e below (T0.setTop (mkF m 5 #[.val (.int p1), .unset] [(.int p1)])) t
      refine X0.ldcInt hx hown (mvT hZ (hw _ (List.mem_of_getElem? (i := 7) rfl))) (g := (mkF m 5 #[.val (.int p1), .unset] [(.int p1)])) rfl (hb hby d3_5) _ ?_
      exact k
    by_cases hc7_1 : (983039 : Int32) < p1
    · rw [if_pos hc7_1]
      refine Done.of (T' := T0) (g' := (mkF m 11 #[.val (.int p1), .unset] [(.int (0 : Int32))])) (fun t k => ?_) ?_
      · show Steps p.tables e below (T0.setTop (mkF m 7 #[.val (.int p1), .unset] [(.int (983039 : Int32)), (.int p1)])) t
        refine XS.icmpNo X0.here hx rfl (hb hby d3_7) rfl (tlt hc7_1).2.2.2 ?_
        show Steps p.tables e below (T0.setTop (mkF m 10 #[.val (.int p1), .unset] [])) t
        refine XS.iconst X0.here hx rfl (hb hby d3_10) ?_
        exact k
      exact doneN (t := .boolean) X0 (by simp) hx hret hlk (hb hby d3_11) ⟨rfl, N0, e0⟩ (by decide) (by decide)
    · rw [if_neg hc7_1]
      refine Done.of (T' := T0) (g' := (mkF m 16 #[.val (.int p1), .unset] [(.int (128 : Int32)), (.int p1)])) (fun t k => ?_) ?_
      · show Steps p.tables e below (T0.setTop (mkF m 7 #[.val (.int p1), .unset] [(.int (983039 : Int32)), (.int p1)])) t
        refine XS.icmpYes X0.here hx rfl (pc0 := 7) (pc' := 12) rfl (hb hby d3_7) rfl (flt hc7_1).2.2.2 (by decide) (by decide) ?_
        show Steps p.tables e below (T0.setTop (mkF m 12 #[.val (.int p1), .unset] [])) t
        refine XS.iloadN X0.here hx rfl (hb hby d3_12) rfl ?_
        show Steps p.tables e below (T0.setTop (mkF m 13 #[.val (.int p1), .unset] [(.int p1)])) t
        refine XS.sipush X0.here hx rfl (hb hby d3_13) ?_
        exact k
      by_cases hc16_2 : p1 < (128 : Int32)
      · rw [if_pos hc16_2]
        refine Done.of (T' := T0) (g' := (mkF m 27 #[.val (.int p1), .val (.int (p1 ||| (32 : Int32)))] [(.int (95 : Int32)), (.int p1)])) (fun t k => ?_) ?_
        · show Steps p.tables e below (T0.setTop (mkF m 16 #[.val (.int p1), .unset] [(.int (128 : Int32)), (.int p1)])) t
          refine XS.icmpNo X0.here hx rfl (hb hby d3_16) rfl (tlt hc16_2).2.1 ?_
          show Steps p.tables e below (T0.setTop (mkF m 19 #[.val (.int p1), .unset] [])) t
          refine XS.iloadN X0.here hx rfl (hb hby d3_19) rfl ?_
          show Steps p.tables e below (T0.setTop (mkF m 20 #[.val (.int p1), .unset] [(.int p1)])) t
          refine XS.bipush X0.here hx rfl (hb hby d3_20) ?_
          show Steps p.tables e below (T0.setTop (mkF m 22 #[.val (.int p1), .unset] [(.int (32 : Int32)), (.int p1)])) t
          refine XS.ior X0.here hx rfl (hb hby d3_22) rfl ?_
          show Steps p.tables e below (T0.setTop (mkF m 23 #[.val (.int p1), .unset] [(.int (p1 ||| (32 : Int32)))])) t
          refine XS.istoreN X0.here hx rfl (hb hby d3_23) rfl (l' := #[.val (.int p1), .val (.int (p1 ||| (32 : Int32)))]) rfl ?_
          show Steps p.tables e below (T0.setTop (mkF m 24 #[.val (.int p1), .val (.int (p1 ||| (32 : Int32)))] [])) t
          refine XS.iloadN X0.here hx rfl (hb hby d3_24) rfl ?_
          show Steps p.tables e below (T0.setTop (mkF m 25 #[.val (.int p1), .val (.int (p1 ||| (32 : Int32)))] [(.int p1)])) t
          refine XS.bipush X0.here hx rfl (hb hby d3_25) ?_
          exact k
        by_cases hc27_3 : p1 = (95 : Int32)
        · rw [if_pos hc27_3]
          refine Done.of (T' := T0) (g' := (mkF m 47 #[.val (.int p1), .val (.int (p1 ||| (32 : Int32)))] [(.int (1 : Int32))])) (fun t k => ?_) ?_
          · show Steps p.tables e below (T0.setTop (mkF m 27 #[.val (.int p1), .val (.int (p1 ||| (32 : Int32)))] [(.int (95 : Int32)), (.int p1)])) t
            refine XS.icmpYes X0.here hx rfl (pc0 := 27) (pc' := 42) rfl (hb hby d3_27) rfl (teq hc27_3).1 (by decide) (by decide) ?_
            show Steps p.tables e below (T0.setTop (mkF m 42 #[.val (.int p1), .val (.int (p1 ||| (32 : Int32)))] [])) t
            refine XS.iconst X0.here hx rfl (hb hby d3_42) ?_
            show Steps p.tables e below (T0.setTop (mkF m 43 #[.val (.int p1), .val (.int (p1 ||| (32 : Int32)))] [(.int (1 : Int32))])) t
            refine XS.goto X0.here hx rfl (pc0 := 43) (pc' := 47) rfl (hb hby d3_43) (by decide) (by decide) ?_
            exact k
          exact doneN (t := .boolean) X0 (by simp) hx hret hlk (hb hby d3_47) ⟨rfl, N0, e0⟩ (by decide) (by decide)
        · rw [if_neg hc27_3]
          refine Done.of (T' := T0) (g' := (mkF m 33 #[.val (.int p1), .val (.int (p1 ||| (32 : Int32)))] [(.int (97 : Int32)), (.int (p1 ||| (32 : Int32)))])) (fun t k => ?_) ?_
          · show Steps p.tables e below (T0.setTop (mkF m 27 #[.val (.int p1), .val (.int (p1 ||| (32 : Int32)))] [(.int (95 : Int32)), (.int p1)])) t
            refine XS.icmpNo X0.here hx rfl (hb hby d3_27) rfl (feq hc27_3).1 ?_
            show Steps p.tables e below (T0.setTop (mkF m 30 #[.val (.int p1), .val (.int (p1 ||| (32 : Int32)))] [])) t
            refine XS.iloadN X0.here hx rfl (hb hby d3_30) rfl ?_
            show Steps p.tables e below (T0.setTop (mkF m 31 #[.val (.int p1), .val (.int (p1 ||| (32 : Int32)))] [(.int (p1 ||| (32 : Int32)))])) t
            refine XS.bipush X0.here hx rfl (hb hby d3_31) ?_
            exact k
          by_cases hc33_4 : (p1 ||| (32 : Int32)) < (97 : Int32)
          · rw [if_pos hc33_4]
            refine Done.of (T' := T0) (g' := (mkF m 47 #[.val (.int p1), .val (.int (p1 ||| (32 : Int32)))] [(.int (0 : Int32))])) (fun t k => ?_) ?_
            · show Steps p.tables e below (T0.setTop (mkF m 33 #[.val (.int p1), .val (.int (p1 ||| (32 : Int32)))] [(.int (97 : Int32)), (.int (p1 ||| (32 : Int32)))])) t
              refine XS.icmpYes X0.here hx rfl (pc0 := 33) (pc' := 46) rfl (hb hby d3_33) rfl (tlt hc33_4).1 (by decide) (by decide) ?_
              show Steps p.tables e below (T0.setTop (mkF m 46 #[.val (.int p1), .val (.int (p1 ||| (32 : Int32)))] [])) t
              refine XS.iconst X0.here hx rfl (hb hby d3_46) ?_
              exact k
            exact doneN (t := .boolean) X0 (by simp) hx hret hlk (hb hby d3_47) ⟨rfl, N0, e0⟩ (by decide) (by decide)
          · rw [if_neg hc33_4]
            refine Done.of (T' := T0) (g' := (mkF m 39 #[.val (.int p1), .val (.int (p1 ||| (32 : Int32)))] [(.int (122 : Int32)), (.int (p1 ||| (32 : Int32)))])) (fun t k => ?_) ?_
            · show Steps p.tables e below (T0.setTop (mkF m 33 #[.val (.int p1), .val (.int (p1 ||| (32 : Int32)))] [(.int (97 : Int32)), (.int (p1 ||| (32 : Int32)))])) t
              refine XS.icmpNo X0.here hx rfl (hb hby d3_33) rfl (flt hc33_4).1 ?_
              show Steps p.tables e below (T0.setTop (mkF m 36 #[.val (.int p1), .val (.int (p1 ||| (32 : Int32)))] [])) t
              refine XS.iloadN X0.here hx rfl (hb hby d3_36) rfl ?_
              show Steps p.tables e below (T0.setTop (mkF m 37 #[.val (.int p1), .val (.int (p1 ||| (32 : Int32)))] [(.int (p1 ||| (32 : Int32)))])) t
              refine XS.bipush X0.here hx rfl (hb hby d3_37) ?_
              exact k
            by_cases hc39_5 : (122 : Int32) < (p1 ||| (32 : Int32))
            · rw [if_pos hc39_5]
              refine Done.of (T' := T0) (g' := (mkF m 47 #[.val (.int p1), .val (.int (p1 ||| (32 : Int32)))] [(.int (0 : Int32))])) (fun t k => ?_) ?_
              · show Steps p.tables e below (T0.setTop (mkF m 39 #[.val (.int p1), .val (.int (p1 ||| (32 : Int32)))] [(.int (122 : Int32)), (.int (p1 ||| (32 : Int32)))])) t
                refine XS.icmpYes X0.here hx rfl (pc0 := 39) (pc' := 46) rfl (hb hby d3_39) rfl (tlt hc39_5).2.2.1 (by decide) (by decide) ?_
                show Steps p.tables e below (T0.setTop (mkF m 46 #[.val (.int p1), .val (.int (p1 ||| (32 : Int32)))] [])) t
                refine XS.iconst X0.here hx rfl (hb hby d3_46) ?_
                exact k
              exact doneN (t := .boolean) X0 (by simp) hx hret hlk (hb hby d3_47) ⟨rfl, N0, e0⟩ (by decide) (by decide)
            · rw [if_neg hc39_5]
              refine Done.of (T' := T0) (g' := (mkF m 47 #[.val (.int p1), .val (.int (p1 ||| (32 : Int32)))] [(.int (1 : Int32))])) (fun t k => ?_) ?_
              · show Steps p.tables e below (T0.setTop (mkF m 39 #[.val (.int p1), .val (.int (p1 ||| (32 : Int32)))] [(.int (122 : Int32)), (.int (p1 ||| (32 : Int32)))])) t
                refine XS.icmpNo X0.here hx rfl (hb hby d3_39) rfl (flt hc39_5).2.2.1 ?_
                show Steps p.tables e below (T0.setTop (mkF m 42 #[.val (.int p1), .val (.int (p1 ||| (32 : Int32)))] [])) t
                refine XS.iconst X0.here hx rfl (hb hby d3_42) ?_
                show Steps p.tables e below (T0.setTop (mkF m 43 #[.val (.int p1), .val (.int (p1 ||| (32 : Int32)))] [(.int (1 : Int32))])) t
                refine XS.goto X0.here hx rfl (pc0 := 43) (pc' := 47) rfl (hb hby d3_43) (by decide) (by decide) ?_
                exact k
              exact doneN (t := .boolean) X0 (by simp) hx hret hlk (hb hby d3_47) ⟨rfl, N0, e0⟩ (by decide) (by decide)
      · rw [if_neg hc16_2]
        refine Done.of (T' := T0) (g' := (mkF m 52 #[.val (.int p1), .unset] [(.int (191 : Int32)), (.int p1)])) (fun t k => ?_) ?_
        · show Steps p.tables e below (T0.setTop (mkF m 16 #[.val (.int p1), .unset] [(.int (128 : Int32)), (.int p1)])) t
          refine XS.icmpYes X0.here hx rfl (pc0 := 16) (pc' := 48) rfl (hb hby d3_16) rfl (flt hc16_2).2.1 (by decide) (by decide) ?_
          show Steps p.tables e below (T0.setTop (mkF m 48 #[.val (.int p1), .unset] [])) t
          refine XS.iloadN X0.here hx rfl (hb hby d3_48) rfl ?_
          show Steps p.tables e below (T0.setTop (mkF m 49 #[.val (.int p1), .unset] [(.int p1)])) t
          refine XS.sipush X0.here hx rfl (hb hby d3_49) ?_
          exact k
        by_cases hc52_6 : (191 : Int32) < p1
        · rw [if_pos hc52_6]
          refine Done.of (T' := T0) (g' := (mkF m 61 #[.val (.int p1), .unset] [(.int (215 : Int32)), (.int p1)])) (fun t k => ?_) ?_
          · show Steps p.tables e below (T0.setTop (mkF m 52 #[.val (.int p1), .unset] [(.int (191 : Int32)), (.int p1)])) t
            refine XS.icmpYes X0.here hx rfl (pc0 := 52) (pc' := 57) rfl (hb hby d3_52) rfl (tlt hc52_6).2.2.1 (by decide) (by decide) ?_
            show Steps p.tables e below (T0.setTop (mkF m 57 #[.val (.int p1), .unset] [])) t
            refine XS.iloadN X0.here hx rfl (hb hby d3_57) rfl ?_
            show Steps p.tables e below (T0.setTop (mkF m 58 #[.val (.int p1), .unset] [(.int p1)])) t
            refine XS.sipush X0.here hx rfl (hb hby d3_58) ?_
            exact k
          by_cases hc61_7 : p1 = (215 : Int32)
          · rw [if_pos hc61_7]
            refine Done.of (T' := T0) (g' := (mkF m 79 #[.val (.int p1), .unset] [(.int (0 : Int32))])) (fun t k => ?_) ?_
            · show Steps p.tables e below (T0.setTop (mkF m 61 #[.val (.int p1), .unset] [(.int (215 : Int32)), (.int p1)])) t
              refine XS.icmpYes X0.here hx rfl (pc0 := 61) (pc' := 78) rfl (hb hby d3_61) rfl (teq hc61_7).1 (by decide) (by decide) ?_
              show Steps p.tables e below (T0.setTop (mkF m 78 #[.val (.int p1), .unset] [])) t
              refine XS.iconst X0.here hx rfl (hb hby d3_78) ?_
              exact k
            exact doneN (t := .boolean) X0 (by simp) hx hret hlk (hb hby d3_79) ⟨rfl, N0, e0⟩ (by decide) (by decide)
          · rw [if_neg hc61_7]
            refine Done.of (T' := T0) (g' := (mkF m 68 #[.val (.int p1), .unset] [(.int (247 : Int32)), (.int p1)])) (fun t k => ?_) ?_
            · show Steps p.tables e below (T0.setTop (mkF m 61 #[.val (.int p1), .unset] [(.int (215 : Int32)), (.int p1)])) t
              refine XS.icmpNo X0.here hx rfl (hb hby d3_61) rfl (feq hc61_7).1 ?_
              show Steps p.tables e below (T0.setTop (mkF m 64 #[.val (.int p1), .unset] [])) t
              refine XS.iloadN X0.here hx rfl (hb hby d3_64) rfl ?_
              show Steps p.tables e below (T0.setTop (mkF m 65 #[.val (.int p1), .unset] [(.int p1)])) t
              refine XS.sipush X0.here hx rfl (hb hby d3_65) ?_
              exact k
            by_cases hc68_8 : p1 = (247 : Int32)
            · rw [if_pos hc68_8]
              refine Done.of (T' := T0) (g' := (mkF m 79 #[.val (.int p1), .unset] [(.int (0 : Int32))])) (fun t k => ?_) ?_
              · show Steps p.tables e below (T0.setTop (mkF m 68 #[.val (.int p1), .unset] [(.int (247 : Int32)), (.int p1)])) t
                refine XS.icmpYes X0.here hx rfl (pc0 := 68) (pc' := 78) rfl (hb hby d3_68) rfl (teq hc68_8).1 (by decide) (by decide) ?_
                show Steps p.tables e below (T0.setTop (mkF m 78 #[.val (.int p1), .unset] [])) t
                refine XS.iconst X0.here hx rfl (hb hby d3_78) ?_
                exact k
              exact doneN (t := .boolean) X0 (by simp) hx hret hlk (hb hby d3_79) ⟨rfl, N0, e0⟩ (by decide) (by decide)
            · rw [if_neg hc68_8]
              refine Done.of (T' := T0) (g' := (mkF m 75 #[.val (.int p1), .unset] [(.int (894 : Int32)), (.int p1)])) (fun t k => ?_) ?_
              · show Steps p.tables e below (T0.setTop (mkF m 68 #[.val (.int p1), .unset] [(.int (247 : Int32)), (.int p1)])) t
                refine XS.icmpNo X0.here hx rfl (hb hby d3_68) rfl (feq hc68_8).1 ?_
                show Steps p.tables e below (T0.setTop (mkF m 71 #[.val (.int p1), .unset] [])) t
                refine XS.iloadN X0.here hx rfl (hb hby d3_71) rfl ?_
                show Steps p.tables e below (T0.setTop (mkF m 72 #[.val (.int p1), .unset] [(.int p1)])) t
                refine XS.sipush X0.here hx rfl (hb hby d3_72) ?_
                exact k
              by_cases hc75_9 : p1 = (894 : Int32)
              · rw [if_pos hc75_9]
                refine Done.of (T' := T0) (g' := (mkF m 79 #[.val (.int p1), .unset] [(.int (0 : Int32))])) (fun t k => ?_) ?_
                · show Steps p.tables e below (T0.setTop (mkF m 75 #[.val (.int p1), .unset] [(.int (894 : Int32)), (.int p1)])) t
                  refine XS.icmpNo X0.here hx rfl (hb hby d3_75) rfl (teq hc75_9).2 ?_
                  show Steps p.tables e below (T0.setTop (mkF m 78 #[.val (.int p1), .unset] [])) t
                  refine XS.iconst X0.here hx rfl (hb hby d3_78) ?_
                  exact k
                exact doneN (t := .boolean) X0 (by simp) hx hret hlk (hb hby d3_79) ⟨rfl, N0, e0⟩ (by decide) (by decide)
              · rw [if_neg hc75_9]
                refine Done.of (T' := T0) (g' := (mkF m 84 #[.val (.int p1), .unset] [(.int (768 : Int32)), (.int p1)])) (fun t k => ?_) ?_
                · show Steps p.tables e below (T0.setTop (mkF m 75 #[.val (.int p1), .unset] [(.int (894 : Int32)), (.int p1)])) t
                  refine XS.icmpYes X0.here hx rfl (pc0 := 75) (pc' := 80) rfl (hb hby d3_75) rfl (feq hc75_9).2 (by decide) (by decide) ?_
                  show Steps p.tables e below (T0.setTop (mkF m 80 #[.val (.int p1), .unset] [])) t
                  refine XS.iloadN X0.here hx rfl (hb hby d3_80) rfl ?_
                  show Steps p.tables e below (T0.setTop (mkF m 81 #[.val (.int p1), .unset] [(.int p1)])) t
                  refine XS.sipush X0.here hx rfl (hb hby d3_81) ?_
                  exact k
                by_cases hc84_10 : p1 < (768 : Int32)
                · rw [if_pos hc84_10]
                  refine Done.of (T' := T0) (g' := (mkF m 96 #[.val (.int p1), .unset] [])) (fun t k => ?_) ?_
                  · show Steps p.tables e below (T0.setTop (mkF m 84 #[.val (.int p1), .unset] [(.int (768 : Int32)), (.int p1)])) t
                    refine XS.icmpYes X0.here hx rfl (pc0 := 84) (pc' := 96) rfl (hb hby d3_84) rfl (tlt hc84_10).1 (by decide) (by decide) ?_
                    exact k
                  exact bk3_96 hx hZ hw hby hml hown hnm hret hlk X0 N0 e0 p1
                · rw [if_neg hc84_10]
                  refine Done.of (T' := T0) (g' := (mkF m 91 #[.val (.int p1), .unset] [(.int (879 : Int32)), (.int p1)])) (fun t k => ?_) ?_
                  · show Steps p.tables e below (T0.setTop (mkF m 84 #[.val (.int p1), .unset] [(.int (768 : Int32)), (.int p1)])) t
                    refine XS.icmpNo X0.here hx rfl (hb hby d3_84) rfl (flt hc84_10).1 ?_
                    show Steps p.tables e below (T0.setTop (mkF m 87 #[.val (.int p1), .unset] [])) t
                    refine XS.iloadN X0.here hx rfl (hb hby d3_87) rfl ?_
                    show Steps p.tables e below (T0.setTop (mkF m 88 #[.val (.int p1), .unset] [(.int p1)])) t
                    refine XS.sipush X0.here hx rfl (hb hby d3_88) ?_
                    exact k
                  by_cases hc91_11 : (879 : Int32) < p1
                  · rw [if_pos hc91_11]
                    refine Done.of (T' := T0) (g' := (mkF m 96 #[.val (.int p1), .unset] [])) (fun t k => ?_) ?_
                    · show Steps p.tables e below (T0.setTop (mkF m 91 #[.val (.int p1), .unset] [(.int (879 : Int32)), (.int p1)])) t
                      refine XS.icmpYes X0.here hx rfl (pc0 := 91) (pc' := 96) rfl (hb hby d3_91) rfl (tlt hc91_11).2.2.1 (by decide) (by decide) ?_
                      exact k
                    exact bk3_96 hx hZ hw hby hml hown hnm hret hlk X0 N0 e0 p1
                  · rw [if_neg hc91_11]
                    refine Done.of (T' := T0) (g' := (mkF m 95 #[.val (.int p1), .unset] [(.int (0 : Int32))])) (fun t k => ?_) ?_
                    · show Steps p.tables e below (T0.setTop (mkF m 91 #[.val (.int p1), .unset] [(.int (879 : Int32)), (.int p1)])) t
                      refine XS.icmpNo X0.here hx rfl (hb hby d3_91) rfl (flt hc91_11).2.2.1 ?_
                      show Steps p.tables e below (T0.setTop (mkF m 94 #[.val (.int p1), .unset] [])) t
                      refine XS.iconst X0.here hx rfl (hb hby d3_94) ?_
                      exact k
                    exact doneN (t := .boolean) X0 (by simp) hx hret hlk (hb hby d3_95) ⟨rfl, N0, e0⟩ (by decide) (by decide)
        · rw [if_neg hc52_6]
          refine Done.of (T' := T0) (g' := (mkF m 56 #[.val (.int p1), .unset] [(.int (0 : Int32))])) (fun t k => ?_) ?_
          · show Steps p.tables e below (T0.setTop (mkF m 52 #[.val (.int p1), .unset] [(.int (191 : Int32)), (.int p1)])) t
            refine XS.icmpNo X0.here hx rfl (hb hby d3_52) rfl (flt hc52_6).2.2.1 ?_
            show Steps p.tables e below (T0.setTop (mkF m 55 #[.val (.int p1), .unset] [])) t
            refine XS.iconst X0.here hx rfl (hb hby d3_55) ?_
            exact k
          exact doneN (t := .boolean) X0 (by simp) hx hret hlk (hb hby d3_56) ⟨rfl, N0, e0⟩ (by decide) (by decide)
theorem ef_3 (m : MethodId) (p1 : Int32) : entryFrame m #[(.int p1)] 2 = mkF m 0 #[.val (.int p1), .unset] [] := by first | (simp [entryFrame, mkF, argsToLocals, Value.category, maxLocals]; done) | rfl
theorem pn_3 : plainName "com/example/orbweave/orbweave/term/NameCharsIsPnCharsUPinLaw" = true := by first | (simp [plainName, overriddenIn]; done) | decide +kernel
set_option maxRecDepth 65536 in
set_option maxHeartbeats 40000000 in
theorem rm3 (l : Launch) (Z : State) (a0 : Array Value) (hw : ∀ d ∈ tables_1, d.before a0 Z = true) (ws : List Jvm.Cond) (p1 : Int32) (h0 : Heap) (n0 : Nat) :
    MetFree l (⟨"com/example/orbweave/orbweave/term/NameCharsIsPnCharsUPinLaw", "ref", "(I)Z"⟩ : MethodName) (head1 (Jvm.Cond.code (⟨"com/example/orbweave/orbweave/term/NameCharsIsPnCharsUPinLaw", "ref", "(I)Z"⟩ : MethodName) method_2_code 2 (some .boolean) :: ws) ({ frames := 0, cells := 0, slots := 0, locals := 0 } : Room)) (fun a U => a = #[(.int p1)] ∧ Z.Warmed39 U.vm ∧ U.heap = h0) (fun _ _ _ _ _ => True) (fun _ U o U' => ∃ v L, o = .returned v ∧ (Qp h0 n0 (.int (F3_0 p1))) v U'.heap L ∧ FrameEnd U o U' L ({ frames := 0, cells := 0, slots := 0, locals := 0 } : Room).cells ({ frames := 0, cells := 0, slots := 0, locals := 0 } : Room).slots) := by
  refine MetFree.of_bodySF (plainFor_of_name pn_3) hisR ?_
  intro p e s m args below meth c s₁ Bd hml0 hP hK
  obtain ⟨rfl, hZ, hh⟩ := hP
  have hown : s.vm.findClass "com/example/orbweave/orbweave/term/NameCharsIsPnCharsUPinLaw" = some m.cls := findClass_of_methodNamed Bd.named
  have hnm := (name_of_methodNamed Bd.named Bd.method).1
  have X0 : Stand p l e ({ frames := 0, cells := 0, slots := 0, locals := 0 } : Room) s m #[(.int p1)] below meth c s₁ [] 0 0 := Stand.of_body Bd
  have e0 : s₁.heap = h0 := by rw [← hh, Bd.state]; rfl
  have d := bk3_0 (n0 := n0) Bd.exec hZ hw Bd.bytes hml0 hown hnm Bd.returns (BodyLoose.notSynchronized Bd) X0 (Fr.nil n0) e0 p1
  have d2 : Done p e below s ({ frames := 0, cells := 0, slots := 0, locals := 0 } : Room) (Qp h0 n0 (.int (F3_0 p1))) s₁ (entryFrame m #[(.int p1)] 2) := by rw [ef_3]; exact d
  exact d2
def own_tab : List Int32 := [(0 : Int32), (65 : Int32), (90 : Int32), (95 : Int32), (97 : Int32), (122 : Int32), (192 : Int32), (214 : Int32), (215 : Int32), (216 : Int32), (246 : Int32), (247 : Int32), (248 : Int32), (767 : Int32), (880 : Int32), (893 : Int32), (894 : Int32), (895 : Int32), (8191 : Int32), (8204 : Int32), (8205 : Int32), (8304 : Int32), (8591 : Int32), (11264 : Int32), (12271 : Int32), (12289 : Int32), (55295 : Int32), (63744 : Int32), (64975 : Int32), (65008 : Int32), (65533 : Int32), (65536 : Int32), (983039 : Int32), (-2147483648 : Int32), (2147483647 : Int32)]
theorem own_in (p2 : Int32) : ¬ (((p2 &&& (268435455 : Int32)) % (35 : Int32)) < 0) ∧ ((p2 &&& (268435455 : Int32)) % (35 : Int32)) < (35 : Int32) := by
  have m := c_and p2 268435455 (by decide)
  have r := (c_irem (p2 &&& 268435455) 35 35 rfl).1 m.1
  have l0 : (0 : Int32).toInt = 0 := rfl
  have l1 : (35 : Int32).toInt = 35 := rfl
  rw [Int32.lt_iff_toInt_lt, Int32.lt_iff_toInt_lt]; omega
theorem own_or (p : Int32) : (p ||| 32).toInt = p.toInt + 32 * (1 - (p.toInt / 32) % 2) := by
  have r := rng32 p
  have hb : p.toBitVec.getLsbD 5 = decide ((p.toInt / 32) % 2 = 1) := by
    rw [BitVec.getLsbD, Nat.testBit_eq_decide_div_mod_eq]
    have : p.toInt = p.toBitVec.toInt := rfl
    rw [this, BitVec.toInt_eq_toNat_cond]
    have := p.toBitVec.isLt
    congr 1
    apply propext
    split <;> omega
  have bits : ∀ i : Fin 32, (32 : Int32).toBitVec.getLsbD i.1 = decide (i.1 = 5) := by decide
  by_cases h : (p.toInt / 32) % 2 = 1
  · have e : p ||| 32 = p := by
      apply Int32.toBitVec_inj.mp
      apply BitVec.eq_of_getLsbD_eq
      intro i hi
      rw [Int32.toBitVec_or, BitVec.getLsbD_or, bits ⟨i, hi⟩]
      by_cases q : i = 5
      · subst q; rw [hb]; simp [h]
      · simp [q]
    rw [e]; omega
  · have e : p ||| 32 = p + 32 := by
      apply Int32.toBitVec_inj.mp
      show p.toBitVec ||| (32 : Int32).toBitVec = p.toBitVec + (32 : Int32).toBitVec
      refine (BitVec.add_eq_or_of_and_eq_zero _ _ ?_).symm
      apply BitVec.eq_of_getLsbD_eq
      intro i hi
      rw [BitVec.getLsbD_and, bits ⟨i, hi⟩]
      by_cases q : i = 5
      · subst q; rw [hb]; simp [h]
      · simp [q]
    have ha := c_iadd p 32
    have ra := rng32 (p + 32)
    have l : (32 : Int32).toInt = 32 := rfl
    rw [e]; omega
def F0_287 (i0 : Int32) (i1 : Int32) (i3 : Int32) (i4 : Int32) : Int32 := (if (F1_0 i4) = (F3_0 i4) then (1 : Int32) else (0 : Int32))
set_option maxRecDepth 65536 in
set_option maxHeartbeats 40000000 in
theorem bk0_287 {p : Program} {l : Launch} {e : Env} {s : State} {m : MethodId} {args : Array Value} {below : List Frame} {meth : Method} {c : Code} {T0 : State} {locs : List Loc} {Z : State} {a0 : Array Value} {h0 : Heap} {n0 : Nat}
    (hx : p.tables.exec = Jvm.exec) (hZ : Z.Warmed39 s.vm) (hw : ∀ d ∈ tables_1, d.before a0 Z = true) (hby : c.code = code) (hml : c.maxLocals = 7) (hown : s.vm.findClass "com/example/orbweave/orbweave/term/NameCharsIsPnCharsUPinLaw" = some m.cls) (hnm : meth.name = "law") (hret : meth.sig.returnType = some .boolean) (hlk : meth.locks = false)
    (X0 : Stand p l e room_1 s m args below meth c T0 locs 1 35) (N0 : Fr n0 locs) (e0 : T0.heap = h0) (i0 : Int32) (i1 : Int32) (o2 : Addr) (i3 : Int32) (i4 : Int32) (s5 : Slot) (s6 : Slot) (hs5 : One s5) (hs6 : One s6) (Z0 : n0 ≤ h0.size) (g_o2 : n0 ≤ o2) :
    Done p e below s room_1 (Ql n0 (.int (F0_287 i0 i1 i3 i4))) T0 (mkF m 287 #[.val (.int i0), .val (.int i1), .val (.ref o2), .val (.int i3), .val (.int i4), s5, s6] []) := by
  unfold F0_287
  refine Done.of (T' := T0) (g' := (mkF m 289 #[.val (.int i0), .val (.int i1), .val (.ref o2), .val (.int i3), .val (.int i4), s5, s6] [(.int i4)])) (fun t k => ?_) ?_
  · show Steps p.tables e below (T0.setTop (mkF m 287 #[.val (.int i0), .val (.int i1), .val (.ref o2), .val (.int i3), .val (.int i4), s5, s6] [])) t
    refine XS.iload X0.here hx rfl (hb hby at_287) rfl ?_
    exact k
  obtain ⟨_, _, ⟨T1, L1, k1, n1⟩, -, X1, ⟨Lc1, hQ1, l1, y1, z1⟩, st1⟩ := Jvm.LawKit.callS X0 hx (y := (⟨"com/example/orbweave/orbweave/term/NameChars", "isPnCharsU", "(I)Z"⟩ : MethodName)) hown (mvT hZ (hw _ (List.mem_of_getElem? (i := 10) rfl))) (mvT hZ (hw _ (List.mem_of_getElem? (i := 11) rfl))) (mvT hZ (hw _ (List.mem_of_getElem? (i := 12) rfl))) (mvT hZ (hw _ (List.mem_of_getElem? (i := 13) rfl))) (by decide) (backOf (W := 0) (rm1 l Z a0 hw [] i4 h0 n0) hZ (hw _ (List.mem_of_getElem? (i := 13) rfl)) (hw _ (List.mem_of_getElem? (i := 12) rfl)) (by decide) (by decide)) (g := (mkF m 289 #[.val (.int i0), .val (.int i1), .val (.ref o2), .val (.int i3), .val (.int i4), s5, s6] [(.int i4)])) rfl (by rw [hml]; rfl) (argsL := [(.int i4)]) (rest := []) (lenOf pd_0 rfl) rfl (by show 2 * 0 + _ ≤ _; exact Nat.le_of_eq rfl) (hb hby at_289) (fun _ _ => ⟨rfl, e0, (by decide : 1 + 0 ≤ _), (by decide : 35 + 0 ≤ _)⟩)
  dsimp only [Pt.U, Pt.locs, Pt.cells, Pt.slots] at X1 l1 y1 z1 st1 hQ1
  subst l1 y1 z1
  obtain ⟨rfl, N1q, e1⟩ := hQ1
  have N1 := Fr.app N0 N1q
  replace X1 : Stand p l e room_1 s m args below meth c T1 _ 1 35 := X1
  refine Done.of (g' := (mkF m 292 #[.val (.int i0), .val (.int i1), .val (.ref o2), .val (.int i3), .val (.int i4), s5, s6] [(.int (F1_0 i4))])) st1 ?_
  refine Done.of (T' := T1) (g' := (mkF m 294 #[.val (.int i0), .val (.int i1), .val (.ref o2), .val (.int i3), .val (.int i4), s5, s6] [(.int i4), (.int (F1_0 i4))])) (fun t k => ?_) ?_
  · show Steps p.tables e below (T1.setTop (mkF m 292 #[.val (.int i0), .val (.int i1), .val (.ref o2), .val (.int i3), .val (.int i4), s5, s6] [(.int (F1_0 i4))])) t
    refine XS.iload X1.here hx rfl (hb hby at_292) rfl ?_
    exact k
  obtain ⟨_, _, ⟨T2, L2, k2, n2⟩, -, X2, ⟨Lc2, hQ2, l2, y2, z2⟩, st2⟩ := Jvm.LawKit.callS X1 hx (y := (⟨"com/example/orbweave/orbweave/term/NameCharsIsPnCharsUPinLaw", "ref", "(I)Z"⟩ : MethodName)) hown (mvT hZ (hw _ (List.mem_of_getElem? (i := 20) rfl))) (mvT hZ (hw _ (List.mem_of_getElem? (i := 21) rfl))) (mvT hZ (hw _ (List.mem_of_getElem? (i := 22) rfl))) (mvT hZ (hw _ (List.mem_of_getElem? (i := 23) rfl))) (by decide) (backOf (W := 1) (rm3 l Z a0 hw [] i4 h0 n0) hZ (hw _ (List.mem_of_getElem? (i := 23) rfl)) (hw _ (List.mem_of_getElem? (i := 22) rfl)) (by decide) (by decide)) (g := (mkF m 294 #[.val (.int i0), .val (.int i1), .val (.ref o2), .val (.int i3), .val (.int i4), s5, s6] [(.int i4), (.int (F1_0 i4))])) rfl (by rw [hml]; rfl) (argsL := [(.int i4)]) (rest := [(.int (F1_0 i4))]) (lenOf pd_0 rfl) rfl (by show 2 * 0 + _ ≤ _; exact Nat.le_of_eq rfl) (hb hby at_294) (fun _ _ => ⟨rfl, e1, (by decide : 1 + 0 ≤ _), (by decide : 35 + 0 ≤ _)⟩)
  dsimp only [Pt.U, Pt.locs, Pt.cells, Pt.slots] at X2 l2 y2 z2 st2 hQ2
  subst l2 y2 z2
  obtain ⟨rfl, N2q, e2⟩ := hQ2
  have N2 := Fr.app N1 N2q
  replace X2 : Stand p l e room_1 s m args below meth c T2 _ 1 35 := X2
  refine Done.of (g' := (mkF m 297 #[.val (.int i0), .val (.int i1), .val (.ref o2), .val (.int i3), .val (.int i4), s5, s6] [(.int (F3_0 i4)), (.int (F1_0 i4))])) st2 ?_
  by_cases hc297_2 : (F1_0 i4) = (F3_0 i4)
  · rw [if_pos hc297_2]
    refine Done.of (T' := T2) (g' := (mkF m 305 #[.val (.int i0), .val (.int i1), .val (.ref o2), .val (.int i3), .val (.int i4), s5, s6] [(.int (1 : Int32))])) (fun t k => ?_) ?_
    · show Steps p.tables e below (T2.setTop (mkF m 297 #[.val (.int i0), .val (.int i1), .val (.ref o2), .val (.int i3), .val (.int i4), s5, s6] [(.int (F3_0 i4)), (.int (F1_0 i4))])) t
      refine XS.icmpNo X2.here hx rfl (hb hby at_297) rfl (teq hc297_2).2 ?_
      show Steps p.tables e below (T2.setTop (mkF m 300 #[.val (.int i0), .val (.int i1), .val (.ref o2), .val (.int i3), .val (.int i4), s5, s6] [])) t
      refine XS.iconst X2.here hx rfl (hb hby at_300) ?_
      show Steps p.tables e below (T2.setTop (mkF m 301 #[.val (.int i0), .val (.int i1), .val (.ref o2), .val (.int i3), .val (.int i4), s5, s6] [(.int (1 : Int32))])) t
      refine XS.goto X2.here hx rfl (pc0 := 301) (pc' := 305) rfl (hb hby at_301) (by decide) (by decide) ?_
      exact k
    exact doneN (t := .boolean) X2 (by simp) hx hret hlk (hb hby at_305) ⟨rfl, N2⟩ (by decide) (by decide)
  · rw [if_neg hc297_2]
    refine Done.of (T' := T2) (g' := (mkF m 305 #[.val (.int i0), .val (.int i1), .val (.ref o2), .val (.int i3), .val (.int i4), s5, s6] [(.int (0 : Int32))])) (fun t k => ?_) ?_
    · show Steps p.tables e below (T2.setTop (mkF m 297 #[.val (.int i0), .val (.int i1), .val (.ref o2), .val (.int i3), .val (.int i4), s5, s6] [(.int (F3_0 i4)), (.int (F1_0 i4))])) t
      refine XS.icmpYes X2.here hx rfl (pc0 := 297) (pc' := 304) rfl (hb hby at_297) rfl (feq hc297_2).2 (by decide) (by decide) ?_
      show Steps p.tables e below (T2.setTop (mkF m 304 #[.val (.int i0), .val (.int i1), .val (.ref o2), .val (.int i3), .val (.int i4), s5, s6] [])) t
      refine XS.iconst X2.here hx rfl (hb hby at_304) ?_
      exact k
    exact doneN (t := .boolean) X2 (by simp) hx hret hlk (hb hby at_305) ⟨rfl, N2⟩ (by decide) (by decide)
def F0_0 (p1 : Int32) (p2 : Int32) : Int32 := (if (((p2.toUInt32 >>> ((28 : Int32) &&& 31).toUInt32).toInt32) &&& (3 : Int32)) = (0 : Int32) then (F0_287 p1 p2 (((p2.toUInt32 >>> ((28 : Int32) &&& 31).toUInt32).toInt32) &&& (3 : Int32)) p1) else (if (((p2.toUInt32 >>> ((28 : Int32) &&& 31).toUInt32).toInt32) &&& (3 : Int32)) = (1 : Int32) then (F0_287 p1 p2 (((p2.toUInt32 >>> ((28 : Int32) &&& 31).toUInt32).toInt32) &&& (3 : Int32)) (p1 &&& (65535 : Int32))) else (F0_287 p1 p2 (((p2.toUInt32 >>> ((28 : Int32) &&& 31).toUInt32).toInt32) &&& (3 : Int32)) ((own_tab.getD (((p2 &&& (268435455 : Int32)) % (35 : Int32))).toNatClampNeg 0) + (((p1 &&& (2147483647 : Int32)) % (3 : Int32)) - (1 : Int32))))))
set_option maxRecDepth 65536 in
set_option maxHeartbeats 40000000 in
theorem bk0_0 {p : Program} {l : Launch} {e : Env} {s : State} {m : MethodId} {args : Array Value} {below : List Frame} {meth : Method} {c : Code} {T0 : State} {locs : List Loc} {Z : State} {a0 : Array Value} {h0 : Heap} {n0 : Nat}
    (hx : p.tables.exec = Jvm.exec) (hZ : Z.Warmed39 s.vm) (hw : ∀ d ∈ tables_1, d.before a0 Z = true) (hby : c.code = code) (hml : c.maxLocals = 7) (hown : s.vm.findClass "com/example/orbweave/orbweave/term/NameCharsIsPnCharsUPinLaw" = some m.cls) (hnm : meth.name = "law") (hret : meth.sig.returnType = some .boolean) (hlk : meth.locks = false)
    (X0 : Stand p l e room_1 s m args below meth c T0 locs 0 0) (N0 : Fr n0 locs) (e0 : T0.heap = h0) (p1 : Int32) (p2 : Int32) (Z0 : n0 ≤ h0.size) :
    Done p e below s room_1 (Ql n0 (.int (F0_0 p1 p2))) T0 (mkF m 0 #[.val (.int p1), .val (.int p2), .unset, .unset, .unset, .unset, .unset] []) := by
  unfold F0_0
  refine Done.of (T' := T0) (g' := (mkF m 2 #[.val (.int p1), .val (.int p2), .unset, .unset, .unset, .unset, .unset] [(.int (35 : Int32))])) (fun t k => ?_) ?_
  · show Steps p.tables e below (T0.setTop (mkF m 0 #[.val (.int p1), .val (.int p2), .unset, .unset, .unset, .unset, .unset] [])) t
    refine XS.bipush X0.here hx rfl (hb hby at_0) ?_
    exact k
  obtain ⟨T1, h1, k1, X1, e1, E1, A1, st1⟩ := newP X0 hx hZ (hw _ (List.mem_of_getElem? (i := 0) rfl)) e0 (g := (mkF m 2 #[.val (.int p1), .val (.int p2), .unset, .unset, .unset, .unset, .unset] [(.int (35 : Int32))])) rfl (hb hby at_2) rfl (by decide) (cap := 35) (by decide) (by decide) (by decide) (by decide)
  obtain ⟨b1, g1⟩ : ∃ z, z = h0.size := ⟨_, rfl⟩
  rw [← g1] at A1 st1
  have V1 : Arv Z h1 b1 k1 .int (35 : Int32) [(.int (0 : Int32)), (.int (0 : Int32)), (.int (0 : Int32)), (.int (0 : Int32)), (.int (0 : Int32)), (.int (0 : Int32)), (.int (0 : Int32)), (.int (0 : Int32)), (.int (0 : Int32)), (.int (0 : Int32)), (.int (0 : Int32)), (.int (0 : Int32)), (.int (0 : Int32)), (.int (0 : Int32)), (.int (0 : Int32)), (.int (0 : Int32)), (.int (0 : Int32)), (.int (0 : Int32)), (.int (0 : Int32)), (.int (0 : Int32)), (.int (0 : Int32)), (.int (0 : Int32)), (.int (0 : Int32)), (.int (0 : Int32)), (.int (0 : Int32)), (.int (0 : Int32)), (.int (0 : Int32)), (.int (0 : Int32)), (.int (0 : Int32)), (.int (0 : Int32)), (.int (0 : Int32)), (.int (0 : Int32)), (.int (0 : Int32)), (.int (0 : Int32)), (.int (0 : Int32))] (.int (0 : Int32)) := (Arv.new A1 (by decide)).pad (pad_rep [] (.int (0 : Int32)) 35)
  have g_b1 : n0 ≤ b1 := Nat.le_trans Z0 (Nat.le_of_eq g1.symm)
  refine Done.of (g' := (mkF m 4 #[.val (.int p1), .val (.int p2), .unset, .unset, .unset, .unset, .unset] [(.ref b1)])) st1 ?_
  refine Done.of (T' := T1) (g' := (mkF m 7 #[.val (.int p1), .val (.int p2), .unset, .unset, .unset, .unset, .unset] [(.int (0 : Int32)), (.int (0 : Int32)), (.ref b1), (.ref b1)])) (fun t k => ?_) ?_
  · show Steps p.tables e below (T1.setTop (mkF m 4 #[.val (.int p1), .val (.int p2), .unset, .unset, .unset, .unset, .unset] [(.ref b1)])) t
    refine XS.dup X1.here hx rfl (hb hby at_4) rfl rfl ?_
    show Steps p.tables e below (T1.setTop (mkF m 5 #[.val (.int p1), .val (.int p2), .unset, .unset, .unset, .unset, .unset] [(.ref b1), (.ref b1)])) t
    refine XS.iconst X1.here hx rfl (hb hby at_5) ?_
    show Steps p.tables e below (T1.setTop (mkF m 6 #[.val (.int p1), .val (.int p2), .unset, .unset, .unset, .unset, .unset] [(.int (0 : Int32)), (.ref b1), (.ref b1)])) t
    refine XS.iconst X1.here hx rfl (hb hby at_6) ?_
    exact k
  obtain ⟨cl_o3, Ar_o3, q_o3, S_o3, Nn_o3, H_o3, G_o3⟩ := id V1
  have hin2 : ¬ ((0 : Int32) < 0 ∨ cl_o3.slots.size ≤ ((0 : Int32)).toNatClampNeg) := inb_of S_o3 ⟨by decide, by decide⟩
  obtain ⟨T2, h2, X2, e2, W2, st2⟩ := stI X1 hx hZ e1 Ar_o3 (j := (0 : Int32)) hin2 (g := (mkF m 7 #[.val (.int p1), .val (.int p2), .unset, .unset, .unset, .unset, .unset] [(.int (0 : Int32)), (.int (0 : Int32)), (.ref b1), (.ref b1)])) rfl rfl (hb hby at_7)
  have V2 : Arv Z h2 b1 k1 .int (35 : Int32) [(.int (0 : Int32)), (.int (0 : Int32)), (.int (0 : Int32)), (.int (0 : Int32)), (.int (0 : Int32)), (.int (0 : Int32)), (.int (0 : Int32)), (.int (0 : Int32)), (.int (0 : Int32)), (.int (0 : Int32)), (.int (0 : Int32)), (.int (0 : Int32)), (.int (0 : Int32)), (.int (0 : Int32)), (.int (0 : Int32)), (.int (0 : Int32)), (.int (0 : Int32)), (.int (0 : Int32)), (.int (0 : Int32)), (.int (0 : Int32)), (.int (0 : Int32)), (.int (0 : Int32)), (.int (0 : Int32)), (.int (0 : Int32)), (.int (0 : Int32)), (.int (0 : Int32)), (.int (0 : Int32)), (.int (0 : Int32)), (.int (0 : Int32)), (.int (0 : Int32)), (.int (0 : Int32)), (.int (0 : Int32)), (.int (0 : Int32)), (.int (0 : Int32)), (.int (0 : Int32))] (.int (0 : Int32)) := Arv.set Ar_o3 q_o3 S_o3 Nn_o3 H_o3 G_o3 rfl W2 0 rfl (Nat.le_of_ble_eq_true rfl)
  have N2 := Fr.snoc X2 N0 g_b1
  refine Done.of (g' := (mkF m 8 #[.val (.int p1), .val (.int p2), .unset, .unset, .unset, .unset, .unset] [(.ref b1)])) st2 ?_
  refine Done.of (T' := T2) (g' := (mkF m 12 #[.val (.int p1), .val (.int p2), .unset, .unset, .unset, .unset, .unset] [(.int (65 : Int32)), (.int (1 : Int32)), (.ref b1), (.ref b1)])) (fun t k => ?_) ?_
  · show Steps p.tables e below (T2.setTop (mkF m 8 #[.val (.int p1), .val (.int p2), .unset, .unset, .unset, .unset, .unset] [(.ref b1)])) t
    refine XS.dup X2.here hx rfl (hb hby at_8) rfl rfl ?_
    show Steps p.tables e below (T2.setTop (mkF m 9 #[.val (.int p1), .val (.int p2), .unset, .unset, .unset, .unset, .unset] [(.ref b1), (.ref b1)])) t
    refine XS.iconst X2.here hx rfl (hb hby at_9) ?_
    show Steps p.tables e below (T2.setTop (mkF m 10 #[.val (.int p1), .val (.int p2), .unset, .unset, .unset, .unset, .unset] [(.int (1 : Int32)), (.ref b1), (.ref b1)])) t
    refine XS.bipush X2.here hx rfl (hb hby at_10) ?_
    exact k
  obtain ⟨cl_o5, Ar_o5, q_o5, S_o5, Nn_o5, H_o5, G_o5⟩ := id V2
  have hin4 : ¬ ((1 : Int32) < 0 ∨ cl_o5.slots.size ≤ ((1 : Int32)).toNatClampNeg) := inb_of S_o5 ⟨by decide, by decide⟩
  obtain ⟨T4, h4, X4, e4, W4, st4⟩ := stI X2 hx hZ e2 Ar_o5 (j := (1 : Int32)) hin4 (g := (mkF m 12 #[.val (.int p1), .val (.int p2), .unset, .unset, .unset, .unset, .unset] [(.int (65 : Int32)), (.int (1 : Int32)), (.ref b1), (.ref b1)])) rfl rfl (hb hby at_12)
  have V4 : Arv Z h4 b1 k1 .int (35 : Int32) [(.int (0 : Int32)), (.int (65 : Int32)), (.int (0 : Int32)), (.int (0 : Int32)), (.int (0 : Int32)), (.int (0 : Int32)), (.int (0 : Int32)), (.int (0 : Int32)), (.int (0 : Int32)), (.int (0 : Int32)), (.int (0 : Int32)), (.int (0 : Int32)), (.int (0 : Int32)), (.int (0 : Int32)), (.int (0 : Int32)), (.int (0 : Int32)), (.int (0 : Int32)), (.int (0 : Int32)), (.int (0 : Int32)), (.int (0 : Int32)), (.int (0 : Int32)), (.int (0 : Int32)), (.int (0 : Int32)), (.int (0 : Int32)), (.int (0 : Int32)), (.int (0 : Int32)), (.int (0 : Int32)), (.int (0 : Int32)), (.int (0 : Int32)), (.int (0 : Int32)), (.int (0 : Int32)), (.int (0 : Int32)), (.int (0 : Int32)), (.int (0 : Int32)), (.int (0 : Int32))] (.int (0 : Int32)) := Arv.set Ar_o5 q_o5 S_o5 Nn_o5 H_o5 G_o5 rfl W4 1 rfl (Nat.le_of_ble_eq_true rfl)
  have N4 := Fr.snoc X4 N2 g_b1
  refine Done.of (g' := (mkF m 13 #[.val (.int p1), .val (.int p2), .unset, .unset, .unset, .unset, .unset] [(.ref b1)])) st4 ?_
  refine Done.of (T' := T4) (g' := (mkF m 17 #[.val (.int p1), .val (.int p2), .unset, .unset, .unset, .unset, .unset] [(.int (90 : Int32)), (.int (2 : Int32)), (.ref b1), (.ref b1)])) (fun t k => ?_) ?_
  · show Steps p.tables e below (T4.setTop (mkF m 13 #[.val (.int p1), .val (.int p2), .unset, .unset, .unset, .unset, .unset] [(.ref b1)])) t
    refine XS.dup X4.here hx rfl (hb hby at_13) rfl rfl ?_
    show Steps p.tables e below (T4.setTop (mkF m 14 #[.val (.int p1), .val (.int p2), .unset, .unset, .unset, .unset, .unset] [(.ref b1), (.ref b1)])) t
    refine XS.iconst X4.here hx rfl (hb hby at_14) ?_
    show Steps p.tables e below (T4.setTop (mkF m 15 #[.val (.int p1), .val (.int p2), .unset, .unset, .unset, .unset, .unset] [(.int (2 : Int32)), (.ref b1), (.ref b1)])) t
    refine XS.bipush X4.here hx rfl (hb hby at_15) ?_
    exact k
  obtain ⟨cl_o7, Ar_o7, q_o7, S_o7, Nn_o7, H_o7, G_o7⟩ := id V4
  have hin6 : ¬ ((2 : Int32) < 0 ∨ cl_o7.slots.size ≤ ((2 : Int32)).toNatClampNeg) := inb_of S_o7 ⟨by decide, by decide⟩
  obtain ⟨T6, h6, X6, e6, W6, st6⟩ := stI X4 hx hZ e4 Ar_o7 (j := (2 : Int32)) hin6 (g := (mkF m 17 #[.val (.int p1), .val (.int p2), .unset, .unset, .unset, .unset, .unset] [(.int (90 : Int32)), (.int (2 : Int32)), (.ref b1), (.ref b1)])) rfl rfl (hb hby at_17)
  have V6 : Arv Z h6 b1 k1 .int (35 : Int32) [(.int (0 : Int32)), (.int (65 : Int32)), (.int (90 : Int32)), (.int (0 : Int32)), (.int (0 : Int32)), (.int (0 : Int32)), (.int (0 : Int32)), (.int (0 : Int32)), (.int (0 : Int32)), (.int (0 : Int32)), (.int (0 : Int32)), (.int (0 : Int32)), (.int (0 : Int32)), (.int (0 : Int32)), (.int (0 : Int32)), (.int (0 : Int32)), (.int (0 : Int32)), (.int (0 : Int32)), (.int (0 : Int32)), (.int (0 : Int32)), (.int (0 : Int32)), (.int (0 : Int32)), (.int (0 : Int32)), (.int (0 : Int32)), (.int (0 : Int32)), (.int (0 : Int32)), (.int (0 : Int32)), (.int (0 : Int32)), (.int (0 : Int32)), (.int (0 : Int32)), (.int (0 : Int32)), (.int (0 : Int32)), (.int (0 : Int32)), (.int (0 : Int32)), (.int (0 : Int32))] (.int (0 : Int32)) := Arv.set Ar_o7 q_o7 S_o7 Nn_o7 H_o7 G_o7 rfl W6 2 rfl (Nat.le_of_ble_eq_true rfl)
  have N6 := Fr.snoc X6 N4 g_b1
  refine Done.of (g' := (mkF m 18 #[.val (.int p1), .val (.int p2), .unset, .unset, .unset, .unset, .unset] [(.ref b1)])) st6 ?_
  refine Done.of (T' := T6) (g' := (mkF m 22 #[.val (.int p1), .val (.int p2), .unset, .unset, .unset, .unset, .unset] [(.int (95 : Int32)), (.int (3 : Int32)), (.ref b1), (.ref b1)])) (fun t k => ?_) ?_
  · show Steps p.tables e below (T6.setTop (mkF m 18 #[.val (.int p1), .val (.int p2), .unset, .unset, .unset, .unset, .unset] [(.ref b1)])) t
    refine XS.dup X6.here hx rfl (hb hby at_18) rfl rfl ?_
    show Steps p.tables e below (T6.setTop (mkF m 19 #[.val (.int p1), .val (.int p2), .unset, .unset, .unset, .unset, .unset] [(.ref b1), (.ref b1)])) t
    refine XS.iconst X6.here hx rfl (hb hby at_19) ?_
    show Steps p.tables e below (T6.setTop (mkF m 20 #[.val (.int p1), .val (.int p2), .unset, .unset, .unset, .unset, .unset] [(.int (3 : Int32)), (.ref b1), (.ref b1)])) t
    refine XS.bipush X6.here hx rfl (hb hby at_20) ?_
    exact k
  obtain ⟨cl_o9, Ar_o9, q_o9, S_o9, Nn_o9, H_o9, G_o9⟩ := id V6
  have hin8 : ¬ ((3 : Int32) < 0 ∨ cl_o9.slots.size ≤ ((3 : Int32)).toNatClampNeg) := inb_of S_o9 ⟨by decide, by decide⟩
  obtain ⟨T8, h8, X8, e8, W8, st8⟩ := stI X6 hx hZ e6 Ar_o9 (j := (3 : Int32)) hin8 (g := (mkF m 22 #[.val (.int p1), .val (.int p2), .unset, .unset, .unset, .unset, .unset] [(.int (95 : Int32)), (.int (3 : Int32)), (.ref b1), (.ref b1)])) rfl rfl (hb hby at_22)
  have V8 : Arv Z h8 b1 k1 .int (35 : Int32) [(.int (0 : Int32)), (.int (65 : Int32)), (.int (90 : Int32)), (.int (95 : Int32)), (.int (0 : Int32)), (.int (0 : Int32)), (.int (0 : Int32)), (.int (0 : Int32)), (.int (0 : Int32)), (.int (0 : Int32)), (.int (0 : Int32)), (.int (0 : Int32)), (.int (0 : Int32)), (.int (0 : Int32)), (.int (0 : Int32)), (.int (0 : Int32)), (.int (0 : Int32)), (.int (0 : Int32)), (.int (0 : Int32)), (.int (0 : Int32)), (.int (0 : Int32)), (.int (0 : Int32)), (.int (0 : Int32)), (.int (0 : Int32)), (.int (0 : Int32)), (.int (0 : Int32)), (.int (0 : Int32)), (.int (0 : Int32)), (.int (0 : Int32)), (.int (0 : Int32)), (.int (0 : Int32)), (.int (0 : Int32)), (.int (0 : Int32)), (.int (0 : Int32)), (.int (0 : Int32))] (.int (0 : Int32)) := Arv.set Ar_o9 q_o9 S_o9 Nn_o9 H_o9 G_o9 rfl W8 3 rfl (Nat.le_of_ble_eq_true rfl)
  have N8 := Fr.snoc X8 N6 g_b1
  refine Done.of (g' := (mkF m 23 #[.val (.int p1), .val (.int p2), .unset, .unset, .unset, .unset, .unset] [(.ref b1)])) st8 ?_
  refine Done.of (T' := T8) (g' := (mkF m 27 #[.val (.int p1), .val (.int p2), .unset, .unset, .unset, .unset, .unset] [(.int (97 : Int32)), (.int (4 : Int32)), (.ref b1), (.ref b1)])) (fun t k => ?_) ?_
  · show Steps p.tables e below (T8.setTop (mkF m 23 #[.val (.int p1), .val (.int p2), .unset, .unset, .unset, .unset, .unset] [(.ref b1)])) t
    refine XS.dup X8.here hx rfl (hb hby at_23) rfl rfl ?_
    show Steps p.tables e below (T8.setTop (mkF m 24 #[.val (.int p1), .val (.int p2), .unset, .unset, .unset, .unset, .unset] [(.ref b1), (.ref b1)])) t
    refine XS.iconst X8.here hx rfl (hb hby at_24) ?_
    show Steps p.tables e below (T8.setTop (mkF m 25 #[.val (.int p1), .val (.int p2), .unset, .unset, .unset, .unset, .unset] [(.int (4 : Int32)), (.ref b1), (.ref b1)])) t
    refine XS.bipush X8.here hx rfl (hb hby at_25) ?_
    exact k
  obtain ⟨cl_o11, Ar_o11, q_o11, S_o11, Nn_o11, H_o11, G_o11⟩ := id V8
  have hin10 : ¬ ((4 : Int32) < 0 ∨ cl_o11.slots.size ≤ ((4 : Int32)).toNatClampNeg) := inb_of S_o11 ⟨by decide, by decide⟩
  obtain ⟨T10, h10, X10, e10, W10, st10⟩ := stI X8 hx hZ e8 Ar_o11 (j := (4 : Int32)) hin10 (g := (mkF m 27 #[.val (.int p1), .val (.int p2), .unset, .unset, .unset, .unset, .unset] [(.int (97 : Int32)), (.int (4 : Int32)), (.ref b1), (.ref b1)])) rfl rfl (hb hby at_27)
  have V10 : Arv Z h10 b1 k1 .int (35 : Int32) [(.int (0 : Int32)), (.int (65 : Int32)), (.int (90 : Int32)), (.int (95 : Int32)), (.int (97 : Int32)), (.int (0 : Int32)), (.int (0 : Int32)), (.int (0 : Int32)), (.int (0 : Int32)), (.int (0 : Int32)), (.int (0 : Int32)), (.int (0 : Int32)), (.int (0 : Int32)), (.int (0 : Int32)), (.int (0 : Int32)), (.int (0 : Int32)), (.int (0 : Int32)), (.int (0 : Int32)), (.int (0 : Int32)), (.int (0 : Int32)), (.int (0 : Int32)), (.int (0 : Int32)), (.int (0 : Int32)), (.int (0 : Int32)), (.int (0 : Int32)), (.int (0 : Int32)), (.int (0 : Int32)), (.int (0 : Int32)), (.int (0 : Int32)), (.int (0 : Int32)), (.int (0 : Int32)), (.int (0 : Int32)), (.int (0 : Int32)), (.int (0 : Int32)), (.int (0 : Int32))] (.int (0 : Int32)) := Arv.set Ar_o11 q_o11 S_o11 Nn_o11 H_o11 G_o11 rfl W10 4 rfl (Nat.le_of_ble_eq_true rfl)
  have N10 := Fr.snoc X10 N8 g_b1
  refine Done.of (g' := (mkF m 28 #[.val (.int p1), .val (.int p2), .unset, .unset, .unset, .unset, .unset] [(.ref b1)])) st10 ?_
  refine Done.of (T' := T10) (g' := (mkF m 32 #[.val (.int p1), .val (.int p2), .unset, .unset, .unset, .unset, .unset] [(.int (122 : Int32)), (.int (5 : Int32)), (.ref b1), (.ref b1)])) (fun t k => ?_) ?_
  · show Steps p.tables e below (T10.setTop (mkF m 28 #[.val (.int p1), .val (.int p2), .unset, .unset, .unset, .unset, .unset] [(.ref b1)])) t
    refine XS.dup X10.here hx rfl (hb hby at_28) rfl rfl ?_
    show Steps p.tables e below (T10.setTop (mkF m 29 #[.val (.int p1), .val (.int p2), .unset, .unset, .unset, .unset, .unset] [(.ref b1), (.ref b1)])) t
    refine XS.iconst X10.here hx rfl (hb hby at_29) ?_
    show Steps p.tables e below (T10.setTop (mkF m 30 #[.val (.int p1), .val (.int p2), .unset, .unset, .unset, .unset, .unset] [(.int (5 : Int32)), (.ref b1), (.ref b1)])) t
    refine XS.bipush X10.here hx rfl (hb hby at_30) ?_
    exact k
  obtain ⟨cl_o13, Ar_o13, q_o13, S_o13, Nn_o13, H_o13, G_o13⟩ := id V10
  have hin12 : ¬ ((5 : Int32) < 0 ∨ cl_o13.slots.size ≤ ((5 : Int32)).toNatClampNeg) := inb_of S_o13 ⟨by decide, by decide⟩
  obtain ⟨T12, h12, X12, e12, W12, st12⟩ := stI X10 hx hZ e10 Ar_o13 (j := (5 : Int32)) hin12 (g := (mkF m 32 #[.val (.int p1), .val (.int p2), .unset, .unset, .unset, .unset, .unset] [(.int (122 : Int32)), (.int (5 : Int32)), (.ref b1), (.ref b1)])) rfl rfl (hb hby at_32)
  have V12 : Arv Z h12 b1 k1 .int (35 : Int32) [(.int (0 : Int32)), (.int (65 : Int32)), (.int (90 : Int32)), (.int (95 : Int32)), (.int (97 : Int32)), (.int (122 : Int32)), (.int (0 : Int32)), (.int (0 : Int32)), (.int (0 : Int32)), (.int (0 : Int32)), (.int (0 : Int32)), (.int (0 : Int32)), (.int (0 : Int32)), (.int (0 : Int32)), (.int (0 : Int32)), (.int (0 : Int32)), (.int (0 : Int32)), (.int (0 : Int32)), (.int (0 : Int32)), (.int (0 : Int32)), (.int (0 : Int32)), (.int (0 : Int32)), (.int (0 : Int32)), (.int (0 : Int32)), (.int (0 : Int32)), (.int (0 : Int32)), (.int (0 : Int32)), (.int (0 : Int32)), (.int (0 : Int32)), (.int (0 : Int32)), (.int (0 : Int32)), (.int (0 : Int32)), (.int (0 : Int32)), (.int (0 : Int32)), (.int (0 : Int32))] (.int (0 : Int32)) := Arv.set Ar_o13 q_o13 S_o13 Nn_o13 H_o13 G_o13 rfl W12 5 rfl (Nat.le_of_ble_eq_true rfl)
  have N12 := Fr.snoc X12 N10 g_b1
  refine Done.of (g' := (mkF m 33 #[.val (.int p1), .val (.int p2), .unset, .unset, .unset, .unset, .unset] [(.ref b1)])) st12 ?_
  refine Done.of (T' := T12) (g' := (mkF m 39 #[.val (.int p1), .val (.int p2), .unset, .unset, .unset, .unset, .unset] [(.int (192 : Int32)), (.int (6 : Int32)), (.ref b1), (.ref b1)])) (fun t k => ?_) ?_
  · show Steps p.tables e below (T12.setTop (mkF m 33 #[.val (.int p1), .val (.int p2), .unset, .unset, .unset, .unset, .unset] [(.ref b1)])) t
    refine XS.dup X12.here hx rfl (hb hby at_33) rfl rfl ?_
    show Steps p.tables e below (T12.setTop (mkF m 34 #[.val (.int p1), .val (.int p2), .unset, .unset, .unset, .unset, .unset] [(.ref b1), (.ref b1)])) t
    refine XS.bipush X12.here hx rfl (hb hby at_34) ?_
    show Steps p.tables e below (T12.setTop (mkF m 36 #[.val (.int p1), .val (.int p2), .unset, .unset, .unset, .unset, .unset] [(.int (6 : Int32)), (.ref b1), (.ref b1)])) t
    refine XS.sipush X12.here hx rfl (hb hby at_36) ?_
    exact k
  obtain ⟨cl_o15, Ar_o15, q_o15, S_o15, Nn_o15, H_o15, G_o15⟩ := id V12
  have hin14 : ¬ ((6 : Int32) < 0 ∨ cl_o15.slots.size ≤ ((6 : Int32)).toNatClampNeg) := inb_of S_o15 ⟨by decide, by decide⟩
  obtain ⟨T14, h14, X14, e14, W14, st14⟩ := stI X12 hx hZ e12 Ar_o15 (j := (6 : Int32)) hin14 (g := (mkF m 39 #[.val (.int p1), .val (.int p2), .unset, .unset, .unset, .unset, .unset] [(.int (192 : Int32)), (.int (6 : Int32)), (.ref b1), (.ref b1)])) rfl rfl (hb hby at_39)
  have V14 : Arv Z h14 b1 k1 .int (35 : Int32) [(.int (0 : Int32)), (.int (65 : Int32)), (.int (90 : Int32)), (.int (95 : Int32)), (.int (97 : Int32)), (.int (122 : Int32)), (.int (192 : Int32)), (.int (0 : Int32)), (.int (0 : Int32)), (.int (0 : Int32)), (.int (0 : Int32)), (.int (0 : Int32)), (.int (0 : Int32)), (.int (0 : Int32)), (.int (0 : Int32)), (.int (0 : Int32)), (.int (0 : Int32)), (.int (0 : Int32)), (.int (0 : Int32)), (.int (0 : Int32)), (.int (0 : Int32)), (.int (0 : Int32)), (.int (0 : Int32)), (.int (0 : Int32)), (.int (0 : Int32)), (.int (0 : Int32)), (.int (0 : Int32)), (.int (0 : Int32)), (.int (0 : Int32)), (.int (0 : Int32)), (.int (0 : Int32)), (.int (0 : Int32)), (.int (0 : Int32)), (.int (0 : Int32)), (.int (0 : Int32))] (.int (0 : Int32)) := Arv.set Ar_o15 q_o15 S_o15 Nn_o15 H_o15 G_o15 rfl W14 6 rfl (Nat.le_of_ble_eq_true rfl)
  have N14 := Fr.snoc X14 N12 g_b1
  refine Done.of (g' := (mkF m 40 #[.val (.int p1), .val (.int p2), .unset, .unset, .unset, .unset, .unset] [(.ref b1)])) st14 ?_
  refine Done.of (T' := T14) (g' := (mkF m 46 #[.val (.int p1), .val (.int p2), .unset, .unset, .unset, .unset, .unset] [(.int (214 : Int32)), (.int (7 : Int32)), (.ref b1), (.ref b1)])) (fun t k => ?_) ?_
  · show Steps p.tables e below (T14.setTop (mkF m 40 #[.val (.int p1), .val (.int p2), .unset, .unset, .unset, .unset, .unset] [(.ref b1)])) t
    refine XS.dup X14.here hx rfl (hb hby at_40) rfl rfl ?_
    show Steps p.tables e below (T14.setTop (mkF m 41 #[.val (.int p1), .val (.int p2), .unset, .unset, .unset, .unset, .unset] [(.ref b1), (.ref b1)])) t
    refine XS.bipush X14.here hx rfl (hb hby at_41) ?_
    show Steps p.tables e below (T14.setTop (mkF m 43 #[.val (.int p1), .val (.int p2), .unset, .unset, .unset, .unset, .unset] [(.int (7 : Int32)), (.ref b1), (.ref b1)])) t
    refine XS.sipush X14.here hx rfl (hb hby at_43) ?_
    exact k
  obtain ⟨cl_o17, Ar_o17, q_o17, S_o17, Nn_o17, H_o17, G_o17⟩ := id V14
  have hin16 : ¬ ((7 : Int32) < 0 ∨ cl_o17.slots.size ≤ ((7 : Int32)).toNatClampNeg) := inb_of S_o17 ⟨by decide, by decide⟩
  obtain ⟨T16, h16, X16, e16, W16, st16⟩ := stI X14 hx hZ e14 Ar_o17 (j := (7 : Int32)) hin16 (g := (mkF m 46 #[.val (.int p1), .val (.int p2), .unset, .unset, .unset, .unset, .unset] [(.int (214 : Int32)), (.int (7 : Int32)), (.ref b1), (.ref b1)])) rfl rfl (hb hby at_46)
  have V16 : Arv Z h16 b1 k1 .int (35 : Int32) [(.int (0 : Int32)), (.int (65 : Int32)), (.int (90 : Int32)), (.int (95 : Int32)), (.int (97 : Int32)), (.int (122 : Int32)), (.int (192 : Int32)), (.int (214 : Int32)), (.int (0 : Int32)), (.int (0 : Int32)), (.int (0 : Int32)), (.int (0 : Int32)), (.int (0 : Int32)), (.int (0 : Int32)), (.int (0 : Int32)), (.int (0 : Int32)), (.int (0 : Int32)), (.int (0 : Int32)), (.int (0 : Int32)), (.int (0 : Int32)), (.int (0 : Int32)), (.int (0 : Int32)), (.int (0 : Int32)), (.int (0 : Int32)), (.int (0 : Int32)), (.int (0 : Int32)), (.int (0 : Int32)), (.int (0 : Int32)), (.int (0 : Int32)), (.int (0 : Int32)), (.int (0 : Int32)), (.int (0 : Int32)), (.int (0 : Int32)), (.int (0 : Int32)), (.int (0 : Int32))] (.int (0 : Int32)) := Arv.set Ar_o17 q_o17 S_o17 Nn_o17 H_o17 G_o17 rfl W16 7 rfl (Nat.le_of_ble_eq_true rfl)
  have N16 := Fr.snoc X16 N14 g_b1
  refine Done.of (g' := (mkF m 47 #[.val (.int p1), .val (.int p2), .unset, .unset, .unset, .unset, .unset] [(.ref b1)])) st16 ?_
  refine Done.of (T' := T16) (g' := (mkF m 53 #[.val (.int p1), .val (.int p2), .unset, .unset, .unset, .unset, .unset] [(.int (215 : Int32)), (.int (8 : Int32)), (.ref b1), (.ref b1)])) (fun t k => ?_) ?_
  · show Steps p.tables e below (T16.setTop (mkF m 47 #[.val (.int p1), .val (.int p2), .unset, .unset, .unset, .unset, .unset] [(.ref b1)])) t
    refine XS.dup X16.here hx rfl (hb hby at_47) rfl rfl ?_
    show Steps p.tables e below (T16.setTop (mkF m 48 #[.val (.int p1), .val (.int p2), .unset, .unset, .unset, .unset, .unset] [(.ref b1), (.ref b1)])) t
    refine XS.bipush X16.here hx rfl (hb hby at_48) ?_
    show Steps p.tables e below (T16.setTop (mkF m 50 #[.val (.int p1), .val (.int p2), .unset, .unset, .unset, .unset, .unset] [(.int (8 : Int32)), (.ref b1), (.ref b1)])) t
    refine XS.sipush X16.here hx rfl (hb hby at_50) ?_
    exact k
  obtain ⟨cl_o19, Ar_o19, q_o19, S_o19, Nn_o19, H_o19, G_o19⟩ := id V16
  have hin18 : ¬ ((8 : Int32) < 0 ∨ cl_o19.slots.size ≤ ((8 : Int32)).toNatClampNeg) := inb_of S_o19 ⟨by decide, by decide⟩
  obtain ⟨T18, h18, X18, e18, W18, st18⟩ := stI X16 hx hZ e16 Ar_o19 (j := (8 : Int32)) hin18 (g := (mkF m 53 #[.val (.int p1), .val (.int p2), .unset, .unset, .unset, .unset, .unset] [(.int (215 : Int32)), (.int (8 : Int32)), (.ref b1), (.ref b1)])) rfl rfl (hb hby at_53)
  have V18 : Arv Z h18 b1 k1 .int (35 : Int32) [(.int (0 : Int32)), (.int (65 : Int32)), (.int (90 : Int32)), (.int (95 : Int32)), (.int (97 : Int32)), (.int (122 : Int32)), (.int (192 : Int32)), (.int (214 : Int32)), (.int (215 : Int32)), (.int (0 : Int32)), (.int (0 : Int32)), (.int (0 : Int32)), (.int (0 : Int32)), (.int (0 : Int32)), (.int (0 : Int32)), (.int (0 : Int32)), (.int (0 : Int32)), (.int (0 : Int32)), (.int (0 : Int32)), (.int (0 : Int32)), (.int (0 : Int32)), (.int (0 : Int32)), (.int (0 : Int32)), (.int (0 : Int32)), (.int (0 : Int32)), (.int (0 : Int32)), (.int (0 : Int32)), (.int (0 : Int32)), (.int (0 : Int32)), (.int (0 : Int32)), (.int (0 : Int32)), (.int (0 : Int32)), (.int (0 : Int32)), (.int (0 : Int32)), (.int (0 : Int32))] (.int (0 : Int32)) := Arv.set Ar_o19 q_o19 S_o19 Nn_o19 H_o19 G_o19 rfl W18 8 rfl (Nat.le_of_ble_eq_true rfl)
  have N18 := Fr.snoc X18 N16 g_b1
  refine Done.of (g' := (mkF m 54 #[.val (.int p1), .val (.int p2), .unset, .unset, .unset, .unset, .unset] [(.ref b1)])) st18 ?_
  refine Done.of (T' := T18) (g' := (mkF m 60 #[.val (.int p1), .val (.int p2), .unset, .unset, .unset, .unset, .unset] [(.int (216 : Int32)), (.int (9 : Int32)), (.ref b1), (.ref b1)])) (fun t k => ?_) ?_
  · show Steps p.tables e below (T18.setTop (mkF m 54 #[.val (.int p1), .val (.int p2), .unset, .unset, .unset, .unset, .unset] [(.ref b1)])) t
    refine XS.dup X18.here hx rfl (hb hby at_54) rfl rfl ?_
    show Steps p.tables e below (T18.setTop (mkF m 55 #[.val (.int p1), .val (.int p2), .unset, .unset, .unset, .unset, .unset] [(.ref b1), (.ref b1)])) t
    refine XS.bipush X18.here hx rfl (hb hby at_55) ?_
    show Steps p.tables e below (T18.setTop (mkF m 57 #[.val (.int p1), .val (.int p2), .unset, .unset, .unset, .unset, .unset] [(.int (9 : Int32)), (.ref b1), (.ref b1)])) t
    refine XS.sipush X18.here hx rfl (hb hby at_57) ?_
    exact k
  obtain ⟨cl_o21, Ar_o21, q_o21, S_o21, Nn_o21, H_o21, G_o21⟩ := id V18
  have hin20 : ¬ ((9 : Int32) < 0 ∨ cl_o21.slots.size ≤ ((9 : Int32)).toNatClampNeg) := inb_of S_o21 ⟨by decide, by decide⟩
  obtain ⟨T20, h20, X20, e20, W20, st20⟩ := stI X18 hx hZ e18 Ar_o21 (j := (9 : Int32)) hin20 (g := (mkF m 60 #[.val (.int p1), .val (.int p2), .unset, .unset, .unset, .unset, .unset] [(.int (216 : Int32)), (.int (9 : Int32)), (.ref b1), (.ref b1)])) rfl rfl (hb hby at_60)
  have V20 : Arv Z h20 b1 k1 .int (35 : Int32) [(.int (0 : Int32)), (.int (65 : Int32)), (.int (90 : Int32)), (.int (95 : Int32)), (.int (97 : Int32)), (.int (122 : Int32)), (.int (192 : Int32)), (.int (214 : Int32)), (.int (215 : Int32)), (.int (216 : Int32)), (.int (0 : Int32)), (.int (0 : Int32)), (.int (0 : Int32)), (.int (0 : Int32)), (.int (0 : Int32)), (.int (0 : Int32)), (.int (0 : Int32)), (.int (0 : Int32)), (.int (0 : Int32)), (.int (0 : Int32)), (.int (0 : Int32)), (.int (0 : Int32)), (.int (0 : Int32)), (.int (0 : Int32)), (.int (0 : Int32)), (.int (0 : Int32)), (.int (0 : Int32)), (.int (0 : Int32)), (.int (0 : Int32)), (.int (0 : Int32)), (.int (0 : Int32)), (.int (0 : Int32)), (.int (0 : Int32)), (.int (0 : Int32)), (.int (0 : Int32))] (.int (0 : Int32)) := Arv.set Ar_o21 q_o21 S_o21 Nn_o21 H_o21 G_o21 rfl W20 9 rfl (Nat.le_of_ble_eq_true rfl)
  have N20 := Fr.snoc X20 N18 g_b1
  refine Done.of (g' := (mkF m 61 #[.val (.int p1), .val (.int p2), .unset, .unset, .unset, .unset, .unset] [(.ref b1)])) st20 ?_
  refine Done.of (T' := T20) (g' := (mkF m 67 #[.val (.int p1), .val (.int p2), .unset, .unset, .unset, .unset, .unset] [(.int (246 : Int32)), (.int (10 : Int32)), (.ref b1), (.ref b1)])) (fun t k => ?_) ?_
  · show Steps p.tables e below (T20.setTop (mkF m 61 #[.val (.int p1), .val (.int p2), .unset, .unset, .unset, .unset, .unset] [(.ref b1)])) t
    refine XS.dup X20.here hx rfl (hb hby at_61) rfl rfl ?_
    show Steps p.tables e below (T20.setTop (mkF m 62 #[.val (.int p1), .val (.int p2), .unset, .unset, .unset, .unset, .unset] [(.ref b1), (.ref b1)])) t
    refine XS.bipush X20.here hx rfl (hb hby at_62) ?_
    show Steps p.tables e below (T20.setTop (mkF m 64 #[.val (.int p1), .val (.int p2), .unset, .unset, .unset, .unset, .unset] [(.int (10 : Int32)), (.ref b1), (.ref b1)])) t
    refine XS.sipush X20.here hx rfl (hb hby at_64) ?_
    exact k
  obtain ⟨cl_o23, Ar_o23, q_o23, S_o23, Nn_o23, H_o23, G_o23⟩ := id V20
  have hin22 : ¬ ((10 : Int32) < 0 ∨ cl_o23.slots.size ≤ ((10 : Int32)).toNatClampNeg) := inb_of S_o23 ⟨by decide, by decide⟩
  obtain ⟨T22, h22, X22, e22, W22, st22⟩ := stI X20 hx hZ e20 Ar_o23 (j := (10 : Int32)) hin22 (g := (mkF m 67 #[.val (.int p1), .val (.int p2), .unset, .unset, .unset, .unset, .unset] [(.int (246 : Int32)), (.int (10 : Int32)), (.ref b1), (.ref b1)])) rfl rfl (hb hby at_67)
  have V22 : Arv Z h22 b1 k1 .int (35 : Int32) [(.int (0 : Int32)), (.int (65 : Int32)), (.int (90 : Int32)), (.int (95 : Int32)), (.int (97 : Int32)), (.int (122 : Int32)), (.int (192 : Int32)), (.int (214 : Int32)), (.int (215 : Int32)), (.int (216 : Int32)), (.int (246 : Int32)), (.int (0 : Int32)), (.int (0 : Int32)), (.int (0 : Int32)), (.int (0 : Int32)), (.int (0 : Int32)), (.int (0 : Int32)), (.int (0 : Int32)), (.int (0 : Int32)), (.int (0 : Int32)), (.int (0 : Int32)), (.int (0 : Int32)), (.int (0 : Int32)), (.int (0 : Int32)), (.int (0 : Int32)), (.int (0 : Int32)), (.int (0 : Int32)), (.int (0 : Int32)), (.int (0 : Int32)), (.int (0 : Int32)), (.int (0 : Int32)), (.int (0 : Int32)), (.int (0 : Int32)), (.int (0 : Int32)), (.int (0 : Int32))] (.int (0 : Int32)) := Arv.set Ar_o23 q_o23 S_o23 Nn_o23 H_o23 G_o23 rfl W22 10 rfl (Nat.le_of_ble_eq_true rfl)
  have N22 := Fr.snoc X22 N20 g_b1
  refine Done.of (g' := (mkF m 68 #[.val (.int p1), .val (.int p2), .unset, .unset, .unset, .unset, .unset] [(.ref b1)])) st22 ?_
  refine Done.of (T' := T22) (g' := (mkF m 74 #[.val (.int p1), .val (.int p2), .unset, .unset, .unset, .unset, .unset] [(.int (247 : Int32)), (.int (11 : Int32)), (.ref b1), (.ref b1)])) (fun t k => ?_) ?_
  · show Steps p.tables e below (T22.setTop (mkF m 68 #[.val (.int p1), .val (.int p2), .unset, .unset, .unset, .unset, .unset] [(.ref b1)])) t
    refine XS.dup X22.here hx rfl (hb hby at_68) rfl rfl ?_
    show Steps p.tables e below (T22.setTop (mkF m 69 #[.val (.int p1), .val (.int p2), .unset, .unset, .unset, .unset, .unset] [(.ref b1), (.ref b1)])) t
    refine XS.bipush X22.here hx rfl (hb hby at_69) ?_
    show Steps p.tables e below (T22.setTop (mkF m 71 #[.val (.int p1), .val (.int p2), .unset, .unset, .unset, .unset, .unset] [(.int (11 : Int32)), (.ref b1), (.ref b1)])) t
    refine XS.sipush X22.here hx rfl (hb hby at_71) ?_
    exact k
  obtain ⟨cl_o25, Ar_o25, q_o25, S_o25, Nn_o25, H_o25, G_o25⟩ := id V22
  have hin24 : ¬ ((11 : Int32) < 0 ∨ cl_o25.slots.size ≤ ((11 : Int32)).toNatClampNeg) := inb_of S_o25 ⟨by decide, by decide⟩
  obtain ⟨T24, h24, X24, e24, W24, st24⟩ := stI X22 hx hZ e22 Ar_o25 (j := (11 : Int32)) hin24 (g := (mkF m 74 #[.val (.int p1), .val (.int p2), .unset, .unset, .unset, .unset, .unset] [(.int (247 : Int32)), (.int (11 : Int32)), (.ref b1), (.ref b1)])) rfl rfl (hb hby at_74)
  have V24 : Arv Z h24 b1 k1 .int (35 : Int32) [(.int (0 : Int32)), (.int (65 : Int32)), (.int (90 : Int32)), (.int (95 : Int32)), (.int (97 : Int32)), (.int (122 : Int32)), (.int (192 : Int32)), (.int (214 : Int32)), (.int (215 : Int32)), (.int (216 : Int32)), (.int (246 : Int32)), (.int (247 : Int32)), (.int (0 : Int32)), (.int (0 : Int32)), (.int (0 : Int32)), (.int (0 : Int32)), (.int (0 : Int32)), (.int (0 : Int32)), (.int (0 : Int32)), (.int (0 : Int32)), (.int (0 : Int32)), (.int (0 : Int32)), (.int (0 : Int32)), (.int (0 : Int32)), (.int (0 : Int32)), (.int (0 : Int32)), (.int (0 : Int32)), (.int (0 : Int32)), (.int (0 : Int32)), (.int (0 : Int32)), (.int (0 : Int32)), (.int (0 : Int32)), (.int (0 : Int32)), (.int (0 : Int32)), (.int (0 : Int32))] (.int (0 : Int32)) := Arv.set Ar_o25 q_o25 S_o25 Nn_o25 H_o25 G_o25 rfl W24 11 rfl (Nat.le_of_ble_eq_true rfl)
  have N24 := Fr.snoc X24 N22 g_b1
  refine Done.of (g' := (mkF m 75 #[.val (.int p1), .val (.int p2), .unset, .unset, .unset, .unset, .unset] [(.ref b1)])) st24 ?_
  refine Done.of (T' := T24) (g' := (mkF m 81 #[.val (.int p1), .val (.int p2), .unset, .unset, .unset, .unset, .unset] [(.int (248 : Int32)), (.int (12 : Int32)), (.ref b1), (.ref b1)])) (fun t k => ?_) ?_
  · show Steps p.tables e below (T24.setTop (mkF m 75 #[.val (.int p1), .val (.int p2), .unset, .unset, .unset, .unset, .unset] [(.ref b1)])) t
    refine XS.dup X24.here hx rfl (hb hby at_75) rfl rfl ?_
    show Steps p.tables e below (T24.setTop (mkF m 76 #[.val (.int p1), .val (.int p2), .unset, .unset, .unset, .unset, .unset] [(.ref b1), (.ref b1)])) t
    refine XS.bipush X24.here hx rfl (hb hby at_76) ?_
    show Steps p.tables e below (T24.setTop (mkF m 78 #[.val (.int p1), .val (.int p2), .unset, .unset, .unset, .unset, .unset] [(.int (12 : Int32)), (.ref b1), (.ref b1)])) t
    refine XS.sipush X24.here hx rfl (hb hby at_78) ?_
    exact k
  obtain ⟨cl_o27, Ar_o27, q_o27, S_o27, Nn_o27, H_o27, G_o27⟩ := id V24
  have hin26 : ¬ ((12 : Int32) < 0 ∨ cl_o27.slots.size ≤ ((12 : Int32)).toNatClampNeg) := inb_of S_o27 ⟨by decide, by decide⟩
  obtain ⟨T26, h26, X26, e26, W26, st26⟩ := stI X24 hx hZ e24 Ar_o27 (j := (12 : Int32)) hin26 (g := (mkF m 81 #[.val (.int p1), .val (.int p2), .unset, .unset, .unset, .unset, .unset] [(.int (248 : Int32)), (.int (12 : Int32)), (.ref b1), (.ref b1)])) rfl rfl (hb hby at_81)
  have V26 : Arv Z h26 b1 k1 .int (35 : Int32) [(.int (0 : Int32)), (.int (65 : Int32)), (.int (90 : Int32)), (.int (95 : Int32)), (.int (97 : Int32)), (.int (122 : Int32)), (.int (192 : Int32)), (.int (214 : Int32)), (.int (215 : Int32)), (.int (216 : Int32)), (.int (246 : Int32)), (.int (247 : Int32)), (.int (248 : Int32)), (.int (0 : Int32)), (.int (0 : Int32)), (.int (0 : Int32)), (.int (0 : Int32)), (.int (0 : Int32)), (.int (0 : Int32)), (.int (0 : Int32)), (.int (0 : Int32)), (.int (0 : Int32)), (.int (0 : Int32)), (.int (0 : Int32)), (.int (0 : Int32)), (.int (0 : Int32)), (.int (0 : Int32)), (.int (0 : Int32)), (.int (0 : Int32)), (.int (0 : Int32)), (.int (0 : Int32)), (.int (0 : Int32)), (.int (0 : Int32)), (.int (0 : Int32)), (.int (0 : Int32))] (.int (0 : Int32)) := Arv.set Ar_o27 q_o27 S_o27 Nn_o27 H_o27 G_o27 rfl W26 12 rfl (Nat.le_of_ble_eq_true rfl)
  have N26 := Fr.snoc X26 N24 g_b1
  refine Done.of (g' := (mkF m 82 #[.val (.int p1), .val (.int p2), .unset, .unset, .unset, .unset, .unset] [(.ref b1)])) st26 ?_
  refine Done.of (T' := T26) (g' := (mkF m 88 #[.val (.int p1), .val (.int p2), .unset, .unset, .unset, .unset, .unset] [(.int (767 : Int32)), (.int (13 : Int32)), (.ref b1), (.ref b1)])) (fun t k => ?_) ?_
  · show Steps p.tables e below (T26.setTop (mkF m 82 #[.val (.int p1), .val (.int p2), .unset, .unset, .unset, .unset, .unset] [(.ref b1)])) t
    refine XS.dup X26.here hx rfl (hb hby at_82) rfl rfl ?_
    show Steps p.tables e below (T26.setTop (mkF m 83 #[.val (.int p1), .val (.int p2), .unset, .unset, .unset, .unset, .unset] [(.ref b1), (.ref b1)])) t
    refine XS.bipush X26.here hx rfl (hb hby at_83) ?_
    show Steps p.tables e below (T26.setTop (mkF m 85 #[.val (.int p1), .val (.int p2), .unset, .unset, .unset, .unset, .unset] [(.int (13 : Int32)), (.ref b1), (.ref b1)])) t
    refine XS.sipush X26.here hx rfl (hb hby at_85) ?_
    exact k
  obtain ⟨cl_o29, Ar_o29, q_o29, S_o29, Nn_o29, H_o29, G_o29⟩ := id V26
  have hin28 : ¬ ((13 : Int32) < 0 ∨ cl_o29.slots.size ≤ ((13 : Int32)).toNatClampNeg) := inb_of S_o29 ⟨by decide, by decide⟩
  obtain ⟨T28, h28, X28, e28, W28, st28⟩ := stI X26 hx hZ e26 Ar_o29 (j := (13 : Int32)) hin28 (g := (mkF m 88 #[.val (.int p1), .val (.int p2), .unset, .unset, .unset, .unset, .unset] [(.int (767 : Int32)), (.int (13 : Int32)), (.ref b1), (.ref b1)])) rfl rfl (hb hby at_88)
  have V28 : Arv Z h28 b1 k1 .int (35 : Int32) [(.int (0 : Int32)), (.int (65 : Int32)), (.int (90 : Int32)), (.int (95 : Int32)), (.int (97 : Int32)), (.int (122 : Int32)), (.int (192 : Int32)), (.int (214 : Int32)), (.int (215 : Int32)), (.int (216 : Int32)), (.int (246 : Int32)), (.int (247 : Int32)), (.int (248 : Int32)), (.int (767 : Int32)), (.int (0 : Int32)), (.int (0 : Int32)), (.int (0 : Int32)), (.int (0 : Int32)), (.int (0 : Int32)), (.int (0 : Int32)), (.int (0 : Int32)), (.int (0 : Int32)), (.int (0 : Int32)), (.int (0 : Int32)), (.int (0 : Int32)), (.int (0 : Int32)), (.int (0 : Int32)), (.int (0 : Int32)), (.int (0 : Int32)), (.int (0 : Int32)), (.int (0 : Int32)), (.int (0 : Int32)), (.int (0 : Int32)), (.int (0 : Int32)), (.int (0 : Int32))] (.int (0 : Int32)) := Arv.set Ar_o29 q_o29 S_o29 Nn_o29 H_o29 G_o29 rfl W28 13 rfl (Nat.le_of_ble_eq_true rfl)
  have N28 := Fr.snoc X28 N26 g_b1
  refine Done.of (g' := (mkF m 89 #[.val (.int p1), .val (.int p2), .unset, .unset, .unset, .unset, .unset] [(.ref b1)])) st28 ?_
  refine Done.of (T' := T28) (g' := (mkF m 95 #[.val (.int p1), .val (.int p2), .unset, .unset, .unset, .unset, .unset] [(.int (880 : Int32)), (.int (14 : Int32)), (.ref b1), (.ref b1)])) (fun t k => ?_) ?_
  · show Steps p.tables e below (T28.setTop (mkF m 89 #[.val (.int p1), .val (.int p2), .unset, .unset, .unset, .unset, .unset] [(.ref b1)])) t
    refine XS.dup X28.here hx rfl (hb hby at_89) rfl rfl ?_
    show Steps p.tables e below (T28.setTop (mkF m 90 #[.val (.int p1), .val (.int p2), .unset, .unset, .unset, .unset, .unset] [(.ref b1), (.ref b1)])) t
    refine XS.bipush X28.here hx rfl (hb hby at_90) ?_
    show Steps p.tables e below (T28.setTop (mkF m 92 #[.val (.int p1), .val (.int p2), .unset, .unset, .unset, .unset, .unset] [(.int (14 : Int32)), (.ref b1), (.ref b1)])) t
    refine XS.sipush X28.here hx rfl (hb hby at_92) ?_
    exact k
  obtain ⟨cl_o31, Ar_o31, q_o31, S_o31, Nn_o31, H_o31, G_o31⟩ := id V28
  have hin30 : ¬ ((14 : Int32) < 0 ∨ cl_o31.slots.size ≤ ((14 : Int32)).toNatClampNeg) := inb_of S_o31 ⟨by decide, by decide⟩
  obtain ⟨T30, h30, X30, e30, W30, st30⟩ := stI X28 hx hZ e28 Ar_o31 (j := (14 : Int32)) hin30 (g := (mkF m 95 #[.val (.int p1), .val (.int p2), .unset, .unset, .unset, .unset, .unset] [(.int (880 : Int32)), (.int (14 : Int32)), (.ref b1), (.ref b1)])) rfl rfl (hb hby at_95)
  have V30 : Arv Z h30 b1 k1 .int (35 : Int32) [(.int (0 : Int32)), (.int (65 : Int32)), (.int (90 : Int32)), (.int (95 : Int32)), (.int (97 : Int32)), (.int (122 : Int32)), (.int (192 : Int32)), (.int (214 : Int32)), (.int (215 : Int32)), (.int (216 : Int32)), (.int (246 : Int32)), (.int (247 : Int32)), (.int (248 : Int32)), (.int (767 : Int32)), (.int (880 : Int32)), (.int (0 : Int32)), (.int (0 : Int32)), (.int (0 : Int32)), (.int (0 : Int32)), (.int (0 : Int32)), (.int (0 : Int32)), (.int (0 : Int32)), (.int (0 : Int32)), (.int (0 : Int32)), (.int (0 : Int32)), (.int (0 : Int32)), (.int (0 : Int32)), (.int (0 : Int32)), (.int (0 : Int32)), (.int (0 : Int32)), (.int (0 : Int32)), (.int (0 : Int32)), (.int (0 : Int32)), (.int (0 : Int32)), (.int (0 : Int32))] (.int (0 : Int32)) := Arv.set Ar_o31 q_o31 S_o31 Nn_o31 H_o31 G_o31 rfl W30 14 rfl (Nat.le_of_ble_eq_true rfl)
  have N30 := Fr.snoc X30 N28 g_b1
  refine Done.of (g' := (mkF m 96 #[.val (.int p1), .val (.int p2), .unset, .unset, .unset, .unset, .unset] [(.ref b1)])) st30 ?_
  refine Done.of (T' := T30) (g' := (mkF m 102 #[.val (.int p1), .val (.int p2), .unset, .unset, .unset, .unset, .unset] [(.int (893 : Int32)), (.int (15 : Int32)), (.ref b1), (.ref b1)])) (fun t k => ?_) ?_
  · show Steps p.tables e below (T30.setTop (mkF m 96 #[.val (.int p1), .val (.int p2), .unset, .unset, .unset, .unset, .unset] [(.ref b1)])) t
    refine XS.dup X30.here hx rfl (hb hby at_96) rfl rfl ?_
    show Steps p.tables e below (T30.setTop (mkF m 97 #[.val (.int p1), .val (.int p2), .unset, .unset, .unset, .unset, .unset] [(.ref b1), (.ref b1)])) t
    refine XS.bipush X30.here hx rfl (hb hby at_97) ?_
    show Steps p.tables e below (T30.setTop (mkF m 99 #[.val (.int p1), .val (.int p2), .unset, .unset, .unset, .unset, .unset] [(.int (15 : Int32)), (.ref b1), (.ref b1)])) t
    refine XS.sipush X30.here hx rfl (hb hby at_99) ?_
    exact k
  obtain ⟨cl_o33, Ar_o33, q_o33, S_o33, Nn_o33, H_o33, G_o33⟩ := id V30
  have hin32 : ¬ ((15 : Int32) < 0 ∨ cl_o33.slots.size ≤ ((15 : Int32)).toNatClampNeg) := inb_of S_o33 ⟨by decide, by decide⟩
  obtain ⟨T32, h32, X32, e32, W32, st32⟩ := stI X30 hx hZ e30 Ar_o33 (j := (15 : Int32)) hin32 (g := (mkF m 102 #[.val (.int p1), .val (.int p2), .unset, .unset, .unset, .unset, .unset] [(.int (893 : Int32)), (.int (15 : Int32)), (.ref b1), (.ref b1)])) rfl rfl (hb hby at_102)
  have V32 : Arv Z h32 b1 k1 .int (35 : Int32) [(.int (0 : Int32)), (.int (65 : Int32)), (.int (90 : Int32)), (.int (95 : Int32)), (.int (97 : Int32)), (.int (122 : Int32)), (.int (192 : Int32)), (.int (214 : Int32)), (.int (215 : Int32)), (.int (216 : Int32)), (.int (246 : Int32)), (.int (247 : Int32)), (.int (248 : Int32)), (.int (767 : Int32)), (.int (880 : Int32)), (.int (893 : Int32)), (.int (0 : Int32)), (.int (0 : Int32)), (.int (0 : Int32)), (.int (0 : Int32)), (.int (0 : Int32)), (.int (0 : Int32)), (.int (0 : Int32)), (.int (0 : Int32)), (.int (0 : Int32)), (.int (0 : Int32)), (.int (0 : Int32)), (.int (0 : Int32)), (.int (0 : Int32)), (.int (0 : Int32)), (.int (0 : Int32)), (.int (0 : Int32)), (.int (0 : Int32)), (.int (0 : Int32)), (.int (0 : Int32))] (.int (0 : Int32)) := Arv.set Ar_o33 q_o33 S_o33 Nn_o33 H_o33 G_o33 rfl W32 15 rfl (Nat.le_of_ble_eq_true rfl)
  have N32 := Fr.snoc X32 N30 g_b1
  refine Done.of (g' := (mkF m 103 #[.val (.int p1), .val (.int p2), .unset, .unset, .unset, .unset, .unset] [(.ref b1)])) st32 ?_
  refine Done.of (T' := T32) (g' := (mkF m 109 #[.val (.int p1), .val (.int p2), .unset, .unset, .unset, .unset, .unset] [(.int (894 : Int32)), (.int (16 : Int32)), (.ref b1), (.ref b1)])) (fun t k => ?_) ?_
  · show Steps p.tables e below (T32.setTop (mkF m 103 #[.val (.int p1), .val (.int p2), .unset, .unset, .unset, .unset, .unset] [(.ref b1)])) t
    refine XS.dup X32.here hx rfl (hb hby at_103) rfl rfl ?_
    show Steps p.tables e below (T32.setTop (mkF m 104 #[.val (.int p1), .val (.int p2), .unset, .unset, .unset, .unset, .unset] [(.ref b1), (.ref b1)])) t
    refine XS.bipush X32.here hx rfl (hb hby at_104) ?_
    show Steps p.tables e below (T32.setTop (mkF m 106 #[.val (.int p1), .val (.int p2), .unset, .unset, .unset, .unset, .unset] [(.int (16 : Int32)), (.ref b1), (.ref b1)])) t
    refine XS.sipush X32.here hx rfl (hb hby at_106) ?_
    exact k
  obtain ⟨cl_o35, Ar_o35, q_o35, S_o35, Nn_o35, H_o35, G_o35⟩ := id V32
  have hin34 : ¬ ((16 : Int32) < 0 ∨ cl_o35.slots.size ≤ ((16 : Int32)).toNatClampNeg) := inb_of S_o35 ⟨by decide, by decide⟩
  obtain ⟨T34, h34, X34, e34, W34, st34⟩ := stI X32 hx hZ e32 Ar_o35 (j := (16 : Int32)) hin34 (g := (mkF m 109 #[.val (.int p1), .val (.int p2), .unset, .unset, .unset, .unset, .unset] [(.int (894 : Int32)), (.int (16 : Int32)), (.ref b1), (.ref b1)])) rfl rfl (hb hby at_109)
  have V34 : Arv Z h34 b1 k1 .int (35 : Int32) [(.int (0 : Int32)), (.int (65 : Int32)), (.int (90 : Int32)), (.int (95 : Int32)), (.int (97 : Int32)), (.int (122 : Int32)), (.int (192 : Int32)), (.int (214 : Int32)), (.int (215 : Int32)), (.int (216 : Int32)), (.int (246 : Int32)), (.int (247 : Int32)), (.int (248 : Int32)), (.int (767 : Int32)), (.int (880 : Int32)), (.int (893 : Int32)), (.int (894 : Int32)), (.int (0 : Int32)), (.int (0 : Int32)), (.int (0 : Int32)), (.int (0 : Int32)), (.int (0 : Int32)), (.int (0 : Int32)), (.int (0 : Int32)), (.int (0 : Int32)), (.int (0 : Int32)), (.int (0 : Int32)), (.int (0 : Int32)), (.int (0 : Int32)), (.int (0 : Int32)), (.int (0 : Int32)), (.int (0 : Int32)), (.int (0 : Int32)), (.int (0 : Int32)), (.int (0 : Int32))] (.int (0 : Int32)) := Arv.set Ar_o35 q_o35 S_o35 Nn_o35 H_o35 G_o35 rfl W34 16 rfl (Nat.le_of_ble_eq_true rfl)
  have N34 := Fr.snoc X34 N32 g_b1
  refine Done.of (g' := (mkF m 110 #[.val (.int p1), .val (.int p2), .unset, .unset, .unset, .unset, .unset] [(.ref b1)])) st34 ?_
  refine Done.of (T' := T34) (g' := (mkF m 116 #[.val (.int p1), .val (.int p2), .unset, .unset, .unset, .unset, .unset] [(.int (895 : Int32)), (.int (17 : Int32)), (.ref b1), (.ref b1)])) (fun t k => ?_) ?_
  · show Steps p.tables e below (T34.setTop (mkF m 110 #[.val (.int p1), .val (.int p2), .unset, .unset, .unset, .unset, .unset] [(.ref b1)])) t
    refine XS.dup X34.here hx rfl (hb hby at_110) rfl rfl ?_
    show Steps p.tables e below (T34.setTop (mkF m 111 #[.val (.int p1), .val (.int p2), .unset, .unset, .unset, .unset, .unset] [(.ref b1), (.ref b1)])) t
    refine XS.bipush X34.here hx rfl (hb hby at_111) ?_
    show Steps p.tables e below (T34.setTop (mkF m 113 #[.val (.int p1), .val (.int p2), .unset, .unset, .unset, .unset, .unset] [(.int (17 : Int32)), (.ref b1), (.ref b1)])) t
    refine XS.sipush X34.here hx rfl (hb hby at_113) ?_
    exact k
  obtain ⟨cl_o37, Ar_o37, q_o37, S_o37, Nn_o37, H_o37, G_o37⟩ := id V34
  have hin36 : ¬ ((17 : Int32) < 0 ∨ cl_o37.slots.size ≤ ((17 : Int32)).toNatClampNeg) := inb_of S_o37 ⟨by decide, by decide⟩
  obtain ⟨T36, h36, X36, e36, W36, st36⟩ := stI X34 hx hZ e34 Ar_o37 (j := (17 : Int32)) hin36 (g := (mkF m 116 #[.val (.int p1), .val (.int p2), .unset, .unset, .unset, .unset, .unset] [(.int (895 : Int32)), (.int (17 : Int32)), (.ref b1), (.ref b1)])) rfl rfl (hb hby at_116)
  have V36 : Arv Z h36 b1 k1 .int (35 : Int32) [(.int (0 : Int32)), (.int (65 : Int32)), (.int (90 : Int32)), (.int (95 : Int32)), (.int (97 : Int32)), (.int (122 : Int32)), (.int (192 : Int32)), (.int (214 : Int32)), (.int (215 : Int32)), (.int (216 : Int32)), (.int (246 : Int32)), (.int (247 : Int32)), (.int (248 : Int32)), (.int (767 : Int32)), (.int (880 : Int32)), (.int (893 : Int32)), (.int (894 : Int32)), (.int (895 : Int32)), (.int (0 : Int32)), (.int (0 : Int32)), (.int (0 : Int32)), (.int (0 : Int32)), (.int (0 : Int32)), (.int (0 : Int32)), (.int (0 : Int32)), (.int (0 : Int32)), (.int (0 : Int32)), (.int (0 : Int32)), (.int (0 : Int32)), (.int (0 : Int32)), (.int (0 : Int32)), (.int (0 : Int32)), (.int (0 : Int32)), (.int (0 : Int32)), (.int (0 : Int32))] (.int (0 : Int32)) := Arv.set Ar_o37 q_o37 S_o37 Nn_o37 H_o37 G_o37 rfl W36 17 rfl (Nat.le_of_ble_eq_true rfl)
  have N36 := Fr.snoc X36 N34 g_b1
  refine Done.of (g' := (mkF m 117 #[.val (.int p1), .val (.int p2), .unset, .unset, .unset, .unset, .unset] [(.ref b1)])) st36 ?_
  refine Done.of (T' := T36) (g' := (mkF m 123 #[.val (.int p1), .val (.int p2), .unset, .unset, .unset, .unset, .unset] [(.int (8191 : Int32)), (.int (18 : Int32)), (.ref b1), (.ref b1)])) (fun t k => ?_) ?_
  · show Steps p.tables e below (T36.setTop (mkF m 117 #[.val (.int p1), .val (.int p2), .unset, .unset, .unset, .unset, .unset] [(.ref b1)])) t
    refine XS.dup X36.here hx rfl (hb hby at_117) rfl rfl ?_
    show Steps p.tables e below (T36.setTop (mkF m 118 #[.val (.int p1), .val (.int p2), .unset, .unset, .unset, .unset, .unset] [(.ref b1), (.ref b1)])) t
    refine XS.bipush X36.here hx rfl (hb hby at_118) ?_
    show Steps p.tables e below (T36.setTop (mkF m 120 #[.val (.int p1), .val (.int p2), .unset, .unset, .unset, .unset, .unset] [(.int (18 : Int32)), (.ref b1), (.ref b1)])) t
    refine XS.sipush X36.here hx rfl (hb hby at_120) ?_
    exact k
  obtain ⟨cl_o39, Ar_o39, q_o39, S_o39, Nn_o39, H_o39, G_o39⟩ := id V36
  have hin38 : ¬ ((18 : Int32) < 0 ∨ cl_o39.slots.size ≤ ((18 : Int32)).toNatClampNeg) := inb_of S_o39 ⟨by decide, by decide⟩
  obtain ⟨T38, h38, X38, e38, W38, st38⟩ := stI X36 hx hZ e36 Ar_o39 (j := (18 : Int32)) hin38 (g := (mkF m 123 #[.val (.int p1), .val (.int p2), .unset, .unset, .unset, .unset, .unset] [(.int (8191 : Int32)), (.int (18 : Int32)), (.ref b1), (.ref b1)])) rfl rfl (hb hby at_123)
  have V38 : Arv Z h38 b1 k1 .int (35 : Int32) [(.int (0 : Int32)), (.int (65 : Int32)), (.int (90 : Int32)), (.int (95 : Int32)), (.int (97 : Int32)), (.int (122 : Int32)), (.int (192 : Int32)), (.int (214 : Int32)), (.int (215 : Int32)), (.int (216 : Int32)), (.int (246 : Int32)), (.int (247 : Int32)), (.int (248 : Int32)), (.int (767 : Int32)), (.int (880 : Int32)), (.int (893 : Int32)), (.int (894 : Int32)), (.int (895 : Int32)), (.int (8191 : Int32)), (.int (0 : Int32)), (.int (0 : Int32)), (.int (0 : Int32)), (.int (0 : Int32)), (.int (0 : Int32)), (.int (0 : Int32)), (.int (0 : Int32)), (.int (0 : Int32)), (.int (0 : Int32)), (.int (0 : Int32)), (.int (0 : Int32)), (.int (0 : Int32)), (.int (0 : Int32)), (.int (0 : Int32)), (.int (0 : Int32)), (.int (0 : Int32))] (.int (0 : Int32)) := Arv.set Ar_o39 q_o39 S_o39 Nn_o39 H_o39 G_o39 rfl W38 18 rfl (Nat.le_of_ble_eq_true rfl)
  have N38 := Fr.snoc X38 N36 g_b1
  refine Done.of (g' := (mkF m 124 #[.val (.int p1), .val (.int p2), .unset, .unset, .unset, .unset, .unset] [(.ref b1)])) st38 ?_
  refine Done.of (T' := T38) (g' := (mkF m 130 #[.val (.int p1), .val (.int p2), .unset, .unset, .unset, .unset, .unset] [(.int (8204 : Int32)), (.int (19 : Int32)), (.ref b1), (.ref b1)])) (fun t k => ?_) ?_
  · show Steps p.tables e below (T38.setTop (mkF m 124 #[.val (.int p1), .val (.int p2), .unset, .unset, .unset, .unset, .unset] [(.ref b1)])) t
    refine XS.dup X38.here hx rfl (hb hby at_124) rfl rfl ?_
    show Steps p.tables e below (T38.setTop (mkF m 125 #[.val (.int p1), .val (.int p2), .unset, .unset, .unset, .unset, .unset] [(.ref b1), (.ref b1)])) t
    refine XS.bipush X38.here hx rfl (hb hby at_125) ?_
    show Steps p.tables e below (T38.setTop (mkF m 127 #[.val (.int p1), .val (.int p2), .unset, .unset, .unset, .unset, .unset] [(.int (19 : Int32)), (.ref b1), (.ref b1)])) t
    refine XS.sipush X38.here hx rfl (hb hby at_127) ?_
    exact k
  obtain ⟨cl_o41, Ar_o41, q_o41, S_o41, Nn_o41, H_o41, G_o41⟩ := id V38
  have hin40 : ¬ ((19 : Int32) < 0 ∨ cl_o41.slots.size ≤ ((19 : Int32)).toNatClampNeg) := inb_of S_o41 ⟨by decide, by decide⟩
  obtain ⟨T40, h40, X40, e40, W40, st40⟩ := stI X38 hx hZ e38 Ar_o41 (j := (19 : Int32)) hin40 (g := (mkF m 130 #[.val (.int p1), .val (.int p2), .unset, .unset, .unset, .unset, .unset] [(.int (8204 : Int32)), (.int (19 : Int32)), (.ref b1), (.ref b1)])) rfl rfl (hb hby at_130)
  have V40 : Arv Z h40 b1 k1 .int (35 : Int32) [(.int (0 : Int32)), (.int (65 : Int32)), (.int (90 : Int32)), (.int (95 : Int32)), (.int (97 : Int32)), (.int (122 : Int32)), (.int (192 : Int32)), (.int (214 : Int32)), (.int (215 : Int32)), (.int (216 : Int32)), (.int (246 : Int32)), (.int (247 : Int32)), (.int (248 : Int32)), (.int (767 : Int32)), (.int (880 : Int32)), (.int (893 : Int32)), (.int (894 : Int32)), (.int (895 : Int32)), (.int (8191 : Int32)), (.int (8204 : Int32)), (.int (0 : Int32)), (.int (0 : Int32)), (.int (0 : Int32)), (.int (0 : Int32)), (.int (0 : Int32)), (.int (0 : Int32)), (.int (0 : Int32)), (.int (0 : Int32)), (.int (0 : Int32)), (.int (0 : Int32)), (.int (0 : Int32)), (.int (0 : Int32)), (.int (0 : Int32)), (.int (0 : Int32)), (.int (0 : Int32))] (.int (0 : Int32)) := Arv.set Ar_o41 q_o41 S_o41 Nn_o41 H_o41 G_o41 rfl W40 19 rfl (Nat.le_of_ble_eq_true rfl)
  have N40 := Fr.snoc X40 N38 g_b1
  refine Done.of (g' := (mkF m 131 #[.val (.int p1), .val (.int p2), .unset, .unset, .unset, .unset, .unset] [(.ref b1)])) st40 ?_
  refine Done.of (T' := T40) (g' := (mkF m 137 #[.val (.int p1), .val (.int p2), .unset, .unset, .unset, .unset, .unset] [(.int (8205 : Int32)), (.int (20 : Int32)), (.ref b1), (.ref b1)])) (fun t k => ?_) ?_
  · show Steps p.tables e below (T40.setTop (mkF m 131 #[.val (.int p1), .val (.int p2), .unset, .unset, .unset, .unset, .unset] [(.ref b1)])) t
    refine XS.dup X40.here hx rfl (hb hby at_131) rfl rfl ?_
    show Steps p.tables e below (T40.setTop (mkF m 132 #[.val (.int p1), .val (.int p2), .unset, .unset, .unset, .unset, .unset] [(.ref b1), (.ref b1)])) t
    refine XS.bipush X40.here hx rfl (hb hby at_132) ?_
    show Steps p.tables e below (T40.setTop (mkF m 134 #[.val (.int p1), .val (.int p2), .unset, .unset, .unset, .unset, .unset] [(.int (20 : Int32)), (.ref b1), (.ref b1)])) t
    refine XS.sipush X40.here hx rfl (hb hby at_134) ?_
    exact k
  obtain ⟨cl_o43, Ar_o43, q_o43, S_o43, Nn_o43, H_o43, G_o43⟩ := id V40
  have hin42 : ¬ ((20 : Int32) < 0 ∨ cl_o43.slots.size ≤ ((20 : Int32)).toNatClampNeg) := inb_of S_o43 ⟨by decide, by decide⟩
  obtain ⟨T42, h42, X42, e42, W42, st42⟩ := stI X40 hx hZ e40 Ar_o43 (j := (20 : Int32)) hin42 (g := (mkF m 137 #[.val (.int p1), .val (.int p2), .unset, .unset, .unset, .unset, .unset] [(.int (8205 : Int32)), (.int (20 : Int32)), (.ref b1), (.ref b1)])) rfl rfl (hb hby at_137)
  have V42 : Arv Z h42 b1 k1 .int (35 : Int32) [(.int (0 : Int32)), (.int (65 : Int32)), (.int (90 : Int32)), (.int (95 : Int32)), (.int (97 : Int32)), (.int (122 : Int32)), (.int (192 : Int32)), (.int (214 : Int32)), (.int (215 : Int32)), (.int (216 : Int32)), (.int (246 : Int32)), (.int (247 : Int32)), (.int (248 : Int32)), (.int (767 : Int32)), (.int (880 : Int32)), (.int (893 : Int32)), (.int (894 : Int32)), (.int (895 : Int32)), (.int (8191 : Int32)), (.int (8204 : Int32)), (.int (8205 : Int32)), (.int (0 : Int32)), (.int (0 : Int32)), (.int (0 : Int32)), (.int (0 : Int32)), (.int (0 : Int32)), (.int (0 : Int32)), (.int (0 : Int32)), (.int (0 : Int32)), (.int (0 : Int32)), (.int (0 : Int32)), (.int (0 : Int32)), (.int (0 : Int32)), (.int (0 : Int32)), (.int (0 : Int32))] (.int (0 : Int32)) := Arv.set Ar_o43 q_o43 S_o43 Nn_o43 H_o43 G_o43 rfl W42 20 rfl (Nat.le_of_ble_eq_true rfl)
  have N42 := Fr.snoc X42 N40 g_b1
  refine Done.of (g' := (mkF m 138 #[.val (.int p1), .val (.int p2), .unset, .unset, .unset, .unset, .unset] [(.ref b1)])) st42 ?_
  refine Done.of (T' := T42) (g' := (mkF m 144 #[.val (.int p1), .val (.int p2), .unset, .unset, .unset, .unset, .unset] [(.int (8304 : Int32)), (.int (21 : Int32)), (.ref b1), (.ref b1)])) (fun t k => ?_) ?_
  · show Steps p.tables e below (T42.setTop (mkF m 138 #[.val (.int p1), .val (.int p2), .unset, .unset, .unset, .unset, .unset] [(.ref b1)])) t
    refine XS.dup X42.here hx rfl (hb hby at_138) rfl rfl ?_
    show Steps p.tables e below (T42.setTop (mkF m 139 #[.val (.int p1), .val (.int p2), .unset, .unset, .unset, .unset, .unset] [(.ref b1), (.ref b1)])) t
    refine XS.bipush X42.here hx rfl (hb hby at_139) ?_
    show Steps p.tables e below (T42.setTop (mkF m 141 #[.val (.int p1), .val (.int p2), .unset, .unset, .unset, .unset, .unset] [(.int (21 : Int32)), (.ref b1), (.ref b1)])) t
    refine XS.sipush X42.here hx rfl (hb hby at_141) ?_
    exact k
  obtain ⟨cl_o45, Ar_o45, q_o45, S_o45, Nn_o45, H_o45, G_o45⟩ := id V42
  have hin44 : ¬ ((21 : Int32) < 0 ∨ cl_o45.slots.size ≤ ((21 : Int32)).toNatClampNeg) := inb_of S_o45 ⟨by decide, by decide⟩
  obtain ⟨T44, h44, X44, e44, W44, st44⟩ := stI X42 hx hZ e42 Ar_o45 (j := (21 : Int32)) hin44 (g := (mkF m 144 #[.val (.int p1), .val (.int p2), .unset, .unset, .unset, .unset, .unset] [(.int (8304 : Int32)), (.int (21 : Int32)), (.ref b1), (.ref b1)])) rfl rfl (hb hby at_144)
  have V44 : Arv Z h44 b1 k1 .int (35 : Int32) [(.int (0 : Int32)), (.int (65 : Int32)), (.int (90 : Int32)), (.int (95 : Int32)), (.int (97 : Int32)), (.int (122 : Int32)), (.int (192 : Int32)), (.int (214 : Int32)), (.int (215 : Int32)), (.int (216 : Int32)), (.int (246 : Int32)), (.int (247 : Int32)), (.int (248 : Int32)), (.int (767 : Int32)), (.int (880 : Int32)), (.int (893 : Int32)), (.int (894 : Int32)), (.int (895 : Int32)), (.int (8191 : Int32)), (.int (8204 : Int32)), (.int (8205 : Int32)), (.int (8304 : Int32)), (.int (0 : Int32)), (.int (0 : Int32)), (.int (0 : Int32)), (.int (0 : Int32)), (.int (0 : Int32)), (.int (0 : Int32)), (.int (0 : Int32)), (.int (0 : Int32)), (.int (0 : Int32)), (.int (0 : Int32)), (.int (0 : Int32)), (.int (0 : Int32)), (.int (0 : Int32))] (.int (0 : Int32)) := Arv.set Ar_o45 q_o45 S_o45 Nn_o45 H_o45 G_o45 rfl W44 21 rfl (Nat.le_of_ble_eq_true rfl)
  have N44 := Fr.snoc X44 N42 g_b1
  refine Done.of (g' := (mkF m 145 #[.val (.int p1), .val (.int p2), .unset, .unset, .unset, .unset, .unset] [(.ref b1)])) st44 ?_
  refine Done.of (T' := T44) (g' := (mkF m 151 #[.val (.int p1), .val (.int p2), .unset, .unset, .unset, .unset, .unset] [(.int (8591 : Int32)), (.int (22 : Int32)), (.ref b1), (.ref b1)])) (fun t k => ?_) ?_
  · show Steps p.tables e below (T44.setTop (mkF m 145 #[.val (.int p1), .val (.int p2), .unset, .unset, .unset, .unset, .unset] [(.ref b1)])) t
    refine XS.dup X44.here hx rfl (hb hby at_145) rfl rfl ?_
    show Steps p.tables e below (T44.setTop (mkF m 146 #[.val (.int p1), .val (.int p2), .unset, .unset, .unset, .unset, .unset] [(.ref b1), (.ref b1)])) t
    refine XS.bipush X44.here hx rfl (hb hby at_146) ?_
    show Steps p.tables e below (T44.setTop (mkF m 148 #[.val (.int p1), .val (.int p2), .unset, .unset, .unset, .unset, .unset] [(.int (22 : Int32)), (.ref b1), (.ref b1)])) t
    refine XS.sipush X44.here hx rfl (hb hby at_148) ?_
    exact k
  obtain ⟨cl_o47, Ar_o47, q_o47, S_o47, Nn_o47, H_o47, G_o47⟩ := id V44
  have hin46 : ¬ ((22 : Int32) < 0 ∨ cl_o47.slots.size ≤ ((22 : Int32)).toNatClampNeg) := inb_of S_o47 ⟨by decide, by decide⟩
  obtain ⟨T46, h46, X46, e46, W46, st46⟩ := stI X44 hx hZ e44 Ar_o47 (j := (22 : Int32)) hin46 (g := (mkF m 151 #[.val (.int p1), .val (.int p2), .unset, .unset, .unset, .unset, .unset] [(.int (8591 : Int32)), (.int (22 : Int32)), (.ref b1), (.ref b1)])) rfl rfl (hb hby at_151)
  have V46 : Arv Z h46 b1 k1 .int (35 : Int32) [(.int (0 : Int32)), (.int (65 : Int32)), (.int (90 : Int32)), (.int (95 : Int32)), (.int (97 : Int32)), (.int (122 : Int32)), (.int (192 : Int32)), (.int (214 : Int32)), (.int (215 : Int32)), (.int (216 : Int32)), (.int (246 : Int32)), (.int (247 : Int32)), (.int (248 : Int32)), (.int (767 : Int32)), (.int (880 : Int32)), (.int (893 : Int32)), (.int (894 : Int32)), (.int (895 : Int32)), (.int (8191 : Int32)), (.int (8204 : Int32)), (.int (8205 : Int32)), (.int (8304 : Int32)), (.int (8591 : Int32)), (.int (0 : Int32)), (.int (0 : Int32)), (.int (0 : Int32)), (.int (0 : Int32)), (.int (0 : Int32)), (.int (0 : Int32)), (.int (0 : Int32)), (.int (0 : Int32)), (.int (0 : Int32)), (.int (0 : Int32)), (.int (0 : Int32)), (.int (0 : Int32))] (.int (0 : Int32)) := Arv.set Ar_o47 q_o47 S_o47 Nn_o47 H_o47 G_o47 rfl W46 22 rfl (Nat.le_of_ble_eq_true rfl)
  have N46 := Fr.snoc X46 N44 g_b1
  refine Done.of (g' := (mkF m 152 #[.val (.int p1), .val (.int p2), .unset, .unset, .unset, .unset, .unset] [(.ref b1)])) st46 ?_
  refine Done.of (T' := T46) (g' := (mkF m 158 #[.val (.int p1), .val (.int p2), .unset, .unset, .unset, .unset, .unset] [(.int (11264 : Int32)), (.int (23 : Int32)), (.ref b1), (.ref b1)])) (fun t k => ?_) ?_
  · show Steps p.tables e below (T46.setTop (mkF m 152 #[.val (.int p1), .val (.int p2), .unset, .unset, .unset, .unset, .unset] [(.ref b1)])) t
    refine XS.dup X46.here hx rfl (hb hby at_152) rfl rfl ?_
    show Steps p.tables e below (T46.setTop (mkF m 153 #[.val (.int p1), .val (.int p2), .unset, .unset, .unset, .unset, .unset] [(.ref b1), (.ref b1)])) t
    refine XS.bipush X46.here hx rfl (hb hby at_153) ?_
    show Steps p.tables e below (T46.setTop (mkF m 155 #[.val (.int p1), .val (.int p2), .unset, .unset, .unset, .unset, .unset] [(.int (23 : Int32)), (.ref b1), (.ref b1)])) t
    refine XS.sipush X46.here hx rfl (hb hby at_155) ?_
    exact k
  obtain ⟨cl_o49, Ar_o49, q_o49, S_o49, Nn_o49, H_o49, G_o49⟩ := id V46
  have hin48 : ¬ ((23 : Int32) < 0 ∨ cl_o49.slots.size ≤ ((23 : Int32)).toNatClampNeg) := inb_of S_o49 ⟨by decide, by decide⟩
  obtain ⟨T48, h48, X48, e48, W48, st48⟩ := stI X46 hx hZ e46 Ar_o49 (j := (23 : Int32)) hin48 (g := (mkF m 158 #[.val (.int p1), .val (.int p2), .unset, .unset, .unset, .unset, .unset] [(.int (11264 : Int32)), (.int (23 : Int32)), (.ref b1), (.ref b1)])) rfl rfl (hb hby at_158)
  have V48 : Arv Z h48 b1 k1 .int (35 : Int32) [(.int (0 : Int32)), (.int (65 : Int32)), (.int (90 : Int32)), (.int (95 : Int32)), (.int (97 : Int32)), (.int (122 : Int32)), (.int (192 : Int32)), (.int (214 : Int32)), (.int (215 : Int32)), (.int (216 : Int32)), (.int (246 : Int32)), (.int (247 : Int32)), (.int (248 : Int32)), (.int (767 : Int32)), (.int (880 : Int32)), (.int (893 : Int32)), (.int (894 : Int32)), (.int (895 : Int32)), (.int (8191 : Int32)), (.int (8204 : Int32)), (.int (8205 : Int32)), (.int (8304 : Int32)), (.int (8591 : Int32)), (.int (11264 : Int32)), (.int (0 : Int32)), (.int (0 : Int32)), (.int (0 : Int32)), (.int (0 : Int32)), (.int (0 : Int32)), (.int (0 : Int32)), (.int (0 : Int32)), (.int (0 : Int32)), (.int (0 : Int32)), (.int (0 : Int32)), (.int (0 : Int32))] (.int (0 : Int32)) := Arv.set Ar_o49 q_o49 S_o49 Nn_o49 H_o49 G_o49 rfl W48 23 rfl (Nat.le_of_ble_eq_true rfl)
  have N48 := Fr.snoc X48 N46 g_b1
  refine Done.of (g' := (mkF m 159 #[.val (.int p1), .val (.int p2), .unset, .unset, .unset, .unset, .unset] [(.ref b1)])) st48 ?_
  refine Done.of (T' := T48) (g' := (mkF m 165 #[.val (.int p1), .val (.int p2), .unset, .unset, .unset, .unset, .unset] [(.int (12271 : Int32)), (.int (24 : Int32)), (.ref b1), (.ref b1)])) (fun t k => ?_) ?_
  · show Steps p.tables e below (T48.setTop (mkF m 159 #[.val (.int p1), .val (.int p2), .unset, .unset, .unset, .unset, .unset] [(.ref b1)])) t
    refine XS.dup X48.here hx rfl (hb hby at_159) rfl rfl ?_
    show Steps p.tables e below (T48.setTop (mkF m 160 #[.val (.int p1), .val (.int p2), .unset, .unset, .unset, .unset, .unset] [(.ref b1), (.ref b1)])) t
    refine XS.bipush X48.here hx rfl (hb hby at_160) ?_
    show Steps p.tables e below (T48.setTop (mkF m 162 #[.val (.int p1), .val (.int p2), .unset, .unset, .unset, .unset, .unset] [(.int (24 : Int32)), (.ref b1), (.ref b1)])) t
    refine XS.sipush X48.here hx rfl (hb hby at_162) ?_
    exact k
  obtain ⟨cl_o51, Ar_o51, q_o51, S_o51, Nn_o51, H_o51, G_o51⟩ := id V48
  have hin50 : ¬ ((24 : Int32) < 0 ∨ cl_o51.slots.size ≤ ((24 : Int32)).toNatClampNeg) := inb_of S_o51 ⟨by decide, by decide⟩
  obtain ⟨T50, h50, X50, e50, W50, st50⟩ := stI X48 hx hZ e48 Ar_o51 (j := (24 : Int32)) hin50 (g := (mkF m 165 #[.val (.int p1), .val (.int p2), .unset, .unset, .unset, .unset, .unset] [(.int (12271 : Int32)), (.int (24 : Int32)), (.ref b1), (.ref b1)])) rfl rfl (hb hby at_165)
  have V50 : Arv Z h50 b1 k1 .int (35 : Int32) [(.int (0 : Int32)), (.int (65 : Int32)), (.int (90 : Int32)), (.int (95 : Int32)), (.int (97 : Int32)), (.int (122 : Int32)), (.int (192 : Int32)), (.int (214 : Int32)), (.int (215 : Int32)), (.int (216 : Int32)), (.int (246 : Int32)), (.int (247 : Int32)), (.int (248 : Int32)), (.int (767 : Int32)), (.int (880 : Int32)), (.int (893 : Int32)), (.int (894 : Int32)), (.int (895 : Int32)), (.int (8191 : Int32)), (.int (8204 : Int32)), (.int (8205 : Int32)), (.int (8304 : Int32)), (.int (8591 : Int32)), (.int (11264 : Int32)), (.int (12271 : Int32)), (.int (0 : Int32)), (.int (0 : Int32)), (.int (0 : Int32)), (.int (0 : Int32)), (.int (0 : Int32)), (.int (0 : Int32)), (.int (0 : Int32)), (.int (0 : Int32)), (.int (0 : Int32)), (.int (0 : Int32))] (.int (0 : Int32)) := Arv.set Ar_o51 q_o51 S_o51 Nn_o51 H_o51 G_o51 rfl W50 24 rfl (Nat.le_of_ble_eq_true rfl)
  have N50 := Fr.snoc X50 N48 g_b1
  refine Done.of (g' := (mkF m 166 #[.val (.int p1), .val (.int p2), .unset, .unset, .unset, .unset, .unset] [(.ref b1)])) st50 ?_
  refine Done.of (T' := T50) (g' := (mkF m 172 #[.val (.int p1), .val (.int p2), .unset, .unset, .unset, .unset, .unset] [(.int (12289 : Int32)), (.int (25 : Int32)), (.ref b1), (.ref b1)])) (fun t k => ?_) ?_
  · show Steps p.tables e below (T50.setTop (mkF m 166 #[.val (.int p1), .val (.int p2), .unset, .unset, .unset, .unset, .unset] [(.ref b1)])) t
    refine XS.dup X50.here hx rfl (hb hby at_166) rfl rfl ?_
    show Steps p.tables e below (T50.setTop (mkF m 167 #[.val (.int p1), .val (.int p2), .unset, .unset, .unset, .unset, .unset] [(.ref b1), (.ref b1)])) t
    refine XS.bipush X50.here hx rfl (hb hby at_167) ?_
    show Steps p.tables e below (T50.setTop (mkF m 169 #[.val (.int p1), .val (.int p2), .unset, .unset, .unset, .unset, .unset] [(.int (25 : Int32)), (.ref b1), (.ref b1)])) t
    refine XS.sipush X50.here hx rfl (hb hby at_169) ?_
    exact k
  obtain ⟨cl_o53, Ar_o53, q_o53, S_o53, Nn_o53, H_o53, G_o53⟩ := id V50
  have hin52 : ¬ ((25 : Int32) < 0 ∨ cl_o53.slots.size ≤ ((25 : Int32)).toNatClampNeg) := inb_of S_o53 ⟨by decide, by decide⟩
  obtain ⟨T52, h52, X52, e52, W52, st52⟩ := stI X50 hx hZ e50 Ar_o53 (j := (25 : Int32)) hin52 (g := (mkF m 172 #[.val (.int p1), .val (.int p2), .unset, .unset, .unset, .unset, .unset] [(.int (12289 : Int32)), (.int (25 : Int32)), (.ref b1), (.ref b1)])) rfl rfl (hb hby at_172)
  have V52 : Arv Z h52 b1 k1 .int (35 : Int32) [(.int (0 : Int32)), (.int (65 : Int32)), (.int (90 : Int32)), (.int (95 : Int32)), (.int (97 : Int32)), (.int (122 : Int32)), (.int (192 : Int32)), (.int (214 : Int32)), (.int (215 : Int32)), (.int (216 : Int32)), (.int (246 : Int32)), (.int (247 : Int32)), (.int (248 : Int32)), (.int (767 : Int32)), (.int (880 : Int32)), (.int (893 : Int32)), (.int (894 : Int32)), (.int (895 : Int32)), (.int (8191 : Int32)), (.int (8204 : Int32)), (.int (8205 : Int32)), (.int (8304 : Int32)), (.int (8591 : Int32)), (.int (11264 : Int32)), (.int (12271 : Int32)), (.int (12289 : Int32)), (.int (0 : Int32)), (.int (0 : Int32)), (.int (0 : Int32)), (.int (0 : Int32)), (.int (0 : Int32)), (.int (0 : Int32)), (.int (0 : Int32)), (.int (0 : Int32)), (.int (0 : Int32))] (.int (0 : Int32)) := Arv.set Ar_o53 q_o53 S_o53 Nn_o53 H_o53 G_o53 rfl W52 25 rfl (Nat.le_of_ble_eq_true rfl)
  have N52 := Fr.snoc X52 N50 g_b1
  refine Done.of (g' := (mkF m 173 #[.val (.int p1), .val (.int p2), .unset, .unset, .unset, .unset, .unset] [(.ref b1)])) st52 ?_
  refine Done.of (T' := T52) (g' := (mkF m 178 #[.val (.int p1), .val (.int p2), .unset, .unset, .unset, .unset, .unset] [(.int (55295 : Int32)), (.int (26 : Int32)), (.ref b1), (.ref b1)])) (fun t k => ?_) ?_
  · show Steps p.tables e below (T52.setTop (mkF m 173 #[.val (.int p1), .val (.int p2), .unset, .unset, .unset, .unset, .unset] [(.ref b1)])) t
    refine XS.dup X52.here hx rfl (hb hby at_173) rfl rfl ?_
    show Steps p.tables e below (T52.setTop (mkF m 174 #[.val (.int p1), .val (.int p2), .unset, .unset, .unset, .unset, .unset] [(.ref b1), (.ref b1)])) t
    refine XS.bipush X52.here hx rfl (hb hby at_174) ?_
    show Steps p.tables e below (T52.setTop (mkF m 176 #[.val (.int p1), .val (.int p2), .unset, .unset, .unset, .unset, .unset] [(.int (26 : Int32)), (.ref b1), (.ref b1)])) t
    refine X52.ldcInt hx hown (mvT hZ (hw _ (List.mem_of_getElem? (i := 1) rfl))) (g := (mkF m 176 #[.val (.int p1), .val (.int p2), .unset, .unset, .unset, .unset, .unset] [(.int (26 : Int32)), (.ref b1), (.ref b1)])) rfl (hb hby at_176) _ ?_
    exact k
  obtain ⟨cl_o55, Ar_o55, q_o55, S_o55, Nn_o55, H_o55, G_o55⟩ := id V52
  have hin54 : ¬ ((26 : Int32) < 0 ∨ cl_o55.slots.size ≤ ((26 : Int32)).toNatClampNeg) := inb_of S_o55 ⟨by decide, by decide⟩
  obtain ⟨T54, h54, X54, e54, W54, st54⟩ := stI X52 hx hZ e52 Ar_o55 (j := (26 : Int32)) hin54 (g := (mkF m 178 #[.val (.int p1), .val (.int p2), .unset, .unset, .unset, .unset, .unset] [(.int (55295 : Int32)), (.int (26 : Int32)), (.ref b1), (.ref b1)])) rfl rfl (hb hby at_178)
  have V54 : Arv Z h54 b1 k1 .int (35 : Int32) [(.int (0 : Int32)), (.int (65 : Int32)), (.int (90 : Int32)), (.int (95 : Int32)), (.int (97 : Int32)), (.int (122 : Int32)), (.int (192 : Int32)), (.int (214 : Int32)), (.int (215 : Int32)), (.int (216 : Int32)), (.int (246 : Int32)), (.int (247 : Int32)), (.int (248 : Int32)), (.int (767 : Int32)), (.int (880 : Int32)), (.int (893 : Int32)), (.int (894 : Int32)), (.int (895 : Int32)), (.int (8191 : Int32)), (.int (8204 : Int32)), (.int (8205 : Int32)), (.int (8304 : Int32)), (.int (8591 : Int32)), (.int (11264 : Int32)), (.int (12271 : Int32)), (.int (12289 : Int32)), (.int (55295 : Int32)), (.int (0 : Int32)), (.int (0 : Int32)), (.int (0 : Int32)), (.int (0 : Int32)), (.int (0 : Int32)), (.int (0 : Int32)), (.int (0 : Int32)), (.int (0 : Int32))] (.int (0 : Int32)) := Arv.set Ar_o55 q_o55 S_o55 Nn_o55 H_o55 G_o55 rfl W54 26 rfl (Nat.le_of_ble_eq_true rfl)
  have N54 := Fr.snoc X54 N52 g_b1
  refine Done.of (g' := (mkF m 179 #[.val (.int p1), .val (.int p2), .unset, .unset, .unset, .unset, .unset] [(.ref b1)])) st54 ?_
  refine Done.of (T' := T54) (g' := (mkF m 184 #[.val (.int p1), .val (.int p2), .unset, .unset, .unset, .unset, .unset] [(.int (63744 : Int32)), (.int (27 : Int32)), (.ref b1), (.ref b1)])) (fun t k => ?_) ?_
  · show Steps p.tables e below (T54.setTop (mkF m 179 #[.val (.int p1), .val (.int p2), .unset, .unset, .unset, .unset, .unset] [(.ref b1)])) t
    refine XS.dup X54.here hx rfl (hb hby at_179) rfl rfl ?_
    show Steps p.tables e below (T54.setTop (mkF m 180 #[.val (.int p1), .val (.int p2), .unset, .unset, .unset, .unset, .unset] [(.ref b1), (.ref b1)])) t
    refine XS.bipush X54.here hx rfl (hb hby at_180) ?_
    show Steps p.tables e below (T54.setTop (mkF m 182 #[.val (.int p1), .val (.int p2), .unset, .unset, .unset, .unset, .unset] [(.int (27 : Int32)), (.ref b1), (.ref b1)])) t
    refine X54.ldcInt hx hown (mvT hZ (hw _ (List.mem_of_getElem? (i := 2) rfl))) (g := (mkF m 182 #[.val (.int p1), .val (.int p2), .unset, .unset, .unset, .unset, .unset] [(.int (27 : Int32)), (.ref b1), (.ref b1)])) rfl (hb hby at_182) _ ?_
    exact k
  obtain ⟨cl_o57, Ar_o57, q_o57, S_o57, Nn_o57, H_o57, G_o57⟩ := id V54
  have hin56 : ¬ ((27 : Int32) < 0 ∨ cl_o57.slots.size ≤ ((27 : Int32)).toNatClampNeg) := inb_of S_o57 ⟨by decide, by decide⟩
  obtain ⟨T56, h56, X56, e56, W56, st56⟩ := stI X54 hx hZ e54 Ar_o57 (j := (27 : Int32)) hin56 (g := (mkF m 184 #[.val (.int p1), .val (.int p2), .unset, .unset, .unset, .unset, .unset] [(.int (63744 : Int32)), (.int (27 : Int32)), (.ref b1), (.ref b1)])) rfl rfl (hb hby at_184)
  have V56 : Arv Z h56 b1 k1 .int (35 : Int32) [(.int (0 : Int32)), (.int (65 : Int32)), (.int (90 : Int32)), (.int (95 : Int32)), (.int (97 : Int32)), (.int (122 : Int32)), (.int (192 : Int32)), (.int (214 : Int32)), (.int (215 : Int32)), (.int (216 : Int32)), (.int (246 : Int32)), (.int (247 : Int32)), (.int (248 : Int32)), (.int (767 : Int32)), (.int (880 : Int32)), (.int (893 : Int32)), (.int (894 : Int32)), (.int (895 : Int32)), (.int (8191 : Int32)), (.int (8204 : Int32)), (.int (8205 : Int32)), (.int (8304 : Int32)), (.int (8591 : Int32)), (.int (11264 : Int32)), (.int (12271 : Int32)), (.int (12289 : Int32)), (.int (55295 : Int32)), (.int (63744 : Int32)), (.int (0 : Int32)), (.int (0 : Int32)), (.int (0 : Int32)), (.int (0 : Int32)), (.int (0 : Int32)), (.int (0 : Int32)), (.int (0 : Int32))] (.int (0 : Int32)) := Arv.set Ar_o57 q_o57 S_o57 Nn_o57 H_o57 G_o57 rfl W56 27 rfl (Nat.le_of_ble_eq_true rfl)
  have N56 := Fr.snoc X56 N54 g_b1
  refine Done.of (g' := (mkF m 185 #[.val (.int p1), .val (.int p2), .unset, .unset, .unset, .unset, .unset] [(.ref b1)])) st56 ?_
  refine Done.of (T' := T56) (g' := (mkF m 190 #[.val (.int p1), .val (.int p2), .unset, .unset, .unset, .unset, .unset] [(.int (64975 : Int32)), (.int (28 : Int32)), (.ref b1), (.ref b1)])) (fun t k => ?_) ?_
  · show Steps p.tables e below (T56.setTop (mkF m 185 #[.val (.int p1), .val (.int p2), .unset, .unset, .unset, .unset, .unset] [(.ref b1)])) t
    refine XS.dup X56.here hx rfl (hb hby at_185) rfl rfl ?_
    show Steps p.tables e below (T56.setTop (mkF m 186 #[.val (.int p1), .val (.int p2), .unset, .unset, .unset, .unset, .unset] [(.ref b1), (.ref b1)])) t
    refine XS.bipush X56.here hx rfl (hb hby at_186) ?_
    show Steps p.tables e below (T56.setTop (mkF m 188 #[.val (.int p1), .val (.int p2), .unset, .unset, .unset, .unset, .unset] [(.int (28 : Int32)), (.ref b1), (.ref b1)])) t
    refine X56.ldcInt hx hown (mvT hZ (hw _ (List.mem_of_getElem? (i := 3) rfl))) (g := (mkF m 188 #[.val (.int p1), .val (.int p2), .unset, .unset, .unset, .unset, .unset] [(.int (28 : Int32)), (.ref b1), (.ref b1)])) rfl (hb hby at_188) _ ?_
    exact k
  obtain ⟨cl_o59, Ar_o59, q_o59, S_o59, Nn_o59, H_o59, G_o59⟩ := id V56
  have hin58 : ¬ ((28 : Int32) < 0 ∨ cl_o59.slots.size ≤ ((28 : Int32)).toNatClampNeg) := inb_of S_o59 ⟨by decide, by decide⟩
  obtain ⟨T58, h58, X58, e58, W58, st58⟩ := stI X56 hx hZ e56 Ar_o59 (j := (28 : Int32)) hin58 (g := (mkF m 190 #[.val (.int p1), .val (.int p2), .unset, .unset, .unset, .unset, .unset] [(.int (64975 : Int32)), (.int (28 : Int32)), (.ref b1), (.ref b1)])) rfl rfl (hb hby at_190)
  have V58 : Arv Z h58 b1 k1 .int (35 : Int32) [(.int (0 : Int32)), (.int (65 : Int32)), (.int (90 : Int32)), (.int (95 : Int32)), (.int (97 : Int32)), (.int (122 : Int32)), (.int (192 : Int32)), (.int (214 : Int32)), (.int (215 : Int32)), (.int (216 : Int32)), (.int (246 : Int32)), (.int (247 : Int32)), (.int (248 : Int32)), (.int (767 : Int32)), (.int (880 : Int32)), (.int (893 : Int32)), (.int (894 : Int32)), (.int (895 : Int32)), (.int (8191 : Int32)), (.int (8204 : Int32)), (.int (8205 : Int32)), (.int (8304 : Int32)), (.int (8591 : Int32)), (.int (11264 : Int32)), (.int (12271 : Int32)), (.int (12289 : Int32)), (.int (55295 : Int32)), (.int (63744 : Int32)), (.int (64975 : Int32)), (.int (0 : Int32)), (.int (0 : Int32)), (.int (0 : Int32)), (.int (0 : Int32)), (.int (0 : Int32)), (.int (0 : Int32))] (.int (0 : Int32)) := Arv.set Ar_o59 q_o59 S_o59 Nn_o59 H_o59 G_o59 rfl W58 28 rfl (Nat.le_of_ble_eq_true rfl)
  have N58 := Fr.snoc X58 N56 g_b1
  refine Done.of (g' := (mkF m 191 #[.val (.int p1), .val (.int p2), .unset, .unset, .unset, .unset, .unset] [(.ref b1)])) st58 ?_
  refine Done.of (T' := T58) (g' := (mkF m 196 #[.val (.int p1), .val (.int p2), .unset, .unset, .unset, .unset, .unset] [(.int (65008 : Int32)), (.int (29 : Int32)), (.ref b1), (.ref b1)])) (fun t k => ?_) ?_
  · show Steps p.tables e below (T58.setTop (mkF m 191 #[.val (.int p1), .val (.int p2), .unset, .unset, .unset, .unset, .unset] [(.ref b1)])) t
    refine XS.dup X58.here hx rfl (hb hby at_191) rfl rfl ?_
    show Steps p.tables e below (T58.setTop (mkF m 192 #[.val (.int p1), .val (.int p2), .unset, .unset, .unset, .unset, .unset] [(.ref b1), (.ref b1)])) t
    refine XS.bipush X58.here hx rfl (hb hby at_192) ?_
    show Steps p.tables e below (T58.setTop (mkF m 194 #[.val (.int p1), .val (.int p2), .unset, .unset, .unset, .unset, .unset] [(.int (29 : Int32)), (.ref b1), (.ref b1)])) t
    refine X58.ldcInt hx hown (mvT hZ (hw _ (List.mem_of_getElem? (i := 4) rfl))) (g := (mkF m 194 #[.val (.int p1), .val (.int p2), .unset, .unset, .unset, .unset, .unset] [(.int (29 : Int32)), (.ref b1), (.ref b1)])) rfl (hb hby at_194) _ ?_
    exact k
  obtain ⟨cl_o61, Ar_o61, q_o61, S_o61, Nn_o61, H_o61, G_o61⟩ := id V58
  have hin60 : ¬ ((29 : Int32) < 0 ∨ cl_o61.slots.size ≤ ((29 : Int32)).toNatClampNeg) := inb_of S_o61 ⟨by decide, by decide⟩
  obtain ⟨T60, h60, X60, e60, W60, st60⟩ := stI X58 hx hZ e58 Ar_o61 (j := (29 : Int32)) hin60 (g := (mkF m 196 #[.val (.int p1), .val (.int p2), .unset, .unset, .unset, .unset, .unset] [(.int (65008 : Int32)), (.int (29 : Int32)), (.ref b1), (.ref b1)])) rfl rfl (hb hby at_196)
  have V60 : Arv Z h60 b1 k1 .int (35 : Int32) [(.int (0 : Int32)), (.int (65 : Int32)), (.int (90 : Int32)), (.int (95 : Int32)), (.int (97 : Int32)), (.int (122 : Int32)), (.int (192 : Int32)), (.int (214 : Int32)), (.int (215 : Int32)), (.int (216 : Int32)), (.int (246 : Int32)), (.int (247 : Int32)), (.int (248 : Int32)), (.int (767 : Int32)), (.int (880 : Int32)), (.int (893 : Int32)), (.int (894 : Int32)), (.int (895 : Int32)), (.int (8191 : Int32)), (.int (8204 : Int32)), (.int (8205 : Int32)), (.int (8304 : Int32)), (.int (8591 : Int32)), (.int (11264 : Int32)), (.int (12271 : Int32)), (.int (12289 : Int32)), (.int (55295 : Int32)), (.int (63744 : Int32)), (.int (64975 : Int32)), (.int (65008 : Int32)), (.int (0 : Int32)), (.int (0 : Int32)), (.int (0 : Int32)), (.int (0 : Int32)), (.int (0 : Int32))] (.int (0 : Int32)) := Arv.set Ar_o61 q_o61 S_o61 Nn_o61 H_o61 G_o61 rfl W60 29 rfl (Nat.le_of_ble_eq_true rfl)
  have N60 := Fr.snoc X60 N58 g_b1
  refine Done.of (g' := (mkF m 197 #[.val (.int p1), .val (.int p2), .unset, .unset, .unset, .unset, .unset] [(.ref b1)])) st60 ?_
  refine Done.of (T' := T60) (g' := (mkF m 202 #[.val (.int p1), .val (.int p2), .unset, .unset, .unset, .unset, .unset] [(.int (65533 : Int32)), (.int (30 : Int32)), (.ref b1), (.ref b1)])) (fun t k => ?_) ?_
  · show Steps p.tables e below (T60.setTop (mkF m 197 #[.val (.int p1), .val (.int p2), .unset, .unset, .unset, .unset, .unset] [(.ref b1)])) t
    refine XS.dup X60.here hx rfl (hb hby at_197) rfl rfl ?_
    show Steps p.tables e below (T60.setTop (mkF m 198 #[.val (.int p1), .val (.int p2), .unset, .unset, .unset, .unset, .unset] [(.ref b1), (.ref b1)])) t
    refine XS.bipush X60.here hx rfl (hb hby at_198) ?_
    show Steps p.tables e below (T60.setTop (mkF m 200 #[.val (.int p1), .val (.int p2), .unset, .unset, .unset, .unset, .unset] [(.int (30 : Int32)), (.ref b1), (.ref b1)])) t
    refine X60.ldcInt hx hown (mvT hZ (hw _ (List.mem_of_getElem? (i := 5) rfl))) (g := (mkF m 200 #[.val (.int p1), .val (.int p2), .unset, .unset, .unset, .unset, .unset] [(.int (30 : Int32)), (.ref b1), (.ref b1)])) rfl (hb hby at_200) _ ?_
    exact k
  obtain ⟨cl_o63, Ar_o63, q_o63, S_o63, Nn_o63, H_o63, G_o63⟩ := id V60
  have hin62 : ¬ ((30 : Int32) < 0 ∨ cl_o63.slots.size ≤ ((30 : Int32)).toNatClampNeg) := inb_of S_o63 ⟨by decide, by decide⟩
  obtain ⟨T62, h62, X62, e62, W62, st62⟩ := stI X60 hx hZ e60 Ar_o63 (j := (30 : Int32)) hin62 (g := (mkF m 202 #[.val (.int p1), .val (.int p2), .unset, .unset, .unset, .unset, .unset] [(.int (65533 : Int32)), (.int (30 : Int32)), (.ref b1), (.ref b1)])) rfl rfl (hb hby at_202)
  have V62 : Arv Z h62 b1 k1 .int (35 : Int32) [(.int (0 : Int32)), (.int (65 : Int32)), (.int (90 : Int32)), (.int (95 : Int32)), (.int (97 : Int32)), (.int (122 : Int32)), (.int (192 : Int32)), (.int (214 : Int32)), (.int (215 : Int32)), (.int (216 : Int32)), (.int (246 : Int32)), (.int (247 : Int32)), (.int (248 : Int32)), (.int (767 : Int32)), (.int (880 : Int32)), (.int (893 : Int32)), (.int (894 : Int32)), (.int (895 : Int32)), (.int (8191 : Int32)), (.int (8204 : Int32)), (.int (8205 : Int32)), (.int (8304 : Int32)), (.int (8591 : Int32)), (.int (11264 : Int32)), (.int (12271 : Int32)), (.int (12289 : Int32)), (.int (55295 : Int32)), (.int (63744 : Int32)), (.int (64975 : Int32)), (.int (65008 : Int32)), (.int (65533 : Int32)), (.int (0 : Int32)), (.int (0 : Int32)), (.int (0 : Int32)), (.int (0 : Int32))] (.int (0 : Int32)) := Arv.set Ar_o63 q_o63 S_o63 Nn_o63 H_o63 G_o63 rfl W62 30 rfl (Nat.le_of_ble_eq_true rfl)
  have N62 := Fr.snoc X62 N60 g_b1
  refine Done.of (g' := (mkF m 203 #[.val (.int p1), .val (.int p2), .unset, .unset, .unset, .unset, .unset] [(.ref b1)])) st62 ?_
  refine Done.of (T' := T62) (g' := (mkF m 208 #[.val (.int p1), .val (.int p2), .unset, .unset, .unset, .unset, .unset] [(.int (65536 : Int32)), (.int (31 : Int32)), (.ref b1), (.ref b1)])) (fun t k => ?_) ?_
  · show Steps p.tables e below (T62.setTop (mkF m 203 #[.val (.int p1), .val (.int p2), .unset, .unset, .unset, .unset, .unset] [(.ref b1)])) t
    refine XS.dup X62.here hx rfl (hb hby at_203) rfl rfl ?_
    show Steps p.tables e below (T62.setTop (mkF m 204 #[.val (.int p1), .val (.int p2), .unset, .unset, .unset, .unset, .unset] [(.ref b1), (.ref b1)])) t
    refine XS.bipush X62.here hx rfl (hb hby at_204) ?_
    show Steps p.tables e below (T62.setTop (mkF m 206 #[.val (.int p1), .val (.int p2), .unset, .unset, .unset, .unset, .unset] [(.int (31 : Int32)), (.ref b1), (.ref b1)])) t
    refine X62.ldcInt hx hown (mvT hZ (hw _ (List.mem_of_getElem? (i := 6) rfl))) (g := (mkF m 206 #[.val (.int p1), .val (.int p2), .unset, .unset, .unset, .unset, .unset] [(.int (31 : Int32)), (.ref b1), (.ref b1)])) rfl (hb hby at_206) _ ?_
    exact k
  obtain ⟨cl_o65, Ar_o65, q_o65, S_o65, Nn_o65, H_o65, G_o65⟩ := id V62
  have hin64 : ¬ ((31 : Int32) < 0 ∨ cl_o65.slots.size ≤ ((31 : Int32)).toNatClampNeg) := inb_of S_o65 ⟨by decide, by decide⟩
  obtain ⟨T64, h64, X64, e64, W64, st64⟩ := stI X62 hx hZ e62 Ar_o65 (j := (31 : Int32)) hin64 (g := (mkF m 208 #[.val (.int p1), .val (.int p2), .unset, .unset, .unset, .unset, .unset] [(.int (65536 : Int32)), (.int (31 : Int32)), (.ref b1), (.ref b1)])) rfl rfl (hb hby at_208)
  have V64 : Arv Z h64 b1 k1 .int (35 : Int32) [(.int (0 : Int32)), (.int (65 : Int32)), (.int (90 : Int32)), (.int (95 : Int32)), (.int (97 : Int32)), (.int (122 : Int32)), (.int (192 : Int32)), (.int (214 : Int32)), (.int (215 : Int32)), (.int (216 : Int32)), (.int (246 : Int32)), (.int (247 : Int32)), (.int (248 : Int32)), (.int (767 : Int32)), (.int (880 : Int32)), (.int (893 : Int32)), (.int (894 : Int32)), (.int (895 : Int32)), (.int (8191 : Int32)), (.int (8204 : Int32)), (.int (8205 : Int32)), (.int (8304 : Int32)), (.int (8591 : Int32)), (.int (11264 : Int32)), (.int (12271 : Int32)), (.int (12289 : Int32)), (.int (55295 : Int32)), (.int (63744 : Int32)), (.int (64975 : Int32)), (.int (65008 : Int32)), (.int (65533 : Int32)), (.int (65536 : Int32)), (.int (0 : Int32)), (.int (0 : Int32)), (.int (0 : Int32))] (.int (0 : Int32)) := Arv.set Ar_o65 q_o65 S_o65 Nn_o65 H_o65 G_o65 rfl W64 31 rfl (Nat.le_of_ble_eq_true rfl)
  have N64 := Fr.snoc X64 N62 g_b1
  refine Done.of (g' := (mkF m 209 #[.val (.int p1), .val (.int p2), .unset, .unset, .unset, .unset, .unset] [(.ref b1)])) st64 ?_
  refine Done.of (T' := T64) (g' := (mkF m 214 #[.val (.int p1), .val (.int p2), .unset, .unset, .unset, .unset, .unset] [(.int (983039 : Int32)), (.int (32 : Int32)), (.ref b1), (.ref b1)])) (fun t k => ?_) ?_
  · show Steps p.tables e below (T64.setTop (mkF m 209 #[.val (.int p1), .val (.int p2), .unset, .unset, .unset, .unset, .unset] [(.ref b1)])) t
    refine XS.dup X64.here hx rfl (hb hby at_209) rfl rfl ?_
    show Steps p.tables e below (T64.setTop (mkF m 210 #[.val (.int p1), .val (.int p2), .unset, .unset, .unset, .unset, .unset] [(.ref b1), (.ref b1)])) t
    refine XS.bipush X64.here hx rfl (hb hby at_210) ?_
    show Steps p.tables e below (T64.setTop (mkF m 212 #[.val (.int p1), .val (.int p2), .unset, .unset, .unset, .unset, .unset] [(.int (32 : Int32)), (.ref b1), (.ref b1)])) t
    refine X64.ldcInt hx hown (mvT hZ (hw _ (List.mem_of_getElem? (i := 7) rfl))) (g := (mkF m 212 #[.val (.int p1), .val (.int p2), .unset, .unset, .unset, .unset, .unset] [(.int (32 : Int32)), (.ref b1), (.ref b1)])) rfl (hb hby at_212) _ ?_
    exact k
  obtain ⟨cl_o67, Ar_o67, q_o67, S_o67, Nn_o67, H_o67, G_o67⟩ := id V64
  have hin66 : ¬ ((32 : Int32) < 0 ∨ cl_o67.slots.size ≤ ((32 : Int32)).toNatClampNeg) := inb_of S_o67 ⟨by decide, by decide⟩
  obtain ⟨T66, h66, X66, e66, W66, st66⟩ := stI X64 hx hZ e64 Ar_o67 (j := (32 : Int32)) hin66 (g := (mkF m 214 #[.val (.int p1), .val (.int p2), .unset, .unset, .unset, .unset, .unset] [(.int (983039 : Int32)), (.int (32 : Int32)), (.ref b1), (.ref b1)])) rfl rfl (hb hby at_214)
  have V66 : Arv Z h66 b1 k1 .int (35 : Int32) [(.int (0 : Int32)), (.int (65 : Int32)), (.int (90 : Int32)), (.int (95 : Int32)), (.int (97 : Int32)), (.int (122 : Int32)), (.int (192 : Int32)), (.int (214 : Int32)), (.int (215 : Int32)), (.int (216 : Int32)), (.int (246 : Int32)), (.int (247 : Int32)), (.int (248 : Int32)), (.int (767 : Int32)), (.int (880 : Int32)), (.int (893 : Int32)), (.int (894 : Int32)), (.int (895 : Int32)), (.int (8191 : Int32)), (.int (8204 : Int32)), (.int (8205 : Int32)), (.int (8304 : Int32)), (.int (8591 : Int32)), (.int (11264 : Int32)), (.int (12271 : Int32)), (.int (12289 : Int32)), (.int (55295 : Int32)), (.int (63744 : Int32)), (.int (64975 : Int32)), (.int (65008 : Int32)), (.int (65533 : Int32)), (.int (65536 : Int32)), (.int (983039 : Int32)), (.int (0 : Int32)), (.int (0 : Int32))] (.int (0 : Int32)) := Arv.set Ar_o67 q_o67 S_o67 Nn_o67 H_o67 G_o67 rfl W66 32 rfl (Nat.le_of_ble_eq_true rfl)
  have N66 := Fr.snoc X66 N64 g_b1
  refine Done.of (g' := (mkF m 215 #[.val (.int p1), .val (.int p2), .unset, .unset, .unset, .unset, .unset] [(.ref b1)])) st66 ?_
  refine Done.of (T' := T66) (g' := (mkF m 220 #[.val (.int p1), .val (.int p2), .unset, .unset, .unset, .unset, .unset] [(.int (-2147483648 : Int32)), (.int (33 : Int32)), (.ref b1), (.ref b1)])) (fun t k => ?_) ?_
  · show Steps p.tables e below (T66.setTop (mkF m 215 #[.val (.int p1), .val (.int p2), .unset, .unset, .unset, .unset, .unset] [(.ref b1)])) t
    refine XS.dup X66.here hx rfl (hb hby at_215) rfl rfl ?_
    show Steps p.tables e below (T66.setTop (mkF m 216 #[.val (.int p1), .val (.int p2), .unset, .unset, .unset, .unset, .unset] [(.ref b1), (.ref b1)])) t
    refine XS.bipush X66.here hx rfl (hb hby at_216) ?_
    show Steps p.tables e below (T66.setTop (mkF m 218 #[.val (.int p1), .val (.int p2), .unset, .unset, .unset, .unset, .unset] [(.int (33 : Int32)), (.ref b1), (.ref b1)])) t
    refine X66.ldcInt hx hown (mvT hZ (hw _ (List.mem_of_getElem? (i := 8) rfl))) (g := (mkF m 218 #[.val (.int p1), .val (.int p2), .unset, .unset, .unset, .unset, .unset] [(.int (33 : Int32)), (.ref b1), (.ref b1)])) rfl (hb hby at_218) _ ?_
    exact k
  obtain ⟨cl_o69, Ar_o69, q_o69, S_o69, Nn_o69, H_o69, G_o69⟩ := id V66
  have hin68 : ¬ ((33 : Int32) < 0 ∨ cl_o69.slots.size ≤ ((33 : Int32)).toNatClampNeg) := inb_of S_o69 ⟨by decide, by decide⟩
  obtain ⟨T68, h68, X68, e68, W68, st68⟩ := stI X66 hx hZ e66 Ar_o69 (j := (33 : Int32)) hin68 (g := (mkF m 220 #[.val (.int p1), .val (.int p2), .unset, .unset, .unset, .unset, .unset] [(.int (-2147483648 : Int32)), (.int (33 : Int32)), (.ref b1), (.ref b1)])) rfl rfl (hb hby at_220)
  have V68 : Arv Z h68 b1 k1 .int (35 : Int32) [(.int (0 : Int32)), (.int (65 : Int32)), (.int (90 : Int32)), (.int (95 : Int32)), (.int (97 : Int32)), (.int (122 : Int32)), (.int (192 : Int32)), (.int (214 : Int32)), (.int (215 : Int32)), (.int (216 : Int32)), (.int (246 : Int32)), (.int (247 : Int32)), (.int (248 : Int32)), (.int (767 : Int32)), (.int (880 : Int32)), (.int (893 : Int32)), (.int (894 : Int32)), (.int (895 : Int32)), (.int (8191 : Int32)), (.int (8204 : Int32)), (.int (8205 : Int32)), (.int (8304 : Int32)), (.int (8591 : Int32)), (.int (11264 : Int32)), (.int (12271 : Int32)), (.int (12289 : Int32)), (.int (55295 : Int32)), (.int (63744 : Int32)), (.int (64975 : Int32)), (.int (65008 : Int32)), (.int (65533 : Int32)), (.int (65536 : Int32)), (.int (983039 : Int32)), (.int (-2147483648 : Int32)), (.int (0 : Int32))] (.int (0 : Int32)) := Arv.set Ar_o69 q_o69 S_o69 Nn_o69 H_o69 G_o69 rfl W68 33 rfl (Nat.le_of_ble_eq_true rfl)
  have N68 := Fr.snoc X68 N66 g_b1
  refine Done.of (g' := (mkF m 221 #[.val (.int p1), .val (.int p2), .unset, .unset, .unset, .unset, .unset] [(.ref b1)])) st68 ?_
  refine Done.of (T' := T68) (g' := (mkF m 226 #[.val (.int p1), .val (.int p2), .unset, .unset, .unset, .unset, .unset] [(.int (2147483647 : Int32)), (.int (34 : Int32)), (.ref b1), (.ref b1)])) (fun t k => ?_) ?_
  · show Steps p.tables e below (T68.setTop (mkF m 221 #[.val (.int p1), .val (.int p2), .unset, .unset, .unset, .unset, .unset] [(.ref b1)])) t
    refine XS.dup X68.here hx rfl (hb hby at_221) rfl rfl ?_
    show Steps p.tables e below (T68.setTop (mkF m 222 #[.val (.int p1), .val (.int p2), .unset, .unset, .unset, .unset, .unset] [(.ref b1), (.ref b1)])) t
    refine XS.bipush X68.here hx rfl (hb hby at_222) ?_
    show Steps p.tables e below (T68.setTop (mkF m 224 #[.val (.int p1), .val (.int p2), .unset, .unset, .unset, .unset, .unset] [(.int (34 : Int32)), (.ref b1), (.ref b1)])) t
    refine X68.ldcInt hx hown (mvT hZ (hw _ (List.mem_of_getElem? (i := 9) rfl))) (g := (mkF m 224 #[.val (.int p1), .val (.int p2), .unset, .unset, .unset, .unset, .unset] [(.int (34 : Int32)), (.ref b1), (.ref b1)])) rfl (hb hby at_224) _ ?_
    exact k
  obtain ⟨cl_o71, Ar_o71, q_o71, S_o71, Nn_o71, H_o71, G_o71⟩ := id V68
  have hin70 : ¬ ((34 : Int32) < 0 ∨ cl_o71.slots.size ≤ ((34 : Int32)).toNatClampNeg) := inb_of S_o71 ⟨by decide, by decide⟩
  obtain ⟨T70, h70, X70, e70, W70, st70⟩ := stI X68 hx hZ e68 Ar_o71 (j := (34 : Int32)) hin70 (g := (mkF m 226 #[.val (.int p1), .val (.int p2), .unset, .unset, .unset, .unset, .unset] [(.int (2147483647 : Int32)), (.int (34 : Int32)), (.ref b1), (.ref b1)])) rfl rfl (hb hby at_226)
  have V70 : Arv Z h70 b1 k1 .int (35 : Int32) [(.int (0 : Int32)), (.int (65 : Int32)), (.int (90 : Int32)), (.int (95 : Int32)), (.int (97 : Int32)), (.int (122 : Int32)), (.int (192 : Int32)), (.int (214 : Int32)), (.int (215 : Int32)), (.int (216 : Int32)), (.int (246 : Int32)), (.int (247 : Int32)), (.int (248 : Int32)), (.int (767 : Int32)), (.int (880 : Int32)), (.int (893 : Int32)), (.int (894 : Int32)), (.int (895 : Int32)), (.int (8191 : Int32)), (.int (8204 : Int32)), (.int (8205 : Int32)), (.int (8304 : Int32)), (.int (8591 : Int32)), (.int (11264 : Int32)), (.int (12271 : Int32)), (.int (12289 : Int32)), (.int (55295 : Int32)), (.int (63744 : Int32)), (.int (64975 : Int32)), (.int (65008 : Int32)), (.int (65533 : Int32)), (.int (65536 : Int32)), (.int (983039 : Int32)), (.int (-2147483648 : Int32)), (.int (2147483647 : Int32))] (.int (0 : Int32)) := Arv.set Ar_o71 q_o71 S_o71 Nn_o71 H_o71 G_o71 rfl W70 34 rfl (Nat.le_of_ble_eq_true rfl)
  have N70 := Fr.snoc X70 N68 g_b1
  refine Done.of (g' := (mkF m 227 #[.val (.int p1), .val (.int p2), .unset, .unset, .unset, .unset, .unset] [(.ref b1)])) st70 ?_
  refine Done.of (T' := T70) (g' := (mkF m 236 #[.val (.int p1), .val (.int p2), .val (.ref b1), .val (.int (((p2.toUInt32 >>> ((28 : Int32) &&& 31).toUInt32).toInt32) &&& (3 : Int32))), .unset, .unset, .unset] [(.int (((p2.toUInt32 >>> ((28 : Int32) &&& 31).toUInt32).toInt32) &&& (3 : Int32)))])) (fun t k => ?_) ?_
  · show Steps p.tables e below (T70.setTop (mkF m 227 #[.val (.int p1), .val (.int p2), .unset, .unset, .unset, .unset, .unset] [(.ref b1)])) t
    refine XS.astoreN X70.here hx rfl (hb hby at_227) rfl rfl (l' := #[.val (.int p1), .val (.int p2), .val (.ref b1), .unset, .unset, .unset, .unset]) rfl ?_
    show Steps p.tables e below (T70.setTop (mkF m 228 #[.val (.int p1), .val (.int p2), .val (.ref b1), .unset, .unset, .unset, .unset] [])) t
    refine XS.iloadN X70.here hx rfl (hb hby at_228) rfl ?_
    show Steps p.tables e below (T70.setTop (mkF m 229 #[.val (.int p1), .val (.int p2), .val (.ref b1), .unset, .unset, .unset, .unset] [(.int p2)])) t
    refine XS.bipush X70.here hx rfl (hb hby at_229) ?_
    show Steps p.tables e below (T70.setTop (mkF m 231 #[.val (.int p1), .val (.int p2), .val (.ref b1), .unset, .unset, .unset, .unset] [(.int (28 : Int32)), (.int p2)])) t
    refine XS.iushr X70.here hx rfl (hb hby at_231) rfl ?_
    show Steps p.tables e below (T70.setTop (mkF m 232 #[.val (.int p1), .val (.int p2), .val (.ref b1), .unset, .unset, .unset, .unset] [(.int ((p2.toUInt32 >>> ((28 : Int32) &&& 31).toUInt32).toInt32))])) t
    refine XS.iconst X70.here hx rfl (hb hby at_232) ?_
    show Steps p.tables e below (T70.setTop (mkF m 233 #[.val (.int p1), .val (.int p2), .val (.ref b1), .unset, .unset, .unset, .unset] [(.int (3 : Int32)), (.int ((p2.toUInt32 >>> ((28 : Int32) &&& 31).toUInt32).toInt32))])) t
    refine XS.iand X70.here hx rfl (hb hby at_233) rfl ?_
    show Steps p.tables e below (T70.setTop (mkF m 234 #[.val (.int p1), .val (.int p2), .val (.ref b1), .unset, .unset, .unset, .unset] [(.int (((p2.toUInt32 >>> ((28 : Int32) &&& 31).toUInt32).toInt32) &&& (3 : Int32)))])) t
    refine XS.istoreN X70.here hx rfl (hb hby at_234) rfl (l' := #[.val (.int p1), .val (.int p2), .val (.ref b1), .val (.int (((p2.toUInt32 >>> ((28 : Int32) &&& 31).toUInt32).toInt32) &&& (3 : Int32))), .unset, .unset, .unset]) rfl ?_
    show Steps p.tables e below (T70.setTop (mkF m 235 #[.val (.int p1), .val (.int p2), .val (.ref b1), .val (.int (((p2.toUInt32 >>> ((28 : Int32) &&& 31).toUInt32).toInt32) &&& (3 : Int32))), .unset, .unset, .unset] [])) t
    refine XS.iloadN X70.here hx rfl (hb hby at_235) rfl ?_
    exact k
  by_cases hc236_71 : (((p2.toUInt32 >>> ((28 : Int32) &&& 31).toUInt32).toInt32) &&& (3 : Int32)) = (0 : Int32)
  · rw [if_pos hc236_71]
    refine Done.of (T' := T70) (g' := (mkF m 287 #[.val (.int p1), .val (.int p2), .val (.ref b1), .val (.int (((p2.toUInt32 >>> ((28 : Int32) &&& 31).toUInt32).toInt32) &&& (3 : Int32))), .val (.int p1), .unset, .unset] [])) (fun t k => ?_) ?_
    · show Steps p.tables e below (T70.setTop (mkF m 236 #[.val (.int p1), .val (.int p2), .val (.ref b1), .val (.int (((p2.toUInt32 >>> ((28 : Int32) &&& 31).toUInt32).toInt32) &&& (3 : Int32))), .unset, .unset, .unset] [(.int (((p2.toUInt32 >>> ((28 : Int32) &&& 31).toUInt32).toInt32) &&& (3 : Int32)))])) t
      refine XS.ifNo X70.here hx rfl (hb hby at_236) rfl ((if0 _ _).trans (teq hc236_71).2) ?_
      show Steps p.tables e below (T70.setTop (mkF m 239 #[.val (.int p1), .val (.int p2), .val (.ref b1), .val (.int (((p2.toUInt32 >>> ((28 : Int32) &&& 31).toUInt32).toInt32) &&& (3 : Int32))), .unset, .unset, .unset] [])) t
      refine XS.iloadN X70.here hx rfl (hb hby at_239) rfl ?_
      show Steps p.tables e below (T70.setTop (mkF m 240 #[.val (.int p1), .val (.int p2), .val (.ref b1), .val (.int (((p2.toUInt32 >>> ((28 : Int32) &&& 31).toUInt32).toInt32) &&& (3 : Int32))), .unset, .unset, .unset] [(.int p1)])) t
      refine XS.istore X70.here hx rfl (hb hby at_240) rfl (l' := #[.val (.int p1), .val (.int p2), .val (.ref b1), .val (.int (((p2.toUInt32 >>> ((28 : Int32) &&& 31).toUInt32).toInt32) &&& (3 : Int32))), .val (.int p1), .unset, .unset]) rfl ?_
      show Steps p.tables e below (T70.setTop (mkF m 242 #[.val (.int p1), .val (.int p2), .val (.ref b1), .val (.int (((p2.toUInt32 >>> ((28 : Int32) &&& 31).toUInt32).toInt32) &&& (3 : Int32))), .val (.int p1), .unset, .unset] [])) t
      refine XS.goto X70.here hx rfl (pc0 := 242) (pc' := 287) rfl (hb hby at_242) (by decide) (by decide) ?_
      exact k
    exact bk0_287 hx hZ hw hby hml hown hnm hret hlk X70 N70 e70 p1 p2 b1 (((p2.toUInt32 >>> ((28 : Int32) &&& 31).toUInt32).toInt32) &&& (3 : Int32)) p1 (.unset) (.unset) One.u One.u (Nat.le_trans (Nat.le_trans (Nat.le_trans (Nat.le_trans (Nat.le_trans (Nat.le_trans (Nat.le_trans (Nat.le_trans (Nat.le_trans (Nat.le_trans (Nat.le_trans (Nat.le_trans (Nat.le_trans (Nat.le_trans (Nat.le_trans (Nat.le_trans (Nat.le_trans (Nat.le_trans (Nat.le_trans (Nat.le_trans (Nat.le_trans (Nat.le_trans (Nat.le_trans (Nat.le_trans (Nat.le_trans (Nat.le_trans (Nat.le_trans (Nat.le_trans (Nat.le_trans (Nat.le_trans (Nat.le_trans (Nat.le_trans (Nat.le_trans (Nat.le_trans (Nat.le_trans (Nat.le_trans Z0 E1.1) (Keep.of_wr W2).1) (Keep.of_wr W4).1) (Keep.of_wr W6).1) (Keep.of_wr W8).1) (Keep.of_wr W10).1) (Keep.of_wr W12).1) (Keep.of_wr W14).1) (Keep.of_wr W16).1) (Keep.of_wr W18).1) (Keep.of_wr W20).1) (Keep.of_wr W22).1) (Keep.of_wr W24).1) (Keep.of_wr W26).1) (Keep.of_wr W28).1) (Keep.of_wr W30).1) (Keep.of_wr W32).1) (Keep.of_wr W34).1) (Keep.of_wr W36).1) (Keep.of_wr W38).1) (Keep.of_wr W40).1) (Keep.of_wr W42).1) (Keep.of_wr W44).1) (Keep.of_wr W46).1) (Keep.of_wr W48).1) (Keep.of_wr W50).1) (Keep.of_wr W52).1) (Keep.of_wr W54).1) (Keep.of_wr W56).1) (Keep.of_wr W58).1) (Keep.of_wr W60).1) (Keep.of_wr W62).1) (Keep.of_wr W64).1) (Keep.of_wr W66).1) (Keep.of_wr W68).1) (Keep.of_wr W70).1) g_b1
  · rw [if_neg hc236_71]
    refine Done.of (T' := T70) (g' := (mkF m 247 #[.val (.int p1), .val (.int p2), .val (.ref b1), .val (.int (((p2.toUInt32 >>> ((28 : Int32) &&& 31).toUInt32).toInt32) &&& (3 : Int32))), .unset, .unset, .unset] [(.int (1 : Int32)), (.int (((p2.toUInt32 >>> ((28 : Int32) &&& 31).toUInt32).toInt32) &&& (3 : Int32)))])) (fun t k => ?_) ?_
    · show Steps p.tables e below (T70.setTop (mkF m 236 #[.val (.int p1), .val (.int p2), .val (.ref b1), .val (.int (((p2.toUInt32 >>> ((28 : Int32) &&& 31).toUInt32).toInt32) &&& (3 : Int32))), .unset, .unset, .unset] [(.int (((p2.toUInt32 >>> ((28 : Int32) &&& 31).toUInt32).toInt32) &&& (3 : Int32)))])) t
      refine XS.ifYes X70.here hx rfl (pc0 := 236) (pc' := 245) rfl (hb hby at_236) rfl ((if0 _ _).trans (feq hc236_71).2) (by decide) (by decide) ?_
      show Steps p.tables e below (T70.setTop (mkF m 245 #[.val (.int p1), .val (.int p2), .val (.ref b1), .val (.int (((p2.toUInt32 >>> ((28 : Int32) &&& 31).toUInt32).toInt32) &&& (3 : Int32))), .unset, .unset, .unset] [])) t
      refine XS.iloadN X70.here hx rfl (hb hby at_245) rfl ?_
      show Steps p.tables e below (T70.setTop (mkF m 246 #[.val (.int p1), .val (.int p2), .val (.ref b1), .val (.int (((p2.toUInt32 >>> ((28 : Int32) &&& 31).toUInt32).toInt32) &&& (3 : Int32))), .unset, .unset, .unset] [(.int (((p2.toUInt32 >>> ((28 : Int32) &&& 31).toUInt32).toInt32) &&& (3 : Int32)))])) t
      refine XS.iconst X70.here hx rfl (hb hby at_246) ?_
      exact k
    by_cases hc247_72 : (((p2.toUInt32 >>> ((28 : Int32) &&& 31).toUInt32).toInt32) &&& (3 : Int32)) = (1 : Int32)
    · rw [if_pos hc247_72]
      refine Done.of (T' := T70) (g' := (mkF m 287 #[.val (.int p1), .val (.int p2), .val (.ref b1), .val (.int (((p2.toUInt32 >>> ((28 : Int32) &&& 31).toUInt32).toInt32) &&& (3 : Int32))), .val (.int (p1 &&& (65535 : Int32))), .unset, .unset] [])) (fun t k => ?_) ?_
      · show Steps p.tables e below (T70.setTop (mkF m 247 #[.val (.int p1), .val (.int p2), .val (.ref b1), .val (.int (((p2.toUInt32 >>> ((28 : Int32) &&& 31).toUInt32).toInt32) &&& (3 : Int32))), .unset, .unset, .unset] [(.int (1 : Int32)), (.int (((p2.toUInt32 >>> ((28 : Int32) &&& 31).toUInt32).toInt32) &&& (3 : Int32)))])) t
        refine XS.icmpNo X70.here hx rfl (hb hby at_247) rfl (teq hc247_72).2 ?_
        show Steps p.tables e below (T70.setTop (mkF m 250 #[.val (.int p1), .val (.int p2), .val (.ref b1), .val (.int (((p2.toUInt32 >>> ((28 : Int32) &&& 31).toUInt32).toInt32) &&& (3 : Int32))), .unset, .unset, .unset] [])) t
        refine XS.iloadN X70.here hx rfl (hb hby at_250) rfl ?_
        show Steps p.tables e below (T70.setTop (mkF m 251 #[.val (.int p1), .val (.int p2), .val (.ref b1), .val (.int (((p2.toUInt32 >>> ((28 : Int32) &&& 31).toUInt32).toInt32) &&& (3 : Int32))), .unset, .unset, .unset] [(.int p1)])) t
        refine X70.ldcInt hx hown (mvT hZ (hw _ (List.mem_of_getElem? (i := 27) rfl))) (g := (mkF m 251 #[.val (.int p1), .val (.int p2), .val (.ref b1), .val (.int (((p2.toUInt32 >>> ((28 : Int32) &&& 31).toUInt32).toInt32) &&& (3 : Int32))), .unset, .unset, .unset] [(.int p1)])) rfl (hb hby at_251) _ ?_
        show Steps p.tables e below (T70.setTop (mkF m 253 #[.val (.int p1), .val (.int p2), .val (.ref b1), .val (.int (((p2.toUInt32 >>> ((28 : Int32) &&& 31).toUInt32).toInt32) &&& (3 : Int32))), .unset, .unset, .unset] [(.int (65535 : Int32)), (.int p1)])) t
        refine XS.iand X70.here hx rfl (hb hby at_253) rfl ?_
        show Steps p.tables e below (T70.setTop (mkF m 254 #[.val (.int p1), .val (.int p2), .val (.ref b1), .val (.int (((p2.toUInt32 >>> ((28 : Int32) &&& 31).toUInt32).toInt32) &&& (3 : Int32))), .unset, .unset, .unset] [(.int (p1 &&& (65535 : Int32)))])) t
        refine XS.istore X70.here hx rfl (hb hby at_254) rfl (l' := #[.val (.int p1), .val (.int p2), .val (.ref b1), .val (.int (((p2.toUInt32 >>> ((28 : Int32) &&& 31).toUInt32).toInt32) &&& (3 : Int32))), .val (.int (p1 &&& (65535 : Int32))), .unset, .unset]) rfl ?_
        show Steps p.tables e below (T70.setTop (mkF m 256 #[.val (.int p1), .val (.int p2), .val (.ref b1), .val (.int (((p2.toUInt32 >>> ((28 : Int32) &&& 31).toUInt32).toInt32) &&& (3 : Int32))), .val (.int (p1 &&& (65535 : Int32))), .unset, .unset] [])) t
        refine XS.goto X70.here hx rfl (pc0 := 256) (pc' := 287) rfl (hb hby at_256) (by decide) (by decide) ?_
        exact k
      exact bk0_287 hx hZ hw hby hml hown hnm hret hlk X70 N70 e70 p1 p2 b1 (((p2.toUInt32 >>> ((28 : Int32) &&& 31).toUInt32).toInt32) &&& (3 : Int32)) (p1 &&& (65535 : Int32)) (.unset) (.unset) One.u One.u (Nat.le_trans (Nat.le_trans (Nat.le_trans (Nat.le_trans (Nat.le_trans (Nat.le_trans (Nat.le_trans (Nat.le_trans (Nat.le_trans (Nat.le_trans (Nat.le_trans (Nat.le_trans (Nat.le_trans (Nat.le_trans (Nat.le_trans (Nat.le_trans (Nat.le_trans (Nat.le_trans (Nat.le_trans (Nat.le_trans (Nat.le_trans (Nat.le_trans (Nat.le_trans (Nat.le_trans (Nat.le_trans (Nat.le_trans (Nat.le_trans (Nat.le_trans (Nat.le_trans (Nat.le_trans (Nat.le_trans (Nat.le_trans (Nat.le_trans (Nat.le_trans (Nat.le_trans (Nat.le_trans Z0 E1.1) (Keep.of_wr W2).1) (Keep.of_wr W4).1) (Keep.of_wr W6).1) (Keep.of_wr W8).1) (Keep.of_wr W10).1) (Keep.of_wr W12).1) (Keep.of_wr W14).1) (Keep.of_wr W16).1) (Keep.of_wr W18).1) (Keep.of_wr W20).1) (Keep.of_wr W22).1) (Keep.of_wr W24).1) (Keep.of_wr W26).1) (Keep.of_wr W28).1) (Keep.of_wr W30).1) (Keep.of_wr W32).1) (Keep.of_wr W34).1) (Keep.of_wr W36).1) (Keep.of_wr W38).1) (Keep.of_wr W40).1) (Keep.of_wr W42).1) (Keep.of_wr W44).1) (Keep.of_wr W46).1) (Keep.of_wr W48).1) (Keep.of_wr W50).1) (Keep.of_wr W52).1) (Keep.of_wr W54).1) (Keep.of_wr W56).1) (Keep.of_wr W58).1) (Keep.of_wr W60).1) (Keep.of_wr W62).1) (Keep.of_wr W64).1) (Keep.of_wr W66).1) (Keep.of_wr W68).1) (Keep.of_wr W70).1) g_b1
    · rw [if_neg hc247_72]
      refine Done.of (T' := T70) (g' := (mkF m 265 #[.val (.int p1), .val (.int p2), .val (.ref b1), .val (.int (((p2.toUInt32 >>> ((28 : Int32) &&& 31).toUInt32).toInt32) &&& (3 : Int32))), .unset, .unset, .unset] [(.ref b1), (.int (p2 &&& (268435455 : Int32))), (.ref b1)])) (fun t k => ?_) ?_
      · show Steps p.tables e below (T70.setTop (mkF m 247 #[.val (.int p1), .val (.int p2), .val (.ref b1), .val (.int (((p2.toUInt32 >>> ((28 : Int32) &&& 31).toUInt32).toInt32) &&& (3 : Int32))), .unset, .unset, .unset] [(.int (1 : Int32)), (.int (((p2.toUInt32 >>> ((28 : Int32) &&& 31).toUInt32).toInt32) &&& (3 : Int32)))])) t
        refine XS.icmpYes X70.here hx rfl (pc0 := 247) (pc' := 259) rfl (hb hby at_247) rfl (feq hc247_72).2 (by decide) (by decide) ?_
        show Steps p.tables e below (T70.setTop (mkF m 259 #[.val (.int p1), .val (.int p2), .val (.ref b1), .val (.int (((p2.toUInt32 >>> ((28 : Int32) &&& 31).toUInt32).toInt32) &&& (3 : Int32))), .unset, .unset, .unset] [])) t
        refine XS.aloadN X70.here hx rfl (hb hby at_259) rfl rfl ?_
        show Steps p.tables e below (T70.setTop (mkF m 260 #[.val (.int p1), .val (.int p2), .val (.ref b1), .val (.int (((p2.toUInt32 >>> ((28 : Int32) &&& 31).toUInt32).toInt32) &&& (3 : Int32))), .unset, .unset, .unset] [(.ref b1)])) t
        refine XS.iloadN X70.here hx rfl (hb hby at_260) rfl ?_
        show Steps p.tables e below (T70.setTop (mkF m 261 #[.val (.int p1), .val (.int p2), .val (.ref b1), .val (.int (((p2.toUInt32 >>> ((28 : Int32) &&& 31).toUInt32).toInt32) &&& (3 : Int32))), .unset, .unset, .unset] [(.int p2), (.ref b1)])) t
        refine X70.ldcInt hx hown (mvT hZ (hw _ (List.mem_of_getElem? (i := 28) rfl))) (g := (mkF m 261 #[.val (.int p1), .val (.int p2), .val (.ref b1), .val (.int (((p2.toUInt32 >>> ((28 : Int32) &&& 31).toUInt32).toInt32) &&& (3 : Int32))), .unset, .unset, .unset] [(.int p2), (.ref b1)])) rfl (hb hby at_261) _ ?_
        show Steps p.tables e below (T70.setTop (mkF m 263 #[.val (.int p1), .val (.int p2), .val (.ref b1), .val (.int (((p2.toUInt32 >>> ((28 : Int32) &&& 31).toUInt32).toInt32) &&& (3 : Int32))), .unset, .unset, .unset] [(.int (268435455 : Int32)), (.int p2), (.ref b1)])) t
        refine XS.iand X70.here hx rfl (hb hby at_263) rfl ?_
        show Steps p.tables e below (T70.setTop (mkF m 264 #[.val (.int p1), .val (.int p2), .val (.ref b1), .val (.int (((p2.toUInt32 >>> ((28 : Int32) &&& 31).toUInt32).toInt32) &&& (3 : Int32))), .unset, .unset, .unset] [(.int (p2 &&& (268435455 : Int32))), (.ref b1)])) t
        refine XS.aloadN X70.here hx rfl (hb hby at_264) rfl rfl ?_
        exact k
      obtain ⟨cl_o74, Ar_o74, q_o74, S_o74, Nn_o74, H_o74, G_o74⟩ := id V70
      refine Done.of (T' := T70) (g' := (mkF m 267 #[.val (.int p1), .val (.int p2), .val (.ref b1), .val (.int (((p2.toUInt32 >>> ((28 : Int32) &&& 31).toUInt32).toInt32) &&& (3 : Int32))), .unset, .unset, .unset] [(.int ((p2 &&& (268435455 : Int32)) % (35 : Int32))), (.ref b1)])) (fun t k => ?_) ?_
      · show Steps p.tables e below (T70.setTop (mkF m 265 #[.val (.int p1), .val (.int p2), .val (.ref b1), .val (.int (((p2.toUInt32 >>> ((28 : Int32) &&& 31).toUInt32).toInt32) &&& (3 : Int32))), .unset, .unset, .unset] [(.ref b1), (.int (p2 &&& (268435455 : Int32))), (.ref b1)])) t
        refine X70.arraylength hx (by rw [e70]; exact Ar_o74.1) (State.isArrayOf_alike hZ.alike Ar_o74.2.1) (g := (mkF m 265 #[.val (.int p1), .val (.int p2), .val (.ref b1), .val (.int (((p2.toUInt32 >>> ((28 : Int32) &&& 31).toUInt32).toInt32) &&& (3 : Int32))), .unset, .unset, .unset] [(.ref b1), (.int (p2 &&& (268435455 : Int32))), (.ref b1)])) rfl rfl (hb hby at_265) _ ?_
        rw [len_of S_o74 Nn_o74]
        show Steps p.tables e below (T70.setTop (mkF m 266 #[.val (.int p1), .val (.int p2), .val (.ref b1), .val (.int (((p2.toUInt32 >>> ((28 : Int32) &&& 31).toUInt32).toInt32) &&& (3 : Int32))), .unset, .unset, .unset] [(.int (35 : Int32)), (.int (p2 &&& (268435455 : Int32))), (.ref b1)])) t
        refine iremM X70 hx rfl (hb hby at_266) rfl (by decide) ?_
        exact k
      obtain ⟨cl_o76, Ar_o76, q_o76, S_o76, Nn_o76, H_o76, G_o76⟩ := id V70
      have hin75 : ¬ (((p2 &&& (268435455 : Int32)) % (35 : Int32)) < 0 ∨ cl_o76.slots.size ≤ (((p2 &&& (268435455 : Int32)) % (35 : Int32))).toNatClampNeg) := inb_of S_o76 (own_in p2)
      have hat75 : cl_o76.slots[(((p2 &&& (268435455 : Int32)) % (35 : Int32))).toNatClampNeg]? = some (.int (own_tab.getD (((p2 &&& (268435455 : Int32)) % (35 : Int32))).toNatClampNeg 0)) := own_hat (vs := own_tab) H_o76 hin75
      refine Done.of (g' := (mkF m 268 #[.val (.int p1), .val (.int p2), .val (.ref b1), .val (.int (((p2.toUInt32 >>> ((28 : Int32) &&& 31).toUInt32).toInt32) &&& (3 : Int32))), .unset, .unset, .unset] [(.int (own_tab.getD (((p2 &&& (268435455 : Int32)) % (35 : Int32))).toNatClampNeg 0))])) (X70.iaload hx (j := ((p2 &&& (268435455 : Int32)) % (35 : Int32))) (v := (.int (own_tab.getD (((p2 &&& (268435455 : Int32)) % (35 : Int32))).toNatClampNeg 0))) (by rw [e70]; exact Ar_o76.1) (State.isArrayOf_alike hZ.alike Ar_o76.2.1) Ar_o76.2.2 hin75 hat75 (g := (mkF m 267 #[.val (.int p1), .val (.int p2), .val (.ref b1), .val (.int (((p2.toUInt32 >>> ((28 : Int32) &&& 31).toUInt32).toInt32) &&& (3 : Int32))), .unset, .unset, .unset] [(.int ((p2 &&& (268435455 : Int32)) % (35 : Int32))), (.ref b1)])) rfl rfl (hb hby at_267)) ?_
      refine Done.of (T' := T70) (g' := (mkF m 287 #[.val (.int p1), .val (.int p2), .val (.ref b1), .val (.int (((p2.toUInt32 >>> ((28 : Int32) &&& 31).toUInt32).toInt32) &&& (3 : Int32))), .val (.int ((own_tab.getD (((p2 &&& (268435455 : Int32)) % (35 : Int32))).toNatClampNeg 0) + (((p1 &&& (2147483647 : Int32)) % (3 : Int32)) - (1 : Int32)))), .val (.int (own_tab.getD (((p2 &&& (268435455 : Int32)) % (35 : Int32))).toNatClampNeg 0)), .val (.int (((p1 &&& (2147483647 : Int32)) % (3 : Int32)) - (1 : Int32)))] [])) (fun t k => ?_) ?_
      · show Steps p.tables e below (T70.setTop (mkF m 268 #[.val (.int p1), .val (.int p2), .val (.ref b1), .val (.int (((p2.toUInt32 >>> ((28 : Int32) &&& 31).toUInt32).toInt32) &&& (3 : Int32))), .unset, .unset, .unset] [(.int (own_tab.getD (((p2 &&& (268435455 : Int32)) % (35 : Int32))).toNatClampNeg 0))])) t
        refine XS.istore X70.here hx rfl (hb hby at_268) rfl (l' := #[.val (.int p1), .val (.int p2), .val (.ref b1), .val (.int (((p2.toUInt32 >>> ((28 : Int32) &&& 31).toUInt32).toInt32) &&& (3 : Int32))), .unset, .val (.int (own_tab.getD (((p2 &&& (268435455 : Int32)) % (35 : Int32))).toNatClampNeg 0)), .unset]) rfl ?_
        show Steps p.tables e below (T70.setTop (mkF m 270 #[.val (.int p1), .val (.int p2), .val (.ref b1), .val (.int (((p2.toUInt32 >>> ((28 : Int32) &&& 31).toUInt32).toInt32) &&& (3 : Int32))), .unset, .val (.int (own_tab.getD (((p2 &&& (268435455 : Int32)) % (35 : Int32))).toNatClampNeg 0)), .unset] [])) t
        refine XS.iloadN X70.here hx rfl (hb hby at_270) rfl ?_
        show Steps p.tables e below (T70.setTop (mkF m 271 #[.val (.int p1), .val (.int p2), .val (.ref b1), .val (.int (((p2.toUInt32 >>> ((28 : Int32) &&& 31).toUInt32).toInt32) &&& (3 : Int32))), .unset, .val (.int (own_tab.getD (((p2 &&& (268435455 : Int32)) % (35 : Int32))).toNatClampNeg 0)), .unset] [(.int p1)])) t
        refine X70.ldcInt hx hown (mvT hZ (hw _ (List.mem_of_getElem? (i := 9) rfl))) (g := (mkF m 271 #[.val (.int p1), .val (.int p2), .val (.ref b1), .val (.int (((p2.toUInt32 >>> ((28 : Int32) &&& 31).toUInt32).toInt32) &&& (3 : Int32))), .unset, .val (.int (own_tab.getD (((p2 &&& (268435455 : Int32)) % (35 : Int32))).toNatClampNeg 0)), .unset] [(.int p1)])) rfl (hb hby at_271) _ ?_
        show Steps p.tables e below (T70.setTop (mkF m 273 #[.val (.int p1), .val (.int p2), .val (.ref b1), .val (.int (((p2.toUInt32 >>> ((28 : Int32) &&& 31).toUInt32).toInt32) &&& (3 : Int32))), .unset, .val (.int (own_tab.getD (((p2 &&& (268435455 : Int32)) % (35 : Int32))).toNatClampNeg 0)), .unset] [(.int (2147483647 : Int32)), (.int p1)])) t
        refine XS.iand X70.here hx rfl (hb hby at_273) rfl ?_
        show Steps p.tables e below (T70.setTop (mkF m 274 #[.val (.int p1), .val (.int p2), .val (.ref b1), .val (.int (((p2.toUInt32 >>> ((28 : Int32) &&& 31).toUInt32).toInt32) &&& (3 : Int32))), .unset, .val (.int (own_tab.getD (((p2 &&& (268435455 : Int32)) % (35 : Int32))).toNatClampNeg 0)), .unset] [(.int (p1 &&& (2147483647 : Int32)))])) t
        refine XS.iconst X70.here hx rfl (hb hby at_274) ?_
        show Steps p.tables e below (T70.setTop (mkF m 275 #[.val (.int p1), .val (.int p2), .val (.ref b1), .val (.int (((p2.toUInt32 >>> ((28 : Int32) &&& 31).toUInt32).toInt32) &&& (3 : Int32))), .unset, .val (.int (own_tab.getD (((p2 &&& (268435455 : Int32)) % (35 : Int32))).toNatClampNeg 0)), .unset] [(.int (3 : Int32)), (.int (p1 &&& (2147483647 : Int32)))])) t
        refine iremM X70 hx rfl (hb hby at_275) rfl (by decide) ?_
        show Steps p.tables e below (T70.setTop (mkF m 276 #[.val (.int p1), .val (.int p2), .val (.ref b1), .val (.int (((p2.toUInt32 >>> ((28 : Int32) &&& 31).toUInt32).toInt32) &&& (3 : Int32))), .unset, .val (.int (own_tab.getD (((p2 &&& (268435455 : Int32)) % (35 : Int32))).toNatClampNeg 0)), .unset] [(.int ((p1 &&& (2147483647 : Int32)) % (3 : Int32)))])) t
        refine XS.iconst X70.here hx rfl (hb hby at_276) ?_
        show Steps p.tables e below (T70.setTop (mkF m 277 #[.val (.int p1), .val (.int p2), .val (.ref b1), .val (.int (((p2.toUInt32 >>> ((28 : Int32) &&& 31).toUInt32).toInt32) &&& (3 : Int32))), .unset, .val (.int (own_tab.getD (((p2 &&& (268435455 : Int32)) % (35 : Int32))).toNatClampNeg 0)), .unset] [(.int (1 : Int32)), (.int ((p1 &&& (2147483647 : Int32)) % (3 : Int32)))])) t
        refine XS.isub X70.here hx rfl (hb hby at_277) rfl ?_
        show Steps p.tables e below (T70.setTop (mkF m 278 #[.val (.int p1), .val (.int p2), .val (.ref b1), .val (.int (((p2.toUInt32 >>> ((28 : Int32) &&& 31).toUInt32).toInt32) &&& (3 : Int32))), .unset, .val (.int (own_tab.getD (((p2 &&& (268435455 : Int32)) % (35 : Int32))).toNatClampNeg 0)), .unset] [(.int (((p1 &&& (2147483647 : Int32)) % (3 : Int32)) - (1 : Int32)))])) t
        refine XS.istore X70.here hx rfl (hb hby at_278) rfl (l' := #[.val (.int p1), .val (.int p2), .val (.ref b1), .val (.int (((p2.toUInt32 >>> ((28 : Int32) &&& 31).toUInt32).toInt32) &&& (3 : Int32))), .unset, .val (.int (own_tab.getD (((p2 &&& (268435455 : Int32)) % (35 : Int32))).toNatClampNeg 0)), .val (.int (((p1 &&& (2147483647 : Int32)) % (3 : Int32)) - (1 : Int32)))]) rfl ?_
        show Steps p.tables e below (T70.setTop (mkF m 280 #[.val (.int p1), .val (.int p2), .val (.ref b1), .val (.int (((p2.toUInt32 >>> ((28 : Int32) &&& 31).toUInt32).toInt32) &&& (3 : Int32))), .unset, .val (.int (own_tab.getD (((p2 &&& (268435455 : Int32)) % (35 : Int32))).toNatClampNeg 0)), .val (.int (((p1 &&& (2147483647 : Int32)) % (3 : Int32)) - (1 : Int32)))] [])) t
        refine XS.iload X70.here hx rfl (hb hby at_280) rfl ?_
        show Steps p.tables e below (T70.setTop (mkF m 282 #[.val (.int p1), .val (.int p2), .val (.ref b1), .val (.int (((p2.toUInt32 >>> ((28 : Int32) &&& 31).toUInt32).toInt32) &&& (3 : Int32))), .unset, .val (.int (own_tab.getD (((p2 &&& (268435455 : Int32)) % (35 : Int32))).toNatClampNeg 0)), .val (.int (((p1 &&& (2147483647 : Int32)) % (3 : Int32)) - (1 : Int32)))] [(.int (own_tab.getD (((p2 &&& (268435455 : Int32)) % (35 : Int32))).toNatClampNeg 0))])) t
        refine XS.iload X70.here hx rfl (hb hby at_282) rfl ?_
        show Steps p.tables e below (T70.setTop (mkF m 284 #[.val (.int p1), .val (.int p2), .val (.ref b1), .val (.int (((p2.toUInt32 >>> ((28 : Int32) &&& 31).toUInt32).toInt32) &&& (3 : Int32))), .unset, .val (.int (own_tab.getD (((p2 &&& (268435455 : Int32)) % (35 : Int32))).toNatClampNeg 0)), .val (.int (((p1 &&& (2147483647 : Int32)) % (3 : Int32)) - (1 : Int32)))] [(.int (((p1 &&& (2147483647 : Int32)) % (3 : Int32)) - (1 : Int32))), (.int (own_tab.getD (((p2 &&& (268435455 : Int32)) % (35 : Int32))).toNatClampNeg 0))])) t
        refine XS.iadd X70.here hx rfl (hb hby at_284) rfl ?_
        show Steps p.tables e below (T70.setTop (mkF m 285 #[.val (.int p1), .val (.int p2), .val (.ref b1), .val (.int (((p2.toUInt32 >>> ((28 : Int32) &&& 31).toUInt32).toInt32) &&& (3 : Int32))), .unset, .val (.int (own_tab.getD (((p2 &&& (268435455 : Int32)) % (35 : Int32))).toNatClampNeg 0)), .val (.int (((p1 &&& (2147483647 : Int32)) % (3 : Int32)) - (1 : Int32)))] [(.int ((own_tab.getD (((p2 &&& (268435455 : Int32)) % (35 : Int32))).toNatClampNeg 0) + (((p1 &&& (2147483647 : Int32)) % (3 : Int32)) - (1 : Int32))))])) t
        refine XS.istore X70.here hx rfl (hb hby at_285) rfl (l' := #[.val (.int p1), .val (.int p2), .val (.ref b1), .val (.int (((p2.toUInt32 >>> ((28 : Int32) &&& 31).toUInt32).toInt32) &&& (3 : Int32))), .val (.int ((own_tab.getD (((p2 &&& (268435455 : Int32)) % (35 : Int32))).toNatClampNeg 0) + (((p1 &&& (2147483647 : Int32)) % (3 : Int32)) - (1 : Int32)))), .val (.int (own_tab.getD (((p2 &&& (268435455 : Int32)) % (35 : Int32))).toNatClampNeg 0)), .val (.int (((p1 &&& (2147483647 : Int32)) % (3 : Int32)) - (1 : Int32)))]) rfl ?_
        exact k
      exact bk0_287 hx hZ hw hby hml hown hnm hret hlk X70 N70 e70 p1 p2 b1 (((p2.toUInt32 >>> ((28 : Int32) &&& 31).toUInt32).toInt32) &&& (3 : Int32)) ((own_tab.getD (((p2 &&& (268435455 : Int32)) % (35 : Int32))).toNatClampNeg 0) + (((p1 &&& (2147483647 : Int32)) % (3 : Int32)) - (1 : Int32))) (.val (.int (own_tab.getD (((p2 &&& (268435455 : Int32)) % (35 : Int32))).toNatClampNeg 0))) (.val (.int (((p1 &&& (2147483647 : Int32)) % (3 : Int32)) - (1 : Int32)))) (One.val rfl) (One.val rfl) (Nat.le_trans (Nat.le_trans (Nat.le_trans (Nat.le_trans (Nat.le_trans (Nat.le_trans (Nat.le_trans (Nat.le_trans (Nat.le_trans (Nat.le_trans (Nat.le_trans (Nat.le_trans (Nat.le_trans (Nat.le_trans (Nat.le_trans (Nat.le_trans (Nat.le_trans (Nat.le_trans (Nat.le_trans (Nat.le_trans (Nat.le_trans (Nat.le_trans (Nat.le_trans (Nat.le_trans (Nat.le_trans (Nat.le_trans (Nat.le_trans (Nat.le_trans (Nat.le_trans (Nat.le_trans (Nat.le_trans (Nat.le_trans (Nat.le_trans (Nat.le_trans (Nat.le_trans (Nat.le_trans Z0 E1.1) (Keep.of_wr W2).1) (Keep.of_wr W4).1) (Keep.of_wr W6).1) (Keep.of_wr W8).1) (Keep.of_wr W10).1) (Keep.of_wr W12).1) (Keep.of_wr W14).1) (Keep.of_wr W16).1) (Keep.of_wr W18).1) (Keep.of_wr W20).1) (Keep.of_wr W22).1) (Keep.of_wr W24).1) (Keep.of_wr W26).1) (Keep.of_wr W28).1) (Keep.of_wr W30).1) (Keep.of_wr W32).1) (Keep.of_wr W34).1) (Keep.of_wr W36).1) (Keep.of_wr W38).1) (Keep.of_wr W40).1) (Keep.of_wr W42).1) (Keep.of_wr W44).1) (Keep.of_wr W46).1) (Keep.of_wr W48).1) (Keep.of_wr W50).1) (Keep.of_wr W52).1) (Keep.of_wr W54).1) (Keep.of_wr W56).1) (Keep.of_wr W58).1) (Keep.of_wr W60).1) (Keep.of_wr W62).1) (Keep.of_wr W64).1) (Keep.of_wr W66).1) (Keep.of_wr W68).1) (Keep.of_wr W70).1) g_b1
theorem own_rv (c A B f v : Int32) {a b : Int} (hA : A.toInt = a) (hB : B.toInt = b) : (if c < A then f else (if B < c then f else v)) = if (a ≤ c.toInt ∧ c.toInt ≤ b) then v else f := by
  simp only [Int32.lt_iff_toInt_lt]
  repeat' split
  all_goals first | rfl | (exfalso; omega)
theorem own_ei (c A f v : Int32) {a : Int} (hA : A.toInt = a) : (if c = A then f else v) = if c.toInt = a then f else v := by
  rw [← hA]; by_cases h : c = A
  · rw [if_pos h, if_pos (by rw [h])]
  · rw [if_neg h, if_neg (fun q => h (Int32.toInt_inj.mp q))]
theorem own_li (c A f v : Int32) {a : Int} (hA : A.toInt = a) : (if c < A then f else v) = if c.toInt < a then f else v := by
  simp only [Int32.lt_iff_toInt_lt, hA]
theorem own_gi (c A f v : Int32) {a : Int} (hA : A.toInt = a) : (if A < c then f else v) = if a < c.toInt then f else v := by
  simp only [Int32.lt_iff_toInt_lt, hA]
theorem own_gm (c A f v : Int32) {a : Int} (hA : A.toInt = a) : (if A < (c &&& (65535 : Int32)) then f else v) = if a < c.toInt % 65536 then f else v := by
  have m := c_mask c 65535 16 (by decide) (by decide)
  have e : ((2 ^ 16 : Nat) : Int) = 65536 := rfl
  simp only [Int32.lt_iff_toInt_lt, hA, m, e]
theorem own_lo (c A f v : Int32) {a : Int} (hA : A.toInt = a) : (if (c ||| (32 : Int32)) < A then f else v) = if c.toInt + 32 * (1 - (c.toInt / 32) % 2) < a then f else v := by
  simp only [Int32.lt_iff_toInt_lt, hA, own_or]
theorem own_go (c A f v : Int32) {a : Int} (hA : A.toInt = a) : (if A < (c ||| (32 : Int32)) then f else v) = if a < c.toInt + 32 * (1 - (c.toInt / 32) % 2) then f else v := by
  simp only [Int32.lt_iff_toInt_lt, hA, own_or]
theorem own_R2_173 (i0 : Int32) : F2_173 i0 = (if (65536 ≤ i0.toInt ∧ i0.toInt ≤ 983039) then (1 : Int32) else (0 : Int32)) := by
  unfold F2_173; rw [own_rv i0 (65536 : Int32) (983039 : Int32) _ _ (a := 65536) (b := 983039) rfl rfl]
theorem own_R2_161 (i0 : Int32) : F2_161 i0 = (if (65008 ≤ i0.toInt ∧ i0.toInt ≤ 65533) then (1 : Int32) else (F2_173 i0)) := by
  unfold F2_161; rw [own_rv i0 (65008 : Int32) (65533 : Int32) _ _ (a := 65008) (b := 65533) rfl rfl]
theorem own_R2_149 (i0 : Int32) : F2_149 i0 = (if (63744 ≤ i0.toInt ∧ i0.toInt ≤ 64975) then (1 : Int32) else (F2_161 i0)) := by
  unfold F2_149; rw [own_rv i0 (63744 : Int32) (64975 : Int32) _ _ (a := 63744) (b := 64975) rfl rfl]
theorem own_R2_136 (i0 : Int32) : F2_136 i0 = (if (12289 ≤ i0.toInt ∧ i0.toInt ≤ 55295) then (1 : Int32) else (F2_149 i0)) := by
  unfold F2_136; rw [own_rv i0 (12289 : Int32) (55295 : Int32) _ _ (a := 12289) (b := 55295) rfl rfl]
theorem own_R2_122 (i0 : Int32) : F2_122 i0 = (if (11264 ≤ i0.toInt ∧ i0.toInt ≤ 12271) then (1 : Int32) else (F2_136 i0)) := by
  unfold F2_122; rw [own_rv i0 (11264 : Int32) (12271 : Int32) _ _ (a := 11264) (b := 12271) rfl rfl]
theorem own_R2_108 (i0 : Int32) : F2_108 i0 = (if (8304 ≤ i0.toInt ∧ i0.toInt ≤ 8591) then (1 : Int32) else (F2_122 i0)) := by
  unfold F2_108; rw [own_rv i0 (8304 : Int32) (8591 : Int32) _ _ (a := 8304) (b := 8591) rfl rfl]
theorem own_R2_94 (i0 : Int32) : F2_94 i0 = (if (8204 ≤ i0.toInt ∧ i0.toInt ≤ 8205) then (1 : Int32) else (F2_108 i0)) := by
  unfold F2_94; rw [own_rv i0 (8204 : Int32) (8205 : Int32) _ _ (a := 8204) (b := 8205) rfl rfl]
theorem own_R2_80 (i0 : Int32) : F2_80 i0 = (if (895 ≤ i0.toInt ∧ i0.toInt ≤ 8191) then (1 : Int32) else (F2_94 i0)) := by
  unfold F2_80; rw [own_rv i0 (895 : Int32) (8191 : Int32) _ _ (a := 895) (b := 8191) rfl rfl]
theorem own_R2_66 (i0 : Int32) : F2_66 i0 = (if (880 ≤ i0.toInt ∧ i0.toInt ≤ 893) then (1 : Int32) else (F2_80 i0)) := by
  unfold F2_66; rw [own_rv i0 (880 : Int32) (893 : Int32) _ _ (a := 880) (b := 893) rfl rfl]
theorem own_R2_52 (i0 : Int32) : F2_52 i0 = (if (248 ≤ i0.toInt ∧ i0.toInt ≤ 767) then (1 : Int32) else (F2_66 i0)) := by
  unfold F2_52; rw [own_rv i0 (248 : Int32) (767 : Int32) _ _ (a := 248) (b := 767) rfl rfl]
theorem own_R2_38 (i0 : Int32) : F2_38 i0 = (if (216 ≤ i0.toInt ∧ i0.toInt ≤ 246) then (1 : Int32) else (F2_52 i0)) := by
  unfold F2_38; rw [own_rv i0 (216 : Int32) (246 : Int32) _ _ (a := 216) (b := 246) rfl rfl]
theorem own_R2_24 (i0 : Int32) : F2_24 i0 = (if (192 ≤ i0.toInt ∧ i0.toInt ≤ 214) then (1 : Int32) else (F2_38 i0)) := by
  unfold F2_24; rw [own_rv i0 (192 : Int32) (214 : Int32) _ _ (a := 192) (b := 214) rfl rfl]
theorem own_R2_12 (i0 : Int32) : F2_12 i0 = (if (97 ≤ i0.toInt ∧ i0.toInt ≤ 122) then (1 : Int32) else (F2_24 i0)) := by
  unfold F2_12; rw [own_rv i0 (97 : Int32) (122 : Int32) _ _ (a := 97) (b := 122) rfl rfl]
theorem own_R2_0 (p1 : Int32) : F2_0 p1 = (if (65 ≤ p1.toInt ∧ p1.toInt ≤ 90) then (1 : Int32) else (F2_12 p1)) := by
  unfold F2_0; rw [own_rv p1 (65 : Int32) (90 : Int32) _ _ (a := 65) (b := 90) rfl rfl]
theorem own_R3_190 (i0 : Int32) : F3_190 i0 = (if i0.toInt = 65534 then (0 : Int32) else (if i0.toInt = 65535 then (0 : Int32) else (1 : Int32))) := by
  unfold F3_190; rw [own_ei i0 (65534 : Int32) _ _ (a := 65534) rfl, own_ei i0 (65535 : Int32) _ _ (a := 65535) rfl]
theorem own_R3_176 (i0 : Int32) : F3_176 i0 = (if (64976 ≤ i0.toInt ∧ i0.toInt ≤ 65007) then (0 : Int32) else (F3_190 i0)) := by
  unfold F3_176; rw [own_rv i0 (64976 : Int32) (65007 : Int32) _ _ (a := 64976) (b := 65007) rfl rfl]
theorem own_R3_162 (i0 : Int32) : F3_162 i0 = (if (55296 ≤ i0.toInt ∧ i0.toInt ≤ 63743) then (0 : Int32) else (F3_176 i0)) := by
  unfold F3_162; rw [own_rv i0 (55296 : Int32) (63743 : Int32) _ _ (a := 55296) (b := 63743) rfl rfl]
theorem own_R3_146 (i0 : Int32) : F3_146 i0 = (if (12272 ≤ i0.toInt ∧ i0.toInt ≤ 12288) then (0 : Int32) else (F3_162 i0)) := by
  unfold F3_146; rw [own_rv i0 (12272 : Int32) (12288 : Int32) _ _ (a := 12272) (b := 12288) rfl rfl]
theorem own_R3_130 (i0 : Int32) : F3_130 i0 = (if (8592 ≤ i0.toInt ∧ i0.toInt ≤ 11263) then (0 : Int32) else (F3_146 i0)) := by
  unfold F3_130; rw [own_rv i0 (8592 : Int32) (11263 : Int32) _ _ (a := 8592) (b := 11263) rfl rfl]
theorem own_R3_96 (i0 : Int32) : F3_96 i0 = (if (8192 ≤ i0.toInt ∧ i0.toInt ≤ 8303) then (if i0.toInt = 8204 then (1 : Int32) else (if i0.toInt = 8205 then (1 : Int32) else (0 : Int32))) else (F3_130 i0)) := by
  unfold F3_96; rw [own_rv i0 (8192 : Int32) (8303 : Int32) _ _ (a := 8192) (b := 8303) rfl rfl, own_ei i0 (8204 : Int32) _ _ (a := 8204) rfl, own_ei i0 (8205 : Int32) _ _ (a := 8205) rfl]
theorem own_R3_0 (p1 : Int32) : F3_0 p1 = (if (0 ≤ p1.toInt ∧ p1.toInt ≤ 983039) then (if p1.toInt < 128 then (if p1.toInt = 95 then (1 : Int32) else (if p1.toInt + 32 * (1 - (p1.toInt / 32) % 2) < 97 then (0 : Int32) else (if 122 < p1.toInt + 32 * (1 - (p1.toInt / 32) % 2) then (0 : Int32) else (1 : Int32)))) else (if 191 < p1.toInt then (if p1.toInt = 215 then (0 : Int32) else (if p1.toInt = 247 then (0 : Int32) else (if p1.toInt = 894 then (0 : Int32) else (if (768 ≤ p1.toInt ∧ p1.toInt ≤ 879) then (0 : Int32) else (F3_96 p1))))) else (0 : Int32))) else (0 : Int32)) := by
  unfold F3_0; rw [own_rv p1 (0 : Int32) (983039 : Int32) _ _ (a := 0) (b := 983039) rfl rfl, own_li p1 (128 : Int32) _ _ (a := 128) rfl, own_ei p1 (95 : Int32) _ _ (a := 95) rfl, own_lo p1 (97 : Int32) _ _ (a := 97) rfl, own_go p1 (122 : Int32) _ _ (a := 122) rfl, own_gi p1 (191 : Int32) _ _ (a := 191) rfl, own_ei p1 (215 : Int32) _ _ (a := 215) rfl, own_ei p1 (247 : Int32) _ _ (a := 247) rfl, own_ei p1 (894 : Int32) _ _ (a := 894) rfl, own_rv p1 (768 : Int32) (879 : Int32) _ _ (a := 768) (b := 879) rfl rfl]
-- tree F1_0 own_F1 c := (if c.toInt = 95 then (1 : Int32) else (F2_0 c))
theorem own_z173 (c : Int32) : F2_173 c = 0 ∨ F2_173 c = 1 := by
  rw [own_R2_173]
  split
  · exact Or.inr rfl
  · exact Or.inl rfl
theorem own_z161 (c : Int32) : F2_161 c = 0 ∨ F2_161 c = 1 := by
  rw [own_R2_161]
  split
  · exact Or.inr rfl
  · exact own_z173 c
theorem own_z149 (c : Int32) : F2_149 c = 0 ∨ F2_149 c = 1 := by
  rw [own_R2_149]
  split
  · exact Or.inr rfl
  · exact own_z161 c
theorem own_z136 (c : Int32) : F2_136 c = 0 ∨ F2_136 c = 1 := by
  rw [own_R2_136]
  split
  · exact Or.inr rfl
  · exact own_z149 c
theorem own_z122 (c : Int32) : F2_122 c = 0 ∨ F2_122 c = 1 := by
  rw [own_R2_122]
  split
  · exact Or.inr rfl
  · exact own_z136 c
theorem own_z108 (c : Int32) : F2_108 c = 0 ∨ F2_108 c = 1 := by
  rw [own_R2_108]
  split
  · exact Or.inr rfl
  · exact own_z122 c
theorem own_z94 (c : Int32) : F2_94 c = 0 ∨ F2_94 c = 1 := by
  rw [own_R2_94]
  split
  · exact Or.inr rfl
  · exact own_z108 c
theorem own_z80 (c : Int32) : F2_80 c = 0 ∨ F2_80 c = 1 := by
  rw [own_R2_80]
  split
  · exact Or.inr rfl
  · exact own_z94 c
theorem own_z66 (c : Int32) : F2_66 c = 0 ∨ F2_66 c = 1 := by
  rw [own_R2_66]
  split
  · exact Or.inr rfl
  · exact own_z80 c
theorem own_z52 (c : Int32) : F2_52 c = 0 ∨ F2_52 c = 1 := by
  rw [own_R2_52]
  split
  · exact Or.inr rfl
  · exact own_z66 c
theorem own_z38 (c : Int32) : F2_38 c = 0 ∨ F2_38 c = 1 := by
  rw [own_R2_38]
  split
  · exact Or.inr rfl
  · exact own_z52 c
theorem own_z24 (c : Int32) : F2_24 c = 0 ∨ F2_24 c = 1 := by
  rw [own_R2_24]
  split
  · exact Or.inr rfl
  · exact own_z38 c
theorem own_z12 (c : Int32) : F2_12 c = 0 ∨ F2_12 c = 1 := by
  rw [own_R2_12]
  split
  · exact Or.inr rfl
  · exact own_z24 c
theorem own_z0 (c : Int32) : F2_0 c = 0 ∨ F2_0 c = 1 := by
  rw [own_R2_0]
  split
  · exact Or.inr rfl
  · exact own_z12 c
theorem own_01 (c : Int32) : F2_0 c = 0 ∨ F2_0 c = 1 := own_z0 c
theorem own_F1 (c : Int32) : F1_0 c = if c.toInt = 95 then 1 else F2_0 c := by
  unfold F1_0
  rw [own_ei c 95 _ _ (a := 95) rfl]
  have e : (if F2_0 c = (0 : Int32) then (0 : Int32) else (1 : Int32)) = F2_0 c := by
    rcases own_01 c with h | h <;> rw [h] <;> rfl
  rw [e]
theorem own_eq_0 (c : Int32) (h2 : c.toInt ≤ -1) : F1_0 c = F3_0 c := by
  rw [own_F1, if_neg (by omega), own_R2_0, if_neg (by omega), own_R2_12, if_neg (by omega), own_R2_24, if_neg (by omega), own_R2_38, if_neg (by omega), own_R2_52, if_neg (by omega), own_R2_66, if_neg (by omega), own_R2_80, if_neg (by omega), own_R2_94, if_neg (by omega), own_R2_108, if_neg (by omega), own_R2_122, if_neg (by omega), own_R2_136, if_neg (by omega), own_R2_149, if_neg (by omega), own_R2_161, if_neg (by omega), own_R2_173, if_neg (by omega)]
  rw [own_R3_0, if_neg (by omega)]
theorem own_eq_1 (c : Int32) (h1 : 0 ≤ c.toInt) (h2 : c.toInt ≤ 64) : F1_0 c = F3_0 c := by
  rw [own_F1, if_neg (by omega), own_R2_0, if_neg (by omega), own_R2_12, if_neg (by omega), own_R2_24, if_neg (by omega), own_R2_38, if_neg (by omega), own_R2_52, if_neg (by omega), own_R2_66, if_neg (by omega), own_R2_80, if_neg (by omega), own_R2_94, if_neg (by omega), own_R2_108, if_neg (by omega), own_R2_122, if_neg (by omega), own_R2_136, if_neg (by omega), own_R2_149, if_neg (by omega), own_R2_161, if_neg (by omega), own_R2_173, if_neg (by omega)]
  rw [own_R3_0, if_pos (by omega), if_pos (by omega), if_neg (by omega), if_pos (by omega)]
theorem own_eq_2 (c : Int32) (h1 : 65 ≤ c.toInt) (h2 : c.toInt ≤ 90) : F1_0 c = F3_0 c := by
  rw [own_F1, if_neg (by omega), own_R2_0, if_pos (by omega)]
  rw [own_R3_0, if_pos (by omega), if_pos (by omega), if_neg (by omega), if_neg (by omega), if_neg (by omega)]
theorem own_eq_3 (c : Int32) (h1 : 91 ≤ c.toInt) (h2 : c.toInt ≤ 94) : F1_0 c = F3_0 c := by
  rw [own_F1, if_neg (by omega), own_R2_0, if_neg (by omega), own_R2_12, if_neg (by omega), own_R2_24, if_neg (by omega), own_R2_38, if_neg (by omega), own_R2_52, if_neg (by omega), own_R2_66, if_neg (by omega), own_R2_80, if_neg (by omega), own_R2_94, if_neg (by omega), own_R2_108, if_neg (by omega), own_R2_122, if_neg (by omega), own_R2_136, if_neg (by omega), own_R2_149, if_neg (by omega), own_R2_161, if_neg (by omega), own_R2_173, if_neg (by omega)]
  rw [own_R3_0, if_pos (by omega), if_pos (by omega), if_neg (by omega), if_neg (by omega), if_pos (by omega)]
theorem own_eq_4 (c : Int32) (h1 : 95 ≤ c.toInt) (h2 : c.toInt ≤ 95) : F1_0 c = F3_0 c := by
  rw [own_F1, if_pos (by omega)]
  rw [own_R3_0, if_pos (by omega), if_pos (by omega), if_pos (by omega)]
theorem own_eq_5 (c : Int32) (h1 : 96 ≤ c.toInt) (h2 : c.toInt ≤ 96) : F1_0 c = F3_0 c := by
  rw [own_F1, if_neg (by omega), own_R2_0, if_neg (by omega), own_R2_12, if_neg (by omega), own_R2_24, if_neg (by omega), own_R2_38, if_neg (by omega), own_R2_52, if_neg (by omega), own_R2_66, if_neg (by omega), own_R2_80, if_neg (by omega), own_R2_94, if_neg (by omega), own_R2_108, if_neg (by omega), own_R2_122, if_neg (by omega), own_R2_136, if_neg (by omega), own_R2_149, if_neg (by omega), own_R2_161, if_neg (by omega), own_R2_173, if_neg (by omega)]
  rw [own_R3_0, if_pos (by omega), if_pos (by omega), if_neg (by omega), if_pos (by omega)]
theorem own_eq_6 (c : Int32) (h1 : 97 ≤ c.toInt) (h2 : c.toInt ≤ 122) : F1_0 c = F3_0 c := by
  rw [own_F1, if_neg (by omega), own_R2_0, if_neg (by omega), own_R2_12, if_pos (by omega)]
  rw [own_R3_0, if_pos (by omega), if_pos (by omega), if_neg (by omega), if_neg (by omega), if_neg (by omega)]
theorem own_eq_7 (c : Int32) (h1 : 123 ≤ c.toInt) (h2 : c.toInt ≤ 127) : F1_0 c = F3_0 c := by
  rw [own_F1, if_neg (by omega), own_R2_0, if_neg (by omega), own_R2_12, if_neg (by omega), own_R2_24, if_neg (by omega), own_R2_38, if_neg (by omega), own_R2_52, if_neg (by omega), own_R2_66, if_neg (by omega), own_R2_80, if_neg (by omega), own_R2_94, if_neg (by omega), own_R2_108, if_neg (by omega), own_R2_122, if_neg (by omega), own_R2_136, if_neg (by omega), own_R2_149, if_neg (by omega), own_R2_161, if_neg (by omega), own_R2_173, if_neg (by omega)]
  rw [own_R3_0, if_pos (by omega), if_pos (by omega), if_neg (by omega), if_neg (by omega), if_pos (by omega)]
theorem own_eq_8 (c : Int32) (h1 : 128 ≤ c.toInt) (h2 : c.toInt ≤ 191) : F1_0 c = F3_0 c := by
  rw [own_F1, if_neg (by omega), own_R2_0, if_neg (by omega), own_R2_12, if_neg (by omega), own_R2_24, if_neg (by omega), own_R2_38, if_neg (by omega), own_R2_52, if_neg (by omega), own_R2_66, if_neg (by omega), own_R2_80, if_neg (by omega), own_R2_94, if_neg (by omega), own_R2_108, if_neg (by omega), own_R2_122, if_neg (by omega), own_R2_136, if_neg (by omega), own_R2_149, if_neg (by omega), own_R2_161, if_neg (by omega), own_R2_173, if_neg (by omega)]
  rw [own_R3_0, if_pos (by omega), if_neg (by omega), if_neg (by omega)]
theorem own_eq_9 (c : Int32) (h1 : 192 ≤ c.toInt) (h2 : c.toInt ≤ 214) : F1_0 c = F3_0 c := by
  rw [own_F1, if_neg (by omega), own_R2_0, if_neg (by omega), own_R2_12, if_neg (by omega), own_R2_24, if_pos (by omega)]
  rw [own_R3_0, if_pos (by omega), if_neg (by omega), if_pos (by omega), if_neg (by omega), if_neg (by omega), if_neg (by omega), if_neg (by omega), own_R3_96, if_neg (by omega), own_R3_130, if_neg (by omega), own_R3_146, if_neg (by omega), own_R3_162, if_neg (by omega), own_R3_176, if_neg (by omega), own_R3_190, if_neg (by omega), if_neg (by omega)]
theorem own_eq_10 (c : Int32) (h1 : 215 ≤ c.toInt) (h2 : c.toInt ≤ 215) : F1_0 c = F3_0 c := by
  rw [own_F1, if_neg (by omega), own_R2_0, if_neg (by omega), own_R2_12, if_neg (by omega), own_R2_24, if_neg (by omega), own_R2_38, if_neg (by omega), own_R2_52, if_neg (by omega), own_R2_66, if_neg (by omega), own_R2_80, if_neg (by omega), own_R2_94, if_neg (by omega), own_R2_108, if_neg (by omega), own_R2_122, if_neg (by omega), own_R2_136, if_neg (by omega), own_R2_149, if_neg (by omega), own_R2_161, if_neg (by omega), own_R2_173, if_neg (by omega)]
  rw [own_R3_0, if_pos (by omega), if_neg (by omega), if_pos (by omega), if_pos (by omega)]
theorem own_eq_11 (c : Int32) (h1 : 216 ≤ c.toInt) (h2 : c.toInt ≤ 246) : F1_0 c = F3_0 c := by
  rw [own_F1, if_neg (by omega), own_R2_0, if_neg (by omega), own_R2_12, if_neg (by omega), own_R2_24, if_neg (by omega), own_R2_38, if_pos (by omega)]
  rw [own_R3_0, if_pos (by omega), if_neg (by omega), if_pos (by omega), if_neg (by omega), if_neg (by omega), if_neg (by omega), if_neg (by omega), own_R3_96, if_neg (by omega), own_R3_130, if_neg (by omega), own_R3_146, if_neg (by omega), own_R3_162, if_neg (by omega), own_R3_176, if_neg (by omega), own_R3_190, if_neg (by omega), if_neg (by omega)]
theorem own_eq_12 (c : Int32) (h1 : 247 ≤ c.toInt) (h2 : c.toInt ≤ 247) : F1_0 c = F3_0 c := by
  rw [own_F1, if_neg (by omega), own_R2_0, if_neg (by omega), own_R2_12, if_neg (by omega), own_R2_24, if_neg (by omega), own_R2_38, if_neg (by omega), own_R2_52, if_neg (by omega), own_R2_66, if_neg (by omega), own_R2_80, if_neg (by omega), own_R2_94, if_neg (by omega), own_R2_108, if_neg (by omega), own_R2_122, if_neg (by omega), own_R2_136, if_neg (by omega), own_R2_149, if_neg (by omega), own_R2_161, if_neg (by omega), own_R2_173, if_neg (by omega)]
  rw [own_R3_0, if_pos (by omega), if_neg (by omega), if_pos (by omega), if_neg (by omega), if_pos (by omega)]
theorem own_eq_13 (c : Int32) (h1 : 248 ≤ c.toInt) (h2 : c.toInt ≤ 767) : F1_0 c = F3_0 c := by
  rw [own_F1, if_neg (by omega), own_R2_0, if_neg (by omega), own_R2_12, if_neg (by omega), own_R2_24, if_neg (by omega), own_R2_38, if_neg (by omega), own_R2_52, if_pos (by omega)]
  rw [own_R3_0, if_pos (by omega), if_neg (by omega), if_pos (by omega), if_neg (by omega), if_neg (by omega), if_neg (by omega), if_neg (by omega), own_R3_96, if_neg (by omega), own_R3_130, if_neg (by omega), own_R3_146, if_neg (by omega), own_R3_162, if_neg (by omega), own_R3_176, if_neg (by omega), own_R3_190, if_neg (by omega), if_neg (by omega)]
theorem own_eq_14 (c : Int32) (h1 : 768 ≤ c.toInt) (h2 : c.toInt ≤ 879) : F1_0 c = F3_0 c := by
  rw [own_F1, if_neg (by omega), own_R2_0, if_neg (by omega), own_R2_12, if_neg (by omega), own_R2_24, if_neg (by omega), own_R2_38, if_neg (by omega), own_R2_52, if_neg (by omega), own_R2_66, if_neg (by omega), own_R2_80, if_neg (by omega), own_R2_94, if_neg (by omega), own_R2_108, if_neg (by omega), own_R2_122, if_neg (by omega), own_R2_136, if_neg (by omega), own_R2_149, if_neg (by omega), own_R2_161, if_neg (by omega), own_R2_173, if_neg (by omega)]
  rw [own_R3_0, if_pos (by omega), if_neg (by omega), if_pos (by omega), if_neg (by omega), if_neg (by omega), if_neg (by omega), if_pos (by omega)]
theorem own_eq_15 (c : Int32) (h1 : 880 ≤ c.toInt) (h2 : c.toInt ≤ 893) : F1_0 c = F3_0 c := by
  rw [own_F1, if_neg (by omega), own_R2_0, if_neg (by omega), own_R2_12, if_neg (by omega), own_R2_24, if_neg (by omega), own_R2_38, if_neg (by omega), own_R2_52, if_neg (by omega), own_R2_66, if_pos (by omega)]
  rw [own_R3_0, if_pos (by omega), if_neg (by omega), if_pos (by omega), if_neg (by omega), if_neg (by omega), if_neg (by omega), if_neg (by omega), own_R3_96, if_neg (by omega), own_R3_130, if_neg (by omega), own_R3_146, if_neg (by omega), own_R3_162, if_neg (by omega), own_R3_176, if_neg (by omega), own_R3_190, if_neg (by omega), if_neg (by omega)]
theorem own_eq_16 (c : Int32) (h1 : 894 ≤ c.toInt) (h2 : c.toInt ≤ 894) : F1_0 c = F3_0 c := by
  rw [own_F1, if_neg (by omega), own_R2_0, if_neg (by omega), own_R2_12, if_neg (by omega), own_R2_24, if_neg (by omega), own_R2_38, if_neg (by omega), own_R2_52, if_neg (by omega), own_R2_66, if_neg (by omega), own_R2_80, if_neg (by omega), own_R2_94, if_neg (by omega), own_R2_108, if_neg (by omega), own_R2_122, if_neg (by omega), own_R2_136, if_neg (by omega), own_R2_149, if_neg (by omega), own_R2_161, if_neg (by omega), own_R2_173, if_neg (by omega)]
  rw [own_R3_0, if_pos (by omega), if_neg (by omega), if_pos (by omega), if_neg (by omega), if_neg (by omega), if_pos (by omega)]
theorem own_eq_17 (c : Int32) (h1 : 895 ≤ c.toInt) (h2 : c.toInt ≤ 8191) : F1_0 c = F3_0 c := by
  rw [own_F1, if_neg (by omega), own_R2_0, if_neg (by omega), own_R2_12, if_neg (by omega), own_R2_24, if_neg (by omega), own_R2_38, if_neg (by omega), own_R2_52, if_neg (by omega), own_R2_66, if_neg (by omega), own_R2_80, if_pos (by omega)]
  rw [own_R3_0, if_pos (by omega), if_neg (by omega), if_pos (by omega), if_neg (by omega), if_neg (by omega), if_neg (by omega), if_neg (by omega), own_R3_96, if_neg (by omega), own_R3_130, if_neg (by omega), own_R3_146, if_neg (by omega), own_R3_162, if_neg (by omega), own_R3_176, if_neg (by omega), own_R3_190, if_neg (by omega), if_neg (by omega)]
theorem own_eq_18 (c : Int32) (h1 : 8192 ≤ c.toInt) (h2 : c.toInt ≤ 8203) : F1_0 c = F3_0 c := by
  rw [own_F1, if_neg (by omega), own_R2_0, if_neg (by omega), own_R2_12, if_neg (by omega), own_R2_24, if_neg (by omega), own_R2_38, if_neg (by omega), own_R2_52, if_neg (by omega), own_R2_66, if_neg (by omega), own_R2_80, if_neg (by omega), own_R2_94, if_neg (by omega), own_R2_108, if_neg (by omega), own_R2_122, if_neg (by omega), own_R2_136, if_neg (by omega), own_R2_149, if_neg (by omega), own_R2_161, if_neg (by omega), own_R2_173, if_neg (by omega)]
  rw [own_R3_0, if_pos (by omega), if_neg (by omega), if_pos (by omega), if_neg (by omega), if_neg (by omega), if_neg (by omega), if_neg (by omega), own_R3_96, if_pos (by omega), if_neg (by omega), if_neg (by omega)]
theorem own_eq_19 (c : Int32) (h1 : 8204 ≤ c.toInt) (h2 : c.toInt ≤ 8204) : F1_0 c = F3_0 c := by
  rw [own_F1, if_neg (by omega), own_R2_0, if_neg (by omega), own_R2_12, if_neg (by omega), own_R2_24, if_neg (by omega), own_R2_38, if_neg (by omega), own_R2_52, if_neg (by omega), own_R2_66, if_neg (by omega), own_R2_80, if_neg (by omega), own_R2_94, if_pos (by omega)]
  rw [own_R3_0, if_pos (by omega), if_neg (by omega), if_pos (by omega), if_neg (by omega), if_neg (by omega), if_neg (by omega), if_neg (by omega), own_R3_96, if_pos (by omega), if_pos (by omega)]
theorem own_eq_20 (c : Int32) (h1 : 8205 ≤ c.toInt) (h2 : c.toInt ≤ 8205) : F1_0 c = F3_0 c := by
  rw [own_F1, if_neg (by omega), own_R2_0, if_neg (by omega), own_R2_12, if_neg (by omega), own_R2_24, if_neg (by omega), own_R2_38, if_neg (by omega), own_R2_52, if_neg (by omega), own_R2_66, if_neg (by omega), own_R2_80, if_neg (by omega), own_R2_94, if_pos (by omega)]
  rw [own_R3_0, if_pos (by omega), if_neg (by omega), if_pos (by omega), if_neg (by omega), if_neg (by omega), if_neg (by omega), if_neg (by omega), own_R3_96, if_pos (by omega), if_neg (by omega), if_pos (by omega)]
theorem own_eq_21 (c : Int32) (h1 : 8206 ≤ c.toInt) (h2 : c.toInt ≤ 8303) : F1_0 c = F3_0 c := by
  rw [own_F1, if_neg (by omega), own_R2_0, if_neg (by omega), own_R2_12, if_neg (by omega), own_R2_24, if_neg (by omega), own_R2_38, if_neg (by omega), own_R2_52, if_neg (by omega), own_R2_66, if_neg (by omega), own_R2_80, if_neg (by omega), own_R2_94, if_neg (by omega), own_R2_108, if_neg (by omega), own_R2_122, if_neg (by omega), own_R2_136, if_neg (by omega), own_R2_149, if_neg (by omega), own_R2_161, if_neg (by omega), own_R2_173, if_neg (by omega)]
  rw [own_R3_0, if_pos (by omega), if_neg (by omega), if_pos (by omega), if_neg (by omega), if_neg (by omega), if_neg (by omega), if_neg (by omega), own_R3_96, if_pos (by omega), if_neg (by omega), if_neg (by omega)]
theorem own_eq_22 (c : Int32) (h1 : 8304 ≤ c.toInt) (h2 : c.toInt ≤ 8591) : F1_0 c = F3_0 c := by
  rw [own_F1, if_neg (by omega), own_R2_0, if_neg (by omega), own_R2_12, if_neg (by omega), own_R2_24, if_neg (by omega), own_R2_38, if_neg (by omega), own_R2_52, if_neg (by omega), own_R2_66, if_neg (by omega), own_R2_80, if_neg (by omega), own_R2_94, if_neg (by omega), own_R2_108, if_pos (by omega)]
  rw [own_R3_0, if_pos (by omega), if_neg (by omega), if_pos (by omega), if_neg (by omega), if_neg (by omega), if_neg (by omega), if_neg (by omega), own_R3_96, if_neg (by omega), own_R3_130, if_neg (by omega), own_R3_146, if_neg (by omega), own_R3_162, if_neg (by omega), own_R3_176, if_neg (by omega), own_R3_190, if_neg (by omega), if_neg (by omega)]
theorem own_eq_23 (c : Int32) (h1 : 8592 ≤ c.toInt) (h2 : c.toInt ≤ 11263) : F1_0 c = F3_0 c := by
  rw [own_F1, if_neg (by omega), own_R2_0, if_neg (by omega), own_R2_12, if_neg (by omega), own_R2_24, if_neg (by omega), own_R2_38, if_neg (by omega), own_R2_52, if_neg (by omega), own_R2_66, if_neg (by omega), own_R2_80, if_neg (by omega), own_R2_94, if_neg (by omega), own_R2_108, if_neg (by omega), own_R2_122, if_neg (by omega), own_R2_136, if_neg (by omega), own_R2_149, if_neg (by omega), own_R2_161, if_neg (by omega), own_R2_173, if_neg (by omega)]
  rw [own_R3_0, if_pos (by omega), if_neg (by omega), if_pos (by omega), if_neg (by omega), if_neg (by omega), if_neg (by omega), if_neg (by omega), own_R3_96, if_neg (by omega), own_R3_130, if_pos (by omega)]
theorem own_eq_24 (c : Int32) (h1 : 11264 ≤ c.toInt) (h2 : c.toInt ≤ 12271) : F1_0 c = F3_0 c := by
  rw [own_F1, if_neg (by omega), own_R2_0, if_neg (by omega), own_R2_12, if_neg (by omega), own_R2_24, if_neg (by omega), own_R2_38, if_neg (by omega), own_R2_52, if_neg (by omega), own_R2_66, if_neg (by omega), own_R2_80, if_neg (by omega), own_R2_94, if_neg (by omega), own_R2_108, if_neg (by omega), own_R2_122, if_pos (by omega)]
  rw [own_R3_0, if_pos (by omega), if_neg (by omega), if_pos (by omega), if_neg (by omega), if_neg (by omega), if_neg (by omega), if_neg (by omega), own_R3_96, if_neg (by omega), own_R3_130, if_neg (by omega), own_R3_146, if_neg (by omega), own_R3_162, if_neg (by omega), own_R3_176, if_neg (by omega), own_R3_190, if_neg (by omega), if_neg (by omega)]
theorem own_eq_25 (c : Int32) (h1 : 12272 ≤ c.toInt) (h2 : c.toInt ≤ 12288) : F1_0 c = F3_0 c := by
  rw [own_F1, if_neg (by omega), own_R2_0, if_neg (by omega), own_R2_12, if_neg (by omega), own_R2_24, if_neg (by omega), own_R2_38, if_neg (by omega), own_R2_52, if_neg (by omega), own_R2_66, if_neg (by omega), own_R2_80, if_neg (by omega), own_R2_94, if_neg (by omega), own_R2_108, if_neg (by omega), own_R2_122, if_neg (by omega), own_R2_136, if_neg (by omega), own_R2_149, if_neg (by omega), own_R2_161, if_neg (by omega), own_R2_173, if_neg (by omega)]
  rw [own_R3_0, if_pos (by omega), if_neg (by omega), if_pos (by omega), if_neg (by omega), if_neg (by omega), if_neg (by omega), if_neg (by omega), own_R3_96, if_neg (by omega), own_R3_130, if_neg (by omega), own_R3_146, if_pos (by omega)]
theorem own_eq_26 (c : Int32) (h1 : 12289 ≤ c.toInt) (h2 : c.toInt ≤ 55295) : F1_0 c = F3_0 c := by
  rw [own_F1, if_neg (by omega), own_R2_0, if_neg (by omega), own_R2_12, if_neg (by omega), own_R2_24, if_neg (by omega), own_R2_38, if_neg (by omega), own_R2_52, if_neg (by omega), own_R2_66, if_neg (by omega), own_R2_80, if_neg (by omega), own_R2_94, if_neg (by omega), own_R2_108, if_neg (by omega), own_R2_122, if_neg (by omega), own_R2_136, if_pos (by omega)]
  rw [own_R3_0, if_pos (by omega), if_neg (by omega), if_pos (by omega), if_neg (by omega), if_neg (by omega), if_neg (by omega), if_neg (by omega), own_R3_96, if_neg (by omega), own_R3_130, if_neg (by omega), own_R3_146, if_neg (by omega), own_R3_162, if_neg (by omega), own_R3_176, if_neg (by omega), own_R3_190, if_neg (by omega), if_neg (by omega)]
theorem own_eq_27 (c : Int32) (h1 : 55296 ≤ c.toInt) (h2 : c.toInt ≤ 63743) : F1_0 c = F3_0 c := by
  rw [own_F1, if_neg (by omega), own_R2_0, if_neg (by omega), own_R2_12, if_neg (by omega), own_R2_24, if_neg (by omega), own_R2_38, if_neg (by omega), own_R2_52, if_neg (by omega), own_R2_66, if_neg (by omega), own_R2_80, if_neg (by omega), own_R2_94, if_neg (by omega), own_R2_108, if_neg (by omega), own_R2_122, if_neg (by omega), own_R2_136, if_neg (by omega), own_R2_149, if_neg (by omega), own_R2_161, if_neg (by omega), own_R2_173, if_neg (by omega)]
  rw [own_R3_0, if_pos (by omega), if_neg (by omega), if_pos (by omega), if_neg (by omega), if_neg (by omega), if_neg (by omega), if_neg (by omega), own_R3_96, if_neg (by omega), own_R3_130, if_neg (by omega), own_R3_146, if_neg (by omega), own_R3_162, if_pos (by omega)]
theorem own_eq_28 (c : Int32) (h1 : 63744 ≤ c.toInt) (h2 : c.toInt ≤ 64975) : F1_0 c = F3_0 c := by
  rw [own_F1, if_neg (by omega), own_R2_0, if_neg (by omega), own_R2_12, if_neg (by omega), own_R2_24, if_neg (by omega), own_R2_38, if_neg (by omega), own_R2_52, if_neg (by omega), own_R2_66, if_neg (by omega), own_R2_80, if_neg (by omega), own_R2_94, if_neg (by omega), own_R2_108, if_neg (by omega), own_R2_122, if_neg (by omega), own_R2_136, if_neg (by omega), own_R2_149, if_pos (by omega)]
  rw [own_R3_0, if_pos (by omega), if_neg (by omega), if_pos (by omega), if_neg (by omega), if_neg (by omega), if_neg (by omega), if_neg (by omega), own_R3_96, if_neg (by omega), own_R3_130, if_neg (by omega), own_R3_146, if_neg (by omega), own_R3_162, if_neg (by omega), own_R3_176, if_neg (by omega), own_R3_190, if_neg (by omega), if_neg (by omega)]
theorem own_eq_29 (c : Int32) (h1 : 64976 ≤ c.toInt) (h2 : c.toInt ≤ 65007) : F1_0 c = F3_0 c := by
  rw [own_F1, if_neg (by omega), own_R2_0, if_neg (by omega), own_R2_12, if_neg (by omega), own_R2_24, if_neg (by omega), own_R2_38, if_neg (by omega), own_R2_52, if_neg (by omega), own_R2_66, if_neg (by omega), own_R2_80, if_neg (by omega), own_R2_94, if_neg (by omega), own_R2_108, if_neg (by omega), own_R2_122, if_neg (by omega), own_R2_136, if_neg (by omega), own_R2_149, if_neg (by omega), own_R2_161, if_neg (by omega), own_R2_173, if_neg (by omega)]
  rw [own_R3_0, if_pos (by omega), if_neg (by omega), if_pos (by omega), if_neg (by omega), if_neg (by omega), if_neg (by omega), if_neg (by omega), own_R3_96, if_neg (by omega), own_R3_130, if_neg (by omega), own_R3_146, if_neg (by omega), own_R3_162, if_neg (by omega), own_R3_176, if_pos (by omega)]
theorem own_eq_30 (c : Int32) (h1 : 65008 ≤ c.toInt) (h2 : c.toInt ≤ 65533) : F1_0 c = F3_0 c := by
  rw [own_F1, if_neg (by omega), own_R2_0, if_neg (by omega), own_R2_12, if_neg (by omega), own_R2_24, if_neg (by omega), own_R2_38, if_neg (by omega), own_R2_52, if_neg (by omega), own_R2_66, if_neg (by omega), own_R2_80, if_neg (by omega), own_R2_94, if_neg (by omega), own_R2_108, if_neg (by omega), own_R2_122, if_neg (by omega), own_R2_136, if_neg (by omega), own_R2_149, if_neg (by omega), own_R2_161, if_pos (by omega)]
  rw [own_R3_0, if_pos (by omega), if_neg (by omega), if_pos (by omega), if_neg (by omega), if_neg (by omega), if_neg (by omega), if_neg (by omega), own_R3_96, if_neg (by omega), own_R3_130, if_neg (by omega), own_R3_146, if_neg (by omega), own_R3_162, if_neg (by omega), own_R3_176, if_neg (by omega), own_R3_190, if_neg (by omega), if_neg (by omega)]
theorem own_eq_31 (c : Int32) (h1 : 65534 ≤ c.toInt) (h2 : c.toInt ≤ 65534) : F1_0 c = F3_0 c := by
  rw [own_F1, if_neg (by omega), own_R2_0, if_neg (by omega), own_R2_12, if_neg (by omega), own_R2_24, if_neg (by omega), own_R2_38, if_neg (by omega), own_R2_52, if_neg (by omega), own_R2_66, if_neg (by omega), own_R2_80, if_neg (by omega), own_R2_94, if_neg (by omega), own_R2_108, if_neg (by omega), own_R2_122, if_neg (by omega), own_R2_136, if_neg (by omega), own_R2_149, if_neg (by omega), own_R2_161, if_neg (by omega), own_R2_173, if_neg (by omega)]
  rw [own_R3_0, if_pos (by omega), if_neg (by omega), if_pos (by omega), if_neg (by omega), if_neg (by omega), if_neg (by omega), if_neg (by omega), own_R3_96, if_neg (by omega), own_R3_130, if_neg (by omega), own_R3_146, if_neg (by omega), own_R3_162, if_neg (by omega), own_R3_176, if_neg (by omega), own_R3_190, if_pos (by omega)]
theorem own_eq_32 (c : Int32) (h1 : 65535 ≤ c.toInt) (h2 : c.toInt ≤ 65535) : F1_0 c = F3_0 c := by
  rw [own_F1, if_neg (by omega), own_R2_0, if_neg (by omega), own_R2_12, if_neg (by omega), own_R2_24, if_neg (by omega), own_R2_38, if_neg (by omega), own_R2_52, if_neg (by omega), own_R2_66, if_neg (by omega), own_R2_80, if_neg (by omega), own_R2_94, if_neg (by omega), own_R2_108, if_neg (by omega), own_R2_122, if_neg (by omega), own_R2_136, if_neg (by omega), own_R2_149, if_neg (by omega), own_R2_161, if_neg (by omega), own_R2_173, if_neg (by omega)]
  rw [own_R3_0, if_pos (by omega), if_neg (by omega), if_pos (by omega), if_neg (by omega), if_neg (by omega), if_neg (by omega), if_neg (by omega), own_R3_96, if_neg (by omega), own_R3_130, if_neg (by omega), own_R3_146, if_neg (by omega), own_R3_162, if_neg (by omega), own_R3_176, if_neg (by omega), own_R3_190, if_neg (by omega), if_pos (by omega)]
theorem own_eq_33 (c : Int32) (h1 : 65536 ≤ c.toInt) (h2 : c.toInt ≤ 983039) : F1_0 c = F3_0 c := by
  rw [own_F1, if_neg (by omega), own_R2_0, if_neg (by omega), own_R2_12, if_neg (by omega), own_R2_24, if_neg (by omega), own_R2_38, if_neg (by omega), own_R2_52, if_neg (by omega), own_R2_66, if_neg (by omega), own_R2_80, if_neg (by omega), own_R2_94, if_neg (by omega), own_R2_108, if_neg (by omega), own_R2_122, if_neg (by omega), own_R2_136, if_neg (by omega), own_R2_149, if_neg (by omega), own_R2_161, if_neg (by omega), own_R2_173, if_pos (by omega)]
  rw [own_R3_0, if_pos (by omega), if_neg (by omega), if_pos (by omega), if_neg (by omega), if_neg (by omega), if_neg (by omega), if_neg (by omega), own_R3_96, if_neg (by omega), own_R3_130, if_neg (by omega), own_R3_146, if_neg (by omega), own_R3_162, if_neg (by omega), own_R3_176, if_neg (by omega), own_R3_190, if_neg (by omega), if_neg (by omega)]
theorem own_eq_34 (c : Int32) (h1 : 983040 ≤ c.toInt) : F1_0 c = F3_0 c := by
  rw [own_F1, if_neg (by omega), own_R2_0, if_neg (by omega), own_R2_12, if_neg (by omega), own_R2_24, if_neg (by omega), own_R2_38, if_neg (by omega), own_R2_52, if_neg (by omega), own_R2_66, if_neg (by omega), own_R2_80, if_neg (by omega), own_R2_94, if_neg (by omega), own_R2_108, if_neg (by omega), own_R2_122, if_neg (by omega), own_R2_136, if_neg (by omega), own_R2_149, if_neg (by omega), own_R2_161, if_neg (by omega), own_R2_173, if_neg (by omega)]
  rw [own_R3_0, if_neg (by omega)]
theorem own_eq (c : Int32) : F1_0 c = F3_0 c := by
  by_cases g0 : c.toInt < 0
  · exact own_eq_0 c (by omega)
  by_cases g1 : c.toInt < 65
  · exact own_eq_1 c (by omega) (by omega)
  by_cases g2 : c.toInt < 91
  · exact own_eq_2 c (by omega) (by omega)
  by_cases g3 : c.toInt < 95
  · exact own_eq_3 c (by omega) (by omega)
  by_cases g4 : c.toInt < 96
  · exact own_eq_4 c (by omega) (by omega)
  by_cases g5 : c.toInt < 97
  · exact own_eq_5 c (by omega) (by omega)
  by_cases g6 : c.toInt < 123
  · exact own_eq_6 c (by omega) (by omega)
  by_cases g7 : c.toInt < 128
  · exact own_eq_7 c (by omega) (by omega)
  by_cases g8 : c.toInt < 192
  · exact own_eq_8 c (by omega) (by omega)
  by_cases g9 : c.toInt < 215
  · exact own_eq_9 c (by omega) (by omega)
  by_cases g10 : c.toInt < 216
  · exact own_eq_10 c (by omega) (by omega)
  by_cases g11 : c.toInt < 247
  · exact own_eq_11 c (by omega) (by omega)
  by_cases g12 : c.toInt < 248
  · exact own_eq_12 c (by omega) (by omega)
  by_cases g13 : c.toInt < 768
  · exact own_eq_13 c (by omega) (by omega)
  by_cases g14 : c.toInt < 880
  · exact own_eq_14 c (by omega) (by omega)
  by_cases g15 : c.toInt < 894
  · exact own_eq_15 c (by omega) (by omega)
  by_cases g16 : c.toInt < 895
  · exact own_eq_16 c (by omega) (by omega)
  by_cases g17 : c.toInt < 8192
  · exact own_eq_17 c (by omega) (by omega)
  by_cases g18 : c.toInt < 8204
  · exact own_eq_18 c (by omega) (by omega)
  by_cases g19 : c.toInt < 8205
  · exact own_eq_19 c (by omega) (by omega)
  by_cases g20 : c.toInt < 8206
  · exact own_eq_20 c (by omega) (by omega)
  by_cases g21 : c.toInt < 8304
  · exact own_eq_21 c (by omega) (by omega)
  by_cases g22 : c.toInt < 8592
  · exact own_eq_22 c (by omega) (by omega)
  by_cases g23 : c.toInt < 11264
  · exact own_eq_23 c (by omega) (by omega)
  by_cases g24 : c.toInt < 12272
  · exact own_eq_24 c (by omega) (by omega)
  by_cases g25 : c.toInt < 12289
  · exact own_eq_25 c (by omega) (by omega)
  by_cases g26 : c.toInt < 55296
  · exact own_eq_26 c (by omega) (by omega)
  by_cases g27 : c.toInt < 63744
  · exact own_eq_27 c (by omega) (by omega)
  by_cases g28 : c.toInt < 64976
  · exact own_eq_28 c (by omega) (by omega)
  by_cases g29 : c.toInt < 65008
  · exact own_eq_29 c (by omega) (by omega)
  by_cases g30 : c.toInt < 65534
  · exact own_eq_30 c (by omega) (by omega)
  by_cases g31 : c.toInt < 65535
  · exact own_eq_31 c (by omega) (by omega)
  by_cases g32 : c.toInt < 65536
  · exact own_eq_32 c (by omega) (by omega)
  by_cases g33 : c.toInt < 983040
  · exact own_eq_33 c (by omega) (by omega)
  exact own_eq_34 c (by omega)
theorem own_law (p1 p2 : Int32) : F0_0 p1 p2 = 1 := by
  unfold F0_0 F0_287
  rw [if_pos (own_eq _), if_pos (own_eq _), if_pos (own_eq _)]
  repeat' split
  all_goals rfl
theorem ef_0 (m : MethodId) (p1 : Int32) (p2 : Int32) : entryFrame m #[(.int p1), (.int p2)] maxLocals = mkF m 0 #[.val (.int p1), .val (.int p2), .unset, .unset, .unset, .unset, .unset] [] := by first | (simp [entryFrame, mkF, argsToLocals, Value.category, maxLocals]; done) | rfl
theorem pn_0 : plainName "com/example/orbweave/orbweave/term/NameCharsIsPnCharsUPinLaw" = true := by first | (simp [plainName, overriddenIn]; done) | decide +kernel
set_option maxRecDepth 65536 in
set_option maxHeartbeats 40000000 in
theorem rm0 (l : Launch) (Z : State) (a0 : Array Value) (hw : ∀ d ∈ tables_1, d.before a0 Z = true) (ws : List Jvm.Cond) (p1 : Int32) (p2 : Int32) (h0 : Heap) (n0 : Nat) (Z0 : n0 ≤ h0.size) :
    MetFree l x (head1 (Jvm.Cond.code x code maxLocals ret :: ws) room_1) (fun a U => a = #[(.int p1), (.int p2)] ∧ Z.Warmed39 U.vm ∧ U.heap = h0) (fun _ _ _ _ _ => True) (fun _ U o U' => ∃ v L, o = .returned v ∧ (Ql n0 (.int 1)) v U'.heap L ∧ FrameEnd U o U' L room_1.cells room_1.slots) := by
  refine MetFree.of_bodySF (plainFor_of_name pn_0) hisR ?_
  intro p e s m args below meth c s₁ Bd hml0 hP hK
  obtain ⟨rfl, hZ, hh⟩ := hP
  have hown : s.vm.findClass "com/example/orbweave/orbweave/term/NameCharsIsPnCharsUPinLaw" = some m.cls := findClass_of_methodNamed Bd.named
  have hnm := (name_of_methodNamed Bd.named Bd.method).1
  have X0 : Stand p l e room_1 s m #[(.int p1), (.int p2)] below meth c s₁ [] 0 0 := Stand.of_body Bd
  have e0 : s₁.heap = h0 := by rw [← hh, Bd.state]; rfl
  have d := bk0_0 (n0 := n0) Bd.exec hZ hw Bd.bytes hml0 hown hnm Bd.returns (BodyLoose.notSynchronized Bd) X0 (Fr.nil n0) e0 p1 p2 Z0
  rw [own_law p1 p2] at d
  have d2 : Done p e below s room_1 (Ql n0 (.int 1)) s₁ (entryFrame m #[(.int p1), (.int p2)] maxLocals) := by rw [ef_0]; exact d
  exact d2
set_option maxRecDepth 65536 in
set_option maxHeartbeats 40000000 in
theorem comes_1 {Post : Tables → Env → Array Value → State → Outcome → State → Prop} (hpost : ∀ tb e args s v u, (limb_1_1.after args s (.returned v) u = true ∧ limb_1_2.after args s (.returned v) u = true ∧ True) → FrameEnd s (.returned v) u (Jvm.fieldLocs frame_1_writes args s ++ Jvm.arrayLocs frame_1_arrays args s ++ Jvm.staticLocs frame_1_statics s) 16 192 → Post tb e args s (.returned v) u) :
    ArmFor flags0 classFile x code maxLocals ret World_1 tables_1 room_1 Calls_1 rest_1 Pre_1 Post := by
  intro l hfl _ _ p e ha hc hk s m args below hf hA hF happ hP
  obtain ⟨hcalls, hrest, hpre⟩ := hP
  obtain ⟨-, -, -, hnamed, -, -, -, hat⟩ := (Spec.applies_iff hf).mp happ
  obtain ⟨hg, hn⟩ := and_e (Cond.before_iff.mp (show (Jvm.Cond.and given_1 narrow_1).before args s = true from hpre))
  obtain ⟨g0, r0⟩ := and_e hg
  obtain ⟨v0, r1⟩ := and_e r0
  obtain ⟨w0, w1, rfl⟩ : ∃ w0 w1 : Value, args = #[w0, w1] := by
    have hs : args.size = 2 := by simpa [Cond.value, given_1] using g0
    obtain ⟨L⟩ := args
    match L, hs with
    | [w0, w1], _ => exact ⟨w0, w1, rfl⟩
  have hw := fun d (hd : d ∈ tables_1) => atoms_spec (ws := Jvm.Cond.code x code maxLocals ret :: tables_1) hat d (List.mem_cons_of_mem _ hd)
  obtain ⟨i0, ei0⟩ := is_v v0
  obtain rfl : w0 = (.int i0) := Option.some.inj ei0
  obtain ⟨i1, ei1⟩ := is_v r1
  obtain rfl : w1 = (.int i1) := Option.some.inj ei1
  obtain ⟨n, o, h1, h2, h3, _, L, rfl, ⟨rfl, N⟩, hq⟩ := rm0 l s _ hw tables_1 i0 i1 s.heap s.heap.size (Nat.le_refl _) p e ha hc hk s m _ below hf ((Spec.applies_iff_loose hf).mp happ).1 ⟨rfl, State.Warmed39.refl s, rfl⟩ trivial
  refine ⟨n, _, h1, h2, h3, hpost _ _ _ _ _ _ ⟨Cond.after_iff.mpr rfl, Cond.after_iff.mpr (eq_i res_at (Term.int_eval (1)) rfl), trivial⟩ ⟨hq.1, hq.2.1, (hq.2.2.sift fun y hy => Or.inr (N y hy)).mono (by decide) (by decide)⟩⟩
theorem main_1_1 : Claimed_1_1 := comes_1 fun _ _ _ _ _ _ h hF => ⟨h.1, hF⟩
theorem main_1_2 : Claimed_1_2 := comes_1 fun _ _ _ _ _ _ h hF => ⟨h.2.1, hF⟩
end Jvm.Pilot.@@N@@
namespace Jvm.Pilot.@@N@@
open Jvm Jvm.ClassFile Sem Op Lib Jvm.Free Jvm.Stand Jvm.Pilot.@@N@@.Jvm.D
/-! MADE BY PROGRAM (witnessworld.py) out of the Statement's table words and the real class files: 9 classes; the members and pool entries that the words name. The judged class is class 1, her method 2. -/
namespace start1
open Jvm.ClassFile
def u (s : String) : CpInfo := .utf8 (stringToUtf16 s)
/-- a pool by its gaps: so many unusable entries, then the entry; so many at the end -/
def gap : Nat → List CpInfo → List CpInfo
  | 0, r => r
  | n + 1, r => .unusable :: gap n r
def poolList (es : List (Nat × CpInfo)) (last : Nat) : List CpInfo := es.foldr (fun e r => gap e.1 (e.2 :: r)) (gap last [])
def pool (es : List (Nat × CpInfo)) (last : Nat) : Array CpInfo := ⟨poolList es last⟩
def fileOf (pool : Array CpInfo) (this : Nat) (attrs : Array Attribute := #[]) (ms : Array MethodInfo := #[]) (fl : Nat := 33) (sup : Nat := 0) (ifs : Array Nat := #[]) (fds : Array FieldInfo := #[]) : ClassFile where
  minorVersion := 0
  majorVersion := 65
  constantPool := pool
  accessFlags := fl
  thisClass := this
  superClass := sup
  interfaces := ifs
  fields := fds
  methods := ms
  attributes := attrs
def plain (name : String) (sup : Option ClassId) : Class where
  name := name
  kind := .ordinary
  loader := none
  accessFlags := 33
  super := sup
  interfaces := #[]
  cf := none
  fields := #[]
  methods := #[]
  instanceTypes := #[]
  staticTypes := #[]
  resolved := #[]
  callSites := []
  init := .initialized
  statics := none
  mirror := none

def pool0 : Array CpInfo := pool [(5, u "<init>"), (0, u "()V"), (1, .class_ 10), (1, u "java/lang/Object")] 113

def k0m0 : Method := { name := "<init>", desc := "()V", sig := { parameters := [], returnType := none }, accessFlags := 1, code := none }
/-- java/lang/Object -/
def k0 : Class := { plain "java/lang/Object" none with
  accessFlags := 33
  interfaces := #[]
  cf := some (fileOf pool0 8 #[] #[{ accessFlags := 1, nameIndex := 5, descriptorIndex := 6, attributes := #[] }] 33 0 #[] #[])
  fields := #[]
  methods := #[k0m0]
  instanceTypes := #[]
  staticTypes := #[]
  resolved := Array.replicate 124 none
  statics := none }

def pool1 : Array CpInfo := pool [(2, .class_ 4), (1, u "java/lang/Object"), (0, u "<init>"), (0, u "()V"), (0, .integer 983039), (0, .integer 55296), (0, .integer 63743), (0, .integer 64976), (0, .integer 65007), (0, .integer 65534), (0, .integer 65535), (0, .integer 55295), (0, .integer 63744), (0, .integer 64975), (0, .integer 65008), (0, .integer 65533), (0, .integer 65536), (2, .integer 2147483648), (0, .integer 2147483647), (0, .integer 268435455), (0, .methodref 26 27), (0, .class_ 28), (0, .nameAndType 29 30), (0, u "com/example/orbweave/orbweave/term/NameChars"), (0, u "isPnCharsU"), (0, u "(I)Z"), (0, .methodref 32 33), (0, .class_ 34), (0, .nameAndType 35 30), (0, u "com/example/orbweave/orbweave/term/NameCharsIsPnCharsUPinLaw"), (0, u "ref"), (3, u "law"), (0, u "(II)Z")] 4

def k1m0 : Method := { name := "<init>", desc := "()V", sig := { parameters := [], returnType := none }, accessFlags := 2, code := none }
def k1c1 : Code := { maxStack := 2, maxLocals := 2, code := method_2_code, exceptionTable := #[], attributes := #[] }
def k1m1 : Method := { name := "ref", desc := "(I)Z", sig := { parameters := [.int], returnType := some .boolean }, accessFlags := 10, code := some k1c1 }
def k1c2 : Code := { maxStack := 4, maxLocals := 7, code := code, exceptionTable := #[], attributes := #[] }
def k1m2 : Method := { name := "law", desc := "(II)Z", sig := { parameters := [.int, .int], returnType := some .boolean }, accessFlags := 9, code := some k1c2 }
/-- com/example/orbweave/orbweave/term/NameCharsIsPnCharsUPinLaw -/
def k1 : Class := { plain "com/example/orbweave/orbweave/term/NameCharsIsPnCharsUPinLaw" (some 0) with
  accessFlags := 49
  interfaces := #[]
  cf := some (fileOf pool1 32 #[] #[{ accessFlags := 2, nameIndex := 5, descriptorIndex := 6, attributes := #[] }, { accessFlags := 10, nameIndex := 35, descriptorIndex := 30, attributes := #[] }, { accessFlags := 9, nameIndex := 39, descriptorIndex := 40, attributes := #[] }] 49 2 #[] #[])
  fields := #[]
  methods := #[k1m0, k1m1, k1m2]
  instanceTypes := #[]
  staticTypes := #[]
  resolved := Array.replicate 45 none
  statics := none }

def pool2 : Array CpInfo := pool [(2, .class_ 4), (1, u "java/lang/Object"), (0, u "<init>"), (0, u "()V"), (0, .integer 55295), (0, .integer 63744), (0, .integer 64975), (0, .integer 65008), (0, .integer 65533), (0, .integer 65536), (0, .integer 983039), (0, .methodref 15 16), (0, .class_ 17), (0, .nameAndType 18 19), (0, u "com/example/orbweave/orbweave/term/NameChars"), (0, u "isPnCharsBase"), (0, u "(I)Z"), (2, u "isPnCharsU")] 6

def k2m0 : Method := { name := "<init>", desc := "()V", sig := { parameters := [], returnType := none }, accessFlags := 2, code := none }
def k2c1 : Code := { maxStack := 2, maxLocals := 1, code := prog_113_method_2_code, exceptionTable := #[], attributes := #[] }
def k2m1 : Method := { name := "isPnCharsBase", desc := "(I)Z", sig := { parameters := [.int], returnType := some .boolean }, accessFlags := 9, code := some k2c1 }
def k2c2 : Code := { maxStack := 2, maxLocals := 1, code := prog_113_method_3_code, exceptionTable := #[], attributes := #[] }
def k2m2 : Method := { name := "isPnCharsU", desc := "(I)Z", sig := { parameters := [.int], returnType := some .boolean }, accessFlags := 9, code := some k2c2 }
/-- com/example/orbweave/orbweave/term/NameChars -/
def k2 : Class := { plain "com/example/orbweave/orbweave/term/NameChars" (some 0) with
  accessFlags := 49
  interfaces := #[]
  cf := some (fileOf pool2 15 #[] #[{ accessFlags := 2, nameIndex := 5, descriptorIndex := 6, attributes := #[] }, { accessFlags := 9, nameIndex := 18, descriptorIndex := 19, attributes := #[] }, { accessFlags := 9, nameIndex := 22, descriptorIndex := 19, attributes := #[] }] 49 2 #[] #[])
  fields := #[]
  methods := #[k2m0, k2m1, k2m2]
  instanceTypes := #[]
  staticTypes := #[]
  resolved := Array.replicate 29 none
  statics := none }

def pool3 : Array CpInfo := pool [(1, u "java/lang/Cloneable"), (0, .class_ 1), (0, u "java/lang/Object"), (0, .class_ 3)] 3

/-- java/lang/Cloneable -/
def k3 : Class := { plain "java/lang/Cloneable" (some 0) with
  accessFlags := 1537
  interfaces := #[]
  cf := some (fileOf pool3 2 #[] #[] 1537 4 #[] #[])
  fields := #[]
  methods := #[]
  instanceTypes := #[]
  staticTypes := #[]
  resolved := Array.replicate 8 none
  statics := none }

def pool4 : Array CpInfo := pool [(1, u "java/io/Serializable"), (0, .class_ 1), (0, u "java/lang/Object"), (0, .class_ 3)] 3

/-- java/io/Serializable -/
def k4 : Class := { plain "java/io/Serializable" (some 0) with
  accessFlags := 1537
  interfaces := #[]
  cf := some (fileOf pool4 2 #[] #[] 1537 4 #[] #[])
  fields := #[]
  methods := #[]
  instanceTypes := #[]
  staticTypes := #[]
  resolved := Array.replicate 8 none
  statics := none }

/-- the primitive byte -/
def k5 : Class := { plain "byte" none with kind := .primitive 'B', accessFlags := 0x411 }
/-- [B -/
def k6 : Class := { plain "[B" (some 0) with kind := .array 5 .byte, interfaces := #[3, 4], accessFlags := 1041 }

/-- the primitive int -/
def k7 : Class := { plain "int" none with kind := .primitive 'I', accessFlags := 0x411 }
/-- [I -/
def k8 : Class := { plain "[I" (some 0) with kind := .array 7 .int, interfaces := #[3, 4], accessFlags := 1041 }

def heap : Heap := #[]
def classes : Array Class := #[k0, k1, k2, k3, k4, k5, k6, k7, k8]
def interned : List (Array UInt16 × Addr) := []
def slotsUsed : Nat := 0
def theMethod : MethodId := ⟨1, 2⟩
def args0 : Array Value := #[.int 5, .int 5]
def aboutOver (below : List Frame) : State where
  vm := { classes := classes, interned := interned.toArray }
  heap := heap
  slotsUsed := slotsUsed
  threads := #[{ frames := .invoking theMethod args0 :: below }]
def below0 : List Frame := [.native { method := ⟨0, 0⟩, args := #[] }]
def about1 : State := aboutOver below0
def p0 : Program := .bare "" "" ""
def e0 : Env := launch0.env 0 0 0
theorem w_frames : about1.frames = Frame.invoking theMethod args0 :: below0 := rfl
set_option maxRecDepth 65536 in
theorem w_args : argsFit about1.vm theMethod args0 = true := by decide +kernel
set_option maxRecDepth 65536 in
theorem w_heap : heapFits about1 = true := by decide +kernel
set_option maxRecDepth 65536 in
theorem w_runnable : about1.curStatus? = some .runnable := by decide +kernel
set_option maxRecDepth 65536 in
theorem w_alone : about1.alone = true := by decide +kernel
set_option maxRecDepth 65536 in
theorem w_named : about1.methodNamed? x = some theMethod := by decide +kernel
set_option maxRecDepth 65536 in
theorem w_hears : about1.hears theMethod below0 = true := by decide +kernel
set_option maxRecDepth 65536 in
theorem w_ripe : about1.ripe theMethod args0 below0 = true := by decide +kernel
theorem w_running : about1.status = .running := rfl
set_option maxRecDepth 65536 in
theorem w_room : about1.hasRoom e0.platform room_1 = true :=
  launch0.hasRoom_least _ room_1 (by decide +kernel) (by decide +kernel) (by decide +kernel) (by decide +kernel) (by decide +kernel) (by decide +kernel)
theorem allAtoms_all (ts : List Jvm.Cond) (a : Array Jvm.Value) (st : Jvm.State) : (allAtoms ts).before a st = ts.all (fun c => c.before a st) := by
  induction ts with
  | nil => rfl
  | cons c t ih =>
    show (Jvm.Cond.and c (allAtoms t)).before a st = _
    rw [Jvm.Cond.before_and, ih, List.all_cons]
def words1 : List Jvm.Cond := Jvm.Cond.code x code maxLocals ret :: tables_1
/-- a 'code' word, met by the world's own term for the bytes: nothing is compared byte by byte -/
theorem code_word {y : MethodName} {bytes : ByteArray} {mx : Nat} {rt : Option FieldType} {a : Array Value} {s : State} {m : MethodId} {meth : Method} {c : Code} (h1 : s.methodNamed? y = some m) (h2 : s.vm.method? m = some meth) (h3 : meth.code = some c) (h4 : c.code = bytes)
    (h5 : (c.maxLocals == mx && c.exceptionTable.isEmpty && decide (c.maxStack ≤ mostOperands) && decide (meth.sig.returnType = rt) && !meth.locks && decide (parseMethodDescriptor y.desc = some meth.sig)) = true) : (Jvm.Cond.code y bytes mx rt).before a s = true := by
  simp only [Bool.and_eq_true, beq_iff_eq, Bool.not_eq_true', decide_eq_true_eq] at h5
  obtain ⟨⟨⟨⟨⟨g1, g2⟩, g3⟩, g4⟩, g5⟩, g6⟩ := h5
  simp [Cond.before, Cond.holds, Cond.value, h1, h2, h3, h4, g1, g2, g3, g4, g5, g6]
def isCode : Jvm.Cond → Bool
  | .code _ _ _ _ => true
  | _ => false
theorem all_split {L : List Jvm.Cond} {P : Jvm.Cond → Bool} (h1 : L.all (fun c => isCode c || P c) = true) (h2 : ∀ c ∈ L.filter isCode, P c = true) : L.all P = true := by
  refine List.all_eq_true.mpr fun c hc => ?_
  have h := List.all_eq_true.mp h1 c hc
  rcases Bool.eq_false_or_eq_true (isCode c) with hi | hi
  · exact h2 c (List.mem_filter.mpr ⟨hc, hi⟩)
  · simpa [hi] using h
set_option maxRecDepth 65536 in
theorem w_c0 : (Jvm.Cond.code x code maxLocals ret).before args0 about1 = true := code_word (m := ⟨1, 2⟩) (meth := k1m2) (c := k1c2) (by decide +kernel) rfl rfl rfl (by decide +kernel)
set_option maxRecDepth 65536 in
theorem w_c1 : (Jvm.Cond.code ({ cls := "com/example/orbweave/orbweave/term/NameChars", name := "isPnCharsU", desc := "(I)Z" } : Jvm.MethodName) prog_113_method_3_code (1 : Nat) (Option.some Jvm.ClassFile.FieldType.boolean)).before args0 about1 = true := code_word (m := ⟨2, 2⟩) (meth := k2m2) (c := k2c2) (by decide +kernel) rfl rfl rfl (by decide +kernel)
set_option maxRecDepth 65536 in
theorem w_c2 : (Jvm.Cond.code ({ cls := "com/example/orbweave/orbweave/term/NameChars", name := "isPnCharsBase", desc := "(I)Z" } : Jvm.MethodName) prog_113_method_2_code (1 : Nat) (Option.some Jvm.ClassFile.FieldType.boolean)).before args0 about1 = true := code_word (m := ⟨2, 1⟩) (meth := k2m1) (c := k2c1) (by decide +kernel) rfl rfl rfl (by decide +kernel)
set_option maxRecDepth 65536 in
theorem w_c3 : (Jvm.Cond.code ({ cls := "com/example/orbweave/orbweave/term/NameCharsIsPnCharsUPinLaw", name := "ref", desc := "(I)Z" } : Jvm.MethodName) method_2_code (2 : Nat) (Option.some Jvm.ClassFile.FieldType.boolean)).before args0 about1 = true := code_word (m := ⟨1, 1⟩) (meth := k1m1) (c := k1c1) (by decide +kernel) rfl rfl rfl (by decide +kernel)
def codes1 : List Jvm.Cond := [Jvm.Cond.code x code maxLocals ret, Jvm.Cond.code ({ cls := "com/example/orbweave/orbweave/term/NameChars", name := "isPnCharsU", desc := "(I)Z" } : Jvm.MethodName) prog_113_method_3_code (1 : Nat) (Option.some Jvm.ClassFile.FieldType.boolean), Jvm.Cond.code ({ cls := "com/example/orbweave/orbweave/term/NameChars", name := "isPnCharsBase", desc := "(I)Z" } : Jvm.MethodName) prog_113_method_2_code (1 : Nat) (Option.some Jvm.ClassFile.FieldType.boolean), Jvm.Cond.code ({ cls := "com/example/orbweave/orbweave/term/NameCharsIsPnCharsUPinLaw", name := "ref", desc := "(I)Z" } : Jvm.MethodName) method_2_code (2 : Nat) (Option.some Jvm.ClassFile.FieldType.boolean)]
set_option maxRecDepth 65536 in
theorem codes_eq : words1.filter isCode = codes1 := rfl
theorem w_codes : ∀ c ∈ words1.filter isCode, c.before args0 about1 = true := by
  rw [codes_eq]
  intro c hc
  simp only [codes1, List.mem_cons, List.not_mem_nil, or_false] at hc
  rcases hc with rfl | rfl | rfl | rfl
  · exact w_c0
  · exact w_c1
  · exact w_c2
  · exact w_c3
set_option maxRecDepth 65536 in
theorem w_t1 : (words1.take 24).all (fun c => isCode c || c.before args0 about1) = true := by decide +kernel
set_option maxRecDepth 65536 in
theorem w_t2 : (words1.drop 24).all (fun c => isCode c || c.before args0 about1) = true := by decide +kernel
theorem w_tables : (allAtoms (Jvm.Cond.code x code maxLocals ret :: tables_1)).before args0 about1 = true := by
  rw [allAtoms_all]
  show words1.all (fun c => c.before args0 about1) = true
  refine all_split ?_ w_codes
  rw [← List.take_append_drop 24 words1, List.all_append, w_t1, w_t2]
  rfl
set_option maxRecDepth 65536 in
theorem w_case : (Jvm.Cond.and given_1 narrow_1).before args0 about1 = true := by decide +kernel
theorem w_applies : (headSpec (Jvm.Cond.code x code maxLocals ret :: tables_1) room_1).applies x e0.platform about1 = true :=
  (Spec.applies_iff w_frames).mpr ⟨w_running, w_runnable, w_alone, w_named, w_hears, w_ripe, w_room, w_tables⟩
theorem atStart : AtStart classFile x code maxLocals ret World_1 tables_1 room_1 Calls_1 rest_1 Pre_1 launch0 p0 e0 about1 theMethod args0 below0 :=
  ⟨lists_1, trivial, launch0.admits_env _ _ _, launch0.least_env, fairChoices_fair.cas, fairChoices_fair.clock, w_frames, w_args, w_heap, w_applies, trivial, trivial, w_case⟩
end start1
theorem witness_1 : WitnessClaimed_1 := ⟨start1.p0, start1.e0, start1.about1, start1.theMethod, start1.args0, start1.below0, start1.atStart⟩
end Jvm.Pilot.@@N@@
