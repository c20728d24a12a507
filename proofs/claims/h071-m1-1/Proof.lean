import JvmDerived
import JvmDerived.Pilot.@@N@@Statement
import JvmDerived.Pilot.@@N@@Code
set_option linter.unusedVariables false
set_option linter.unusedSimpArgs false
namespace Jvm.RoadKit
open Sem ClassFile Op Lib Jvm.Stand Jvm.Free Jvm.LawKit
section New
variable {p : Program} {l : Launch} {e : Env} {R : Room} {s : State} {m : MethodId} {args : Array Value} {below : List Frame} {meth : Method} {c : Code} {T : State} {locs : List Loc} {cells slots : Nat}
theorem retI (X : Stand p l e R s m args below meth c T locs cells slots) (hx : p.tables.exec = Jvm.exec) {pc : Nat} {Ls : Array Slot} {z : Int32} {rest : List Value} (hret : meth.sig.returnType = some .int) (hd : decode c.code pc = .ok (.ireturn, 1)) {fs : List Frame}
    (hl : ∀ (f : JFrame) (acts : List Action), f.method = m → f.locked = none → f.entered = [] → (doReturn e (T.setTop f) acts (some (.int z))).1 = T.setFrames fs) : Steps p.tables e below (T.setTop (mkF m pc Ls (.int z :: rest))) (T.setFrames fs) := by
  have hm' : T.vm.method? m = some meth := X.method'
  have hn : narrow .int (.int z) = .int z := rfl
  show Steps p.tables e below (T.setTop { method := m, pc := pc, locals := Ls, stack := _ :: rest, locked := none }) _
  jvm_step X.here [X.here.top, hx, hd, hm', hret, hn]
  first | (intro acts; rw [hl _ acts rfl rfl rfl]) | rw [hl _ _ rfl rfl rfl]
  exact Steps.refl _
theorem retA (X : Stand p l e R s m args below meth c T locs cells slots) (hx : p.tables.exec = Jvm.exec) {pc : Nat} {Ls : Array Slot} {z : Addr} {rest : List Value} {t : FieldType} (hret : meth.sig.returnType = some t) (ht : t.isReference = true) (hd : decode c.code pc = .ok (.areturn, 1)) {fs : List Frame}
    (hl : ∀ (f : JFrame) (acts : List Action), f.method = m → f.locked = none → f.entered = [] → (doReturn e (T.setTop f) acts (some (.ref z))).1 = T.setFrames fs) : Steps p.tables e below (T.setTop (mkF m pc Ls (.ref z :: rest))) (T.setFrames fs) := by
  have hm' : T.vm.method? m = some meth := X.method'
  show Steps p.tables e below (T.setTop { method := m, pc := pc, locals := Ls, stack := _ :: rest, locked := none }) _
  jvm_step X.here [X.here.top, hx, hd, hm', hret, ht, Value.isRef]
  first | (intro acts; rw [hl _ acts rfl rfl rfl]) | rw [hl _ _ rfl rfl rfl]
  exact Steps.refl _
theorem retJ (X : Stand p l e R s m args below meth c T locs cells slots) (hx : p.tables.exec = Jvm.exec) {pc : Nat} {Ls : Array Slot} {z : Int64} {rest : List Value} (hret : meth.sig.returnType = some .long) (hd : decode c.code pc = .ok (.lreturn, 1)) {fs : List Frame}
    (hl : ∀ (f : JFrame) (acts : List Action), f.method = m → f.locked = none → f.entered = [] → (doReturn e (T.setTop f) acts (some (.long z))).1 = T.setFrames fs) : Steps p.tables e below (T.setTop (mkF m pc Ls (.long z :: rest))) (T.setFrames fs) := by
  have hm' : T.vm.method? m = some meth := X.method'
  show Steps p.tables e below (T.setTop { method := m, pc := pc, locals := Ls, stack := _ :: rest, locked := none }) _
  jvm_step X.here [X.here.top, hx, hd, hm', hret]
  first | (intro acts; rw [hl _ acts rfl rfl rfl]) | rw [hl _ _ rfl rfl rfl]
  exact Steps.refl _
end New
end Jvm.RoadKit
namespace Jvm.Pilot.@@N@@
open Jvm Jvm.ClassFile Sem Op Lib Jvm.Free Jvm.Stand Jvm.LawKit Jvm.RoadKit Bundle Jvm.Pilot.@@N@@.Jvm.D
/-! My own frame of a walk: 'Done' says: from this frame the run ends, and Q holds of what came back, of the heap, and of the places written. -/
def Done (p : Program) (e : Env) (below : List Frame) (s : State) (R : Room) (Q : Option Value → Heap → List Loc → Prop) (T : State) (g : JFrame) : Prop :=
  ∃ s₂ o, Steps p.tables e below (T.setTop g) s₂ ∧ s₂.status = .running ∧ Ended s₂ below o ∧ ∃ v L, o = .returned v ∧ Q v s₂.heap L ∧ FrameEnd s o s₂ L R.cells R.slots
def Qp (h0 : Heap) (n0 : Nat) (z : Value) (v : Option Value) (h : Heap) (L : List Loc) : Prop := v = some z ∧ Fr n0 L ∧ h = h0
def Qv (h0 : Heap) (n0 : Nat) (v : Option Value) (h : Heap) (L : List Loc) : Prop := v = none ∧ Fr n0 L ∧ h = h0
def Ql (n0 : Nat) (z : Value) (v : Option Value) (h : Heap) (L : List Loc) : Prop := v = some z ∧ Fr n0 L
theorem Done.of {p : Program} {e : Env} {below : List Frame} {s : State} {R : Room} {Q : Option Value → Heap → List Loc → Prop} {T T' : State} {g g' : JFrame}
    (st : ∀ t, Steps p.tables e below (T'.setTop g') t → Steps p.tables e below (T.setTop g) t) (d : Done p e below s R Q T' g') : Done p e below s R Q T g := by
  obtain ⟨s₂, o, h1, h2⟩ := d
  exact ⟨s₂, o, st _ h1, h2⟩
section Ends
variable {p : Program} {l : Launch} {e : Env} {R : Room} {s : State} {m : MethodId} {args : Array Value} {below : List Frame} {meth : Method} {c : Code} {T : State} {locs : List Loc} {cells slots : Nat} {Q : Option Value → Heap → List Loc → Prop}
theorem doneI (X : Stand p l e R s m args below meth c T locs cells slots) (hx : p.tables.exec = Jvm.exec) {pc : Nat} {Ls : Array Slot} {z : Int32} {rest : List Value} (hret : meth.sig.returnType = some .int) (hlk : meth.locks = false) (hd : decode c.code pc = .ok (.ireturn, 1))
    (hQ : Q (some (.int z)) T.heap locs) (hc : cells ≤ R.cells) (hs : slots ≤ R.slots) : Done p e below s R Q T (mkF m pc Ls (.int z :: rest)) := by
  obtain ⟨fs, hr, hrun, hended, hW, hsame⟩ := X.leave (v := some (.int z)) (fun h => by rw [hret] at h; cases h) hlk
  exact ⟨_, _, retI X hx hret hd hr, hrun, hended, _, _, rfl, hQ, ⟨_, rfl⟩, hW, hsame.mono hc hs⟩
theorem doneN (t : FieldType) (X : Stand p l e R s m args below meth c T locs cells slots) (ht : t = .boolean ∨ t = .byte ∨ t = .char ∨ t = .short) (hx : p.tables.exec = Jvm.exec) {pc : Nat} {Ls : Array Slot} {z : Int32} {rest : List Value} (hret : meth.sig.returnType = some t) (hlk : meth.locks = false) (hd : decode c.code pc = .ok (.ireturn, 1))
    (hQ : Q (some (.int (nar t z))) T.heap locs) (hc : cells ≤ R.cells) (hs : slots ≤ R.slots) : Done p e below s R Q T (mkF m pc Ls (.int z :: rest)) := by
  obtain ⟨fs, hr, hrun, hended, hW, hsame⟩ := X.leave (v := some (.int (nar t z))) (fun h => by rw [hret] at h; cases h) hlk
  exact ⟨_, _, retN X hx hret ht hd hr, hrun, hended, _, _, rfl, hQ, ⟨_, rfl⟩, hW, hsame.mono hc hs⟩
theorem doneJ (X : Stand p l e R s m args below meth c T locs cells slots) (hx : p.tables.exec = Jvm.exec) {pc : Nat} {Ls : Array Slot} {z : Int64} {rest : List Value} (hret : meth.sig.returnType = some .long) (hlk : meth.locks = false) (hd : decode c.code pc = .ok (.lreturn, 1))
    (hQ : Q (some (.long z)) T.heap locs) (hc : cells ≤ R.cells) (hs : slots ≤ R.slots) : Done p e below s R Q T (mkF m pc Ls (.long z :: rest)) := by
  obtain ⟨fs, hr, hrun, hended, hW, hsame⟩ := X.leave (v := some (.long z)) (fun h => by rw [hret] at h; cases h) hlk
  exact ⟨_, _, retJ X hx hret hd hr, hrun, hended, _, _, rfl, hQ, ⟨_, rfl⟩, hW, hsame.mono hc hs⟩
theorem doneA (X : Stand p l e R s m args below meth c T locs cells slots) (hx : p.tables.exec = Jvm.exec) {pc : Nat} {Ls : Array Slot} {z : Addr} {rest : List Value} {t : FieldType} (hret : meth.sig.returnType = some t) (ht : t.isReference = true) (hlk : meth.locks = false) (hd : decode c.code pc = .ok (.areturn, 1))
    (hQ : Q (some (.ref z)) T.heap locs) (hc : cells ≤ R.cells) (hs : slots ≤ R.slots) : Done p e below s R Q T (mkF m pc Ls (.ref z :: rest)) := by
  obtain ⟨fs, hr, hrun, hended, hW, hsame⟩ := X.leave (v := some (.ref z)) (fun h => by rw [hret] at h; cases h) hlk
  exact ⟨_, _, retA X hx hret ht hd hr, hrun, hended, _, _, rfl, hQ, ⟨_, rfl⟩, hW, hsame.mono hc hs⟩
theorem doneV (X : Stand p l e R s m args below meth c T locs cells slots) (hx : p.tables.exec = Jvm.exec) {pc : Nat} {Ls : Array Slot} (hret : meth.sig.returnType = none) (hlk : meth.locks = false) (hd : decode c.code pc = .ok (.return_, 1))
    (hQ : Q none T.heap locs) (hc : cells ≤ R.cells) (hs : slots ≤ R.slots) : Done p e below s R Q T (mkF m pc Ls []) := by
  obtain ⟨fs, hr, hrun, hended, hW, hsame⟩ := X.leave (v := none) (fun _ => rfl) hlk
  exact ⟨_, _, X.returnOut hx hret hd hr, hrun, hended, _, _, rfl, hQ, ⟨_, rfl⟩, hW, hsame.mono hc hs⟩
end Ends
theorem lcLt_t {x y : Int64} (h : x < y) : ifCond.holds .lt (lcmpW x y) = true ∧ ifCond.holds .ge (lcmpW x y) = false := ⟨(if0 _ _).trans (tlt ((lw_lt x y).mpr h)).1, (if0 _ _).trans (tlt ((lw_lt x y).mpr h)).2.1⟩
theorem lcLt_f {x y : Int64} (h : ¬ x < y) : ifCond.holds .lt (lcmpW x y) = false ∧ ifCond.holds .ge (lcmpW x y) = true := ⟨(if0 _ _).trans (flt (fun q => h ((lw_lt x y).mp q))).1, (if0 _ _).trans (flt (fun q => h ((lw_lt x y).mp q))).2.1⟩
theorem lcGt_t {x y : Int64} (h : y < x) : ifCond.holds .gt (lcmpW x y) = true ∧ ifCond.holds .le (lcmpW x y) = false := ⟨(if0 _ _).trans (tlt ((lw_gt x y).mpr h)).2.2.1, (if0 _ _).trans (tlt ((lw_gt x y).mpr h)).2.2.2⟩
theorem lcGt_f {x y : Int64} (h : ¬ y < x) : ifCond.holds .gt (lcmpW x y) = false ∧ ifCond.holds .le (lcmpW x y) = true := ⟨(if0 _ _).trans (flt (fun q => h ((lw_gt x y).mp q))).2.2.1, (if0 _ _).trans (flt (fun q => h ((lw_gt x y).mp q))).2.2.2⟩
theorem lcEq_t {x y : Int64} (h : x = y) : ifCond.holds .eq (lcmpW x y) = true ∧ ifCond.holds .ne (lcmpW x y) = false := ⟨(if0 _ _).trans (teq ((lw_eq x y).mpr h)).1, (if0 _ _).trans (teq ((lw_eq x y).mpr h)).2⟩
theorem lcEq_f {x y : Int64} (h : ¬ x = y) : ifCond.holds .eq (lcmpW x y) = false ∧ ifCond.holds .ne (lcmpW x y) = true := ⟨(if0 _ _).trans (feq (fun q => h ((lw_eq x y).mp q))).1, (if0 _ _).trans (feq (fun q => h ((lw_eq x y).mp q))).2⟩
theorem own_selP {s : State} {args : Array Value} {y : MethodName} {n : Nat} (hins : (Cond.instantiable y.cls n).before args s = true) (hpriv : (Cond.privateMethod y).before args s = true) (hinst : (Cond.instanceMethod y).before args s = true) (hy : y.cls ≠ "java/lang/invoke/MethodHandle" ∧ y.cls ≠ "java/lang/invoke/VarHandle") :
    (Cond.selects y.cls y y).before args s = true := by
  obtain ⟨c, k, hc, hk, -, hniab, -, -⟩ := Cond.instantiable_spec hins
  exact selects_self_of_private hc hk (Bool.or_eq_false_iff.mp hniab).1 (Cond.privateMethod_at hpriv) hinst hy
theorem own_hat {c : Cell} {vs : List Int32} {j : Int32} (H : Has c (vs.map Value.int) (.int (0 : Int32))) (hin : ¬ (j < 0 ∨ c.slots.size ≤ j.toNatClampNeg)) : c.slots[j.toNatClampNeg]? = some (.int (vs.getD j.toNatClampNeg 0)) := by
  rw [H j.toNatClampNeg (Nat.lt_of_not_le fun q => hin (Or.inr q))]
  simp only [List.getD_eq_getElem?_getD, List.getElem?_map]
  cases vs[j.toNatClampNeg]? <;> rfl
theorem own_fin {n : Nat} (c : Int32) (h0 : 0 ≤ c.toInt) (h1 : c.toInt < n) : ∃ i : Fin n, c = Int32.ofInt (i.1 : Int) :=
  ⟨⟨c.toInt.toNat, by omega⟩, by show c = Int32.ofInt ((c.toInt.toNat : Nat) : Int); rw [Int.toNat_of_nonneg h0]; exact (Int32.ofInt_toInt c).symm⟩
theorem own_set (N i : Nat) (f : Nat → Int32) (v : Int32) : ((List.range N).map fun j => Value.int (f j)).set i (.int v) = (List.range N).map fun j => Value.int (if j = i then v else f j) := by
  apply List.ext_getElem
  · simp
  · intro k h1 h2
    rw [List.getElem_set]
    simp only [List.getElem_map, List.getElem_range]
    by_cases q : i = k
    · rw [if_pos q, if_pos q.symm]
    · rw [if_neg q, if_neg (Ne.symm q)]
theorem own_setA {Z : State} {h : Heap} {a : Addr} {k : ClassId} {ty : FieldType} {z : Int32} {N i : Nat} {f : Nat → Int32} {v : Int32} {dv : Value} (A : Arv Z h a k ty z (((List.range N).map fun j => Value.int (f j)).set i (.int v)) dv) :
    Arv Z h a k ty z ((List.range N).map fun j => Value.int (if j = i then v else f j)) dv := by rw [← own_set]; exact A
theorem own_hatF {c : Cell} {N : Nat} {f : Nat → Int32} {j : Int32} {d : Value} (H : Has c ((List.range N).map fun j => Value.int (f j)) d) (hN : c.slots.size = N) (hin : ¬ (j < 0 ∨ c.slots.size ≤ j.toNatClampNeg)) : c.slots[j.toNatClampNeg]? = some (.int (f j.toNatClampNeg)) := by
  have hl : j.toNatClampNeg < c.slots.size := Nat.lt_of_not_le fun q => hin (Or.inr q)
  rw [H j.toNatClampNeg hl, List.getD_eq_getElem?_getD, List.getElem?_map, List.getElem?_range (by omega)]
  rfl
theorem own_sz {c : Cell} {z : Int32} {N : Nat} (S : c.slots.size = z.toNatClampNeg) (h : z.toNatClampNeg = N := by decide) : c.slots.size = N := S.trans h
theorem own_len {c : Cell} {z j : Int32} {N : Nat} {f : Nat → Int32} (S : c.slots.size = z.toNatClampNeg) (hin : ¬ (j < 0 ∨ c.slots.size ≤ j.toNatClampNeg)) (h : z.toNatClampNeg = N := by decide) : j.toNatClampNeg < ((List.range N).map fun j => Value.int (f j)).length := by
  have : j.toNatClampNeg < c.slots.size := Nat.lt_of_not_le fun q => hin (Or.inr q)
  rw [List.length_map, List.length_range]; omega
theorem d1_0 : decode prog_20_method_6_code 0 = .ok (.iload_n 0, 1) := by decide +kernel
theorem d1_1 : decode prog_20_method_6_code 1 = .ok (.ldc 16, 2) := by decide +kernel
theorem d1_3 : decode prog_20_method_6_code 3 = .ok (.if_icmp .ge 49, 3) := by decide +kernel
theorem d1_6 : decode prog_20_method_6_code 6 = .ok (.iload_n 0, 1) := by decide +kernel
theorem d1_7 : decode prog_20_method_6_code 7 = .ok (.sipush 160, 3) := by decide +kernel
theorem d1_10 : decode prog_20_method_6_code 10 = .ok (.if_icmp .lt 9, 3) := by decide +kernel
theorem d1_13 : decode prog_20_method_6_code 13 = .ok (.iload_n 0, 1) := by decide +kernel
theorem d1_14 : decode prog_20_method_6_code 14 = .ok (.ldc 17, 2) := by decide +kernel
theorem d1_16 : decode prog_20_method_6_code 16 = .ok (.if_icmp .le 27, 3) := by decide +kernel
theorem d1_19 : decode prog_20_method_6_code 19 = .ok (.iload_n 0, 1) := by decide +kernel
theorem d1_20 : decode prog_20_method_6_code 20 = .ok (.ldc 18, 2) := by decide +kernel
theorem d1_22 : decode prog_20_method_6_code 22 = .ok (.if_icmp .lt 9, 3) := by decide +kernel
theorem d1_25 : decode prog_20_method_6_code 25 = .ok (.iload_n 0, 1) := by decide +kernel
theorem d1_26 : decode prog_20_method_6_code 26 = .ok (.ldc 19, 2) := by decide +kernel
theorem d1_28 : decode prog_20_method_6_code 28 = .ok (.if_icmp .le 15, 3) := by decide +kernel
theorem d1_31 : decode prog_20_method_6_code 31 = .ok (.iload_n 0, 1) := by decide +kernel
theorem d1_32 : decode prog_20_method_6_code 32 = .ok (.ldc 20, 2) := by decide +kernel
theorem d1_34 : decode prog_20_method_6_code 34 = .ok (.if_icmp .lt 13, 3) := by decide +kernel
theorem d1_37 : decode prog_20_method_6_code 37 = .ok (.iload_n 0, 1) := by decide +kernel
theorem d1_38 : decode prog_20_method_6_code 38 = .ok (.ldc 21, 2) := by decide +kernel
theorem d1_40 : decode prog_20_method_6_code 40 = .ok (.if_icmp .gt 7, 3) := by decide +kernel
theorem d1_43 : decode prog_20_method_6_code 43 = .ok (.iconst 1, 1) := by decide +kernel
theorem d1_44 : decode prog_20_method_6_code 44 = .ok (.goto 4, 3) := by decide +kernel
theorem d1_47 : decode prog_20_method_6_code 47 = .ok (.iconst 0, 1) := by decide +kernel
theorem d1_48 : decode prog_20_method_6_code 48 = .ok (.istore_n 1, 1) := by decide +kernel
theorem d1_49 : decode prog_20_method_6_code 49 = .ok (.goto 36, 3) := by decide +kernel
theorem d1_52 : decode prog_20_method_6_code 52 = .ok (.iload_n 0, 1) := by decide +kernel
theorem d1_53 : decode prog_20_method_6_code 53 = .ok (.ldc 22, 2) := by decide +kernel
theorem d1_55 : decode prog_20_method_6_code 55 = .ok (.if_icmp .ge 28, 3) := by decide +kernel
theorem d1_58 : decode prog_20_method_6_code 58 = .ok (.iload_n 0, 1) := by decide +kernel
theorem d1_59 : decode prog_20_method_6_code 59 = .ok (.ldc 23, 2) := by decide +kernel
theorem d1_61 : decode prog_20_method_6_code 61 = .ok (.iand, 1) := by decide +kernel
theorem d1_62 : decode prog_20_method_6_code 62 = .ok (.ldc 24, 2) := by decide +kernel
theorem d1_64 : decode prog_20_method_6_code 64 = .ok (.if_icmp .gt 19, 3) := by decide +kernel
theorem d1_67 : decode prog_20_method_6_code 67 = .ok (.iload_n 0, 1) := by decide +kernel
theorem d1_68 : decode prog_20_method_6_code 68 = .ok (.ldc 25, 2) := by decide +kernel
theorem d1_70 : decode prog_20_method_6_code 70 = .ok (.if_icmp .lt 9, 3) := by decide +kernel
theorem d1_73 : decode prog_20_method_6_code 73 = .ok (.iload_n 0, 1) := by decide +kernel
theorem d1_74 : decode prog_20_method_6_code 74 = .ok (.ldc 26, 2) := by decide +kernel
theorem d1_76 : decode prog_20_method_6_code 76 = .ok (.if_icmp .lt 7, 3) := by decide +kernel
theorem d1_79 : decode prog_20_method_6_code 79 = .ok (.iconst 1, 1) := by decide +kernel
theorem d1_80 : decode prog_20_method_6_code 80 = .ok (.goto 4, 3) := by decide +kernel
theorem d1_83 : decode prog_20_method_6_code 83 = .ok (.iconst 0, 1) := by decide +kernel
theorem d1_84 : decode prog_20_method_6_code 84 = .ok (.istore_n 1, 1) := by decide +kernel
theorem d1_85 : decode prog_20_method_6_code 85 = .ok (.iload_n 1, 1) := by decide +kernel
theorem d1_86 : decode prog_20_method_6_code 86 = .ok (.ireturn, 1) := by decide +kernel
def F1_43 (i0 : Int32) : Int32 := (1 : Int32)
set_option maxRecDepth 65536 in
set_option maxHeartbeats 40000000 in
theorem bk1_43 {p : Program} {l : Launch} {e : Env} {s : State} {m : MethodId} {args : Array Value} {below : List Frame} {meth : Method} {c : Code} {T0 : State} {locs : List Loc} {Z : State} {a0 : Array Value} {h0 : Heap} {n0 : Nat}
    (hx : p.tables.exec = Jvm.exec) (hZ : Z.Warmed39 s.vm) (hw : ∀ d ∈ tables_1, d.before a0 Z = true) (hby : c.code = prog_20_method_6_code) (hml : c.maxLocals = 2) (hown : s.vm.findClass "com/example/pilotfish/pilotfish/formats/UriReferences" = some m.cls) (hnm : meth.name = "isUcschar") (hret : meth.sig.returnType = some .boolean) (hlk : meth.locks = false)
    (X0 : Stand p l e ({ frames := 0, cells := 0, slots := 0, locals := 0 } : Room) s m args below meth c T0 locs 0 0) (N0 : Fr n0 locs) (e0 : T0.heap = h0) (i0 : Int32) :
    Done p e below s ({ frames := 0, cells := 0, slots := 0, locals := 0 } : Room) (Qp h0 n0 (.int (F1_43 i0))) T0 (mkF m 43 #[.val (.int i0), .unset] []) := by
  unfold F1_43
  refine Done.of (T' := T0) (g' := (mkF m 86 #[.val (.int i0), .val (.int (1 : Int32))] [(.int (1 : Int32))])) (fun t k => ?_) ?_
  · show Steps p.tables e below (T0.setTop (mkF m 43 #[.val (.int i0), .unset] [])) t
    refine XS.iconst X0.here hx rfl (hb hby d1_43) ?_
    show Steps p.tables e below (T0.setTop (mkF m 44 #[.val (.int i0), .unset] [(.int (1 : Int32))])) t
    refine XS.goto X0.here hx rfl (pc0 := 44) (pc' := 48) rfl (hb hby d1_44) (by decide) (by decide) ?_
    show Steps p.tables e below (T0.setTop (mkF m 48 #[.val (.int i0), .unset] [(.int (1 : Int32))])) t
    refine XS.istoreN X0.here hx rfl (hb hby d1_48) rfl (l' := #[.val (.int i0), .val (.int (1 : Int32))]) rfl ?_
    show Steps p.tables e below (T0.setTop (mkF m 49 #[.val (.int i0), .val (.int (1 : Int32))] [])) t
    refine XS.goto X0.here hx rfl (pc0 := 49) (pc' := 85) rfl (hb hby d1_49) (by decide) (by decide) ?_
    show Steps p.tables e below (T0.setTop (mkF m 85 #[.val (.int i0), .val (.int (1 : Int32))] [])) t
    refine XS.iloadN X0.here hx rfl (hb hby d1_85) rfl ?_
    exact k
  exact doneN (t := .boolean) X0 (by simp) hx hret hlk (hb hby d1_86) ⟨rfl, N0, e0⟩ (by decide) (by decide)
def F1_31 (i0 : Int32) : Int32 := (if i0 < (65008 : Int32) then (0 : Int32) else (if (65519 : Int32) < i0 then (0 : Int32) else (F1_43 i0)))
set_option maxRecDepth 65536 in
set_option maxHeartbeats 40000000 in
theorem bk1_31 {p : Program} {l : Launch} {e : Env} {s : State} {m : MethodId} {args : Array Value} {below : List Frame} {meth : Method} {c : Code} {T0 : State} {locs : List Loc} {Z : State} {a0 : Array Value} {h0 : Heap} {n0 : Nat}
    (hx : p.tables.exec = Jvm.exec) (hZ : Z.Warmed39 s.vm) (hw : ∀ d ∈ tables_1, d.before a0 Z = true) (hby : c.code = prog_20_method_6_code) (hml : c.maxLocals = 2) (hown : s.vm.findClass "com/example/pilotfish/pilotfish/formats/UriReferences" = some m.cls) (hnm : meth.name = "isUcschar") (hret : meth.sig.returnType = some .boolean) (hlk : meth.locks = false)
    (X0 : Stand p l e ({ frames := 0, cells := 0, slots := 0, locals := 0 } : Room) s m args below meth c T0 locs 0 0) (N0 : Fr n0 locs) (e0 : T0.heap = h0) (i0 : Int32) :
    Done p e below s ({ frames := 0, cells := 0, slots := 0, locals := 0 } : Room) (Qp h0 n0 (.int (F1_31 i0))) T0 (mkF m 31 #[.val (.int i0), .unset] []) := by
  unfold F1_31
  refine Done.of (T' := T0) (g' := (mkF m 34 #[.val (.int i0), .unset] [(.int (65008 : Int32)), (.int i0)])) (fun t k => ?_) ?_
  · show Steps p.tables e below (T0.setTop (mkF m 31 #[.val (.int i0), .unset] [])) t
    refine XS.iloadN X0.here hx rfl (hb hby d1_31) rfl ?_
    show Steps p.tables e below (T0.setTop (mkF m 32 #[.val (.int i0), .unset] [(.int i0)])) t
    refine X0.ldcInt hx hown (mvT hZ (hw _ (List.mem_of_getElem? (i := 33) rfl))) (g := (mkF m 32 #[.val (.int i0), .unset] [(.int i0)])) rfl (hb hby d1_32) _ ?_
    exact k
  by_cases hc34_0 : i0 < (65008 : Int32)
  · rw [if_pos hc34_0]
    refine Done.of (T' := T0) (g' := (mkF m 86 #[.val (.int i0), .val (.int (0 : Int32))] [(.int (0 : Int32))])) (fun t k => ?_) ?_
    · show Steps p.tables e below (T0.setTop (mkF m 34 #[.val (.int i0), .unset] [(.int (65008 : Int32)), (.int i0)])) t
      refine XS.icmpYes X0.here hx rfl (pc0 := 34) (pc' := 47) rfl (hb hby d1_34) rfl (tlt hc34_0).1 (by decide) (by decide) ?_
      show Steps p.tables e below (T0.setTop (mkF m 47 #[.val (.int i0), .unset] [])) t
      refine XS.iconst X0.here hx rfl (hb hby d1_47) ?_
      show Steps p.tables e below (T0.setTop (mkF m 48 #[.val (.int i0), .unset] [(.int (0 : Int32))])) t
      refine XS.istoreN X0.here hx rfl (hb hby d1_48) rfl (l' := #[.val (.int i0), .val (.int (0 : Int32))]) rfl ?_
      show Steps p.tables e below (T0.setTop (mkF m 49 #[.val (.int i0), .val (.int (0 : Int32))] [])) t
      refine XS.goto X0.here hx rfl (pc0 := 49) (pc' := 85) rfl (hb hby d1_49) (by decide) (by decide) ?_
      show Steps p.tables e below (T0.setTop (mkF m 85 #[.val (.int i0), .val (.int (0 : Int32))] [])) t
      refine XS.iloadN X0.here hx rfl (hb hby d1_85) rfl ?_
      exact k
    exact doneN (t := .boolean) X0 (by simp) hx hret hlk (hb hby d1_86) ⟨rfl, N0, e0⟩ (by decide) (by decide)
  · rw [if_neg hc34_0]
    refine Done.of (T' := T0) (g' := (mkF m 40 #[.val (.int i0), .unset] [(.int (65519 : Int32)), (.int i0)])) (fun t k => ?_) ?_
    · show Steps p.tables e below (T0.setTop (mkF m 34 #[.val (.int i0), .unset] [(.int (65008 : Int32)), (.int i0)])) t
      refine XS.icmpNo X0.here hx rfl (hb hby d1_34) rfl (flt hc34_0).1 ?_
      show Steps p.tables e below (T0.setTop (mkF m 37 #[.val (.int i0), .unset] [])) t
      refine XS.iloadN X0.here hx rfl (hb hby d1_37) rfl ?_
      show Steps p.tables e below (T0.setTop (mkF m 38 #[.val (.int i0), .unset] [(.int i0)])) t
      refine X0.ldcInt hx hown (mvT hZ (hw _ (List.mem_of_getElem? (i := 65) rfl))) (g := (mkF m 38 #[.val (.int i0), .unset] [(.int i0)])) rfl (hb hby d1_38) _ ?_
      exact k
    by_cases hc40_1 : (65519 : Int32) < i0
    · rw [if_pos hc40_1]
      refine Done.of (T' := T0) (g' := (mkF m 86 #[.val (.int i0), .val (.int (0 : Int32))] [(.int (0 : Int32))])) (fun t k => ?_) ?_
      · show Steps p.tables e below (T0.setTop (mkF m 40 #[.val (.int i0), .unset] [(.int (65519 : Int32)), (.int i0)])) t
        refine XS.icmpYes X0.here hx rfl (pc0 := 40) (pc' := 47) rfl (hb hby d1_40) rfl (tlt hc40_1).2.2.1 (by decide) (by decide) ?_
        show Steps p.tables e below (T0.setTop (mkF m 47 #[.val (.int i0), .unset] [])) t
        refine XS.iconst X0.here hx rfl (hb hby d1_47) ?_
        show Steps p.tables e below (T0.setTop (mkF m 48 #[.val (.int i0), .unset] [(.int (0 : Int32))])) t
        refine XS.istoreN X0.here hx rfl (hb hby d1_48) rfl (l' := #[.val (.int i0), .val (.int (0 : Int32))]) rfl ?_
        show Steps p.tables e below (T0.setTop (mkF m 49 #[.val (.int i0), .val (.int (0 : Int32))] [])) t
        refine XS.goto X0.here hx rfl (pc0 := 49) (pc' := 85) rfl (hb hby d1_49) (by decide) (by decide) ?_
        show Steps p.tables e below (T0.setTop (mkF m 85 #[.val (.int i0), .val (.int (0 : Int32))] [])) t
        refine XS.iloadN X0.here hx rfl (hb hby d1_85) rfl ?_
        exact k
      exact doneN (t := .boolean) X0 (by simp) hx hret hlk (hb hby d1_86) ⟨rfl, N0, e0⟩ (by decide) (by decide)
    · rw [if_neg hc40_1]
      refine Done.of (T' := T0) (g' := (mkF m 43 #[.val (.int i0), .unset] [])) (fun t k => ?_) ?_
      · show Steps p.tables e below (T0.setTop (mkF m 40 #[.val (.int i0), .unset] [(.int (65519 : Int32)), (.int i0)])) t
        refine XS.icmpNo X0.here hx rfl (hb hby d1_40) rfl (flt hc40_1).2.2.1 ?_
        exact k
      exact bk1_43 hx hZ hw hby hml hown hnm hret hlk X0 N0 e0 i0
def F1_19 (i0 : Int32) : Int32 := (if i0 < (63744 : Int32) then (F1_31 i0) else (if (64975 : Int32) < i0 then (F1_31 i0) else (F1_43 i0)))
set_option maxRecDepth 65536 in
set_option maxHeartbeats 40000000 in
theorem bk1_19 {p : Program} {l : Launch} {e : Env} {s : State} {m : MethodId} {args : Array Value} {below : List Frame} {meth : Method} {c : Code} {T0 : State} {locs : List Loc} {Z : State} {a0 : Array Value} {h0 : Heap} {n0 : Nat}
    (hx : p.tables.exec = Jvm.exec) (hZ : Z.Warmed39 s.vm) (hw : ∀ d ∈ tables_1, d.before a0 Z = true) (hby : c.code = prog_20_method_6_code) (hml : c.maxLocals = 2) (hown : s.vm.findClass "com/example/pilotfish/pilotfish/formats/UriReferences" = some m.cls) (hnm : meth.name = "isUcschar") (hret : meth.sig.returnType = some .boolean) (hlk : meth.locks = false)
    (X0 : Stand p l e ({ frames := 0, cells := 0, slots := 0, locals := 0 } : Room) s m args below meth c T0 locs 0 0) (N0 : Fr n0 locs) (e0 : T0.heap = h0) (i0 : Int32) :
    Done p e below s ({ frames := 0, cells := 0, slots := 0, locals := 0 } : Room) (Qp h0 n0 (.int (F1_19 i0))) T0 (mkF m 19 #[.val (.int i0), .unset] []) := by
  unfold F1_19
  refine Done.of (T' := T0) (g' := (mkF m 22 #[.val (.int i0), .unset] [(.int (63744 : Int32)), (.int i0)])) (fun t k => ?_) ?_
  · show Steps p.tables e below (T0.setTop (mkF m 19 #[.val (.int i0), .unset] [])) t
    refine XS.iloadN X0.here hx rfl (hb hby d1_19) rfl ?_
    show Steps p.tables e below (T0.setTop (mkF m 20 #[.val (.int i0), .unset] [(.int i0)])) t
    refine X0.ldcInt hx hown (mvT hZ (hw _ (List.mem_of_getElem? (i := 32) rfl))) (g := (mkF m 20 #[.val (.int i0), .unset] [(.int i0)])) rfl (hb hby d1_20) _ ?_
    exact k
  by_cases hc22_0 : i0 < (63744 : Int32)
  · rw [if_pos hc22_0]
    refine Done.of (T' := T0) (g' := (mkF m 31 #[.val (.int i0), .unset] [])) (fun t k => ?_) ?_
    · show Steps p.tables e below (T0.setTop (mkF m 22 #[.val (.int i0), .unset] [(.int (63744 : Int32)), (.int i0)])) t
      refine XS.icmpYes X0.here hx rfl (pc0 := 22) (pc' := 31) rfl (hb hby d1_22) rfl (tlt hc22_0).1 (by decide) (by decide) ?_
      exact k
    exact bk1_31 hx hZ hw hby hml hown hnm hret hlk X0 N0 e0 i0
  · rw [if_neg hc22_0]
    refine Done.of (T' := T0) (g' := (mkF m 28 #[.val (.int i0), .unset] [(.int (64975 : Int32)), (.int i0)])) (fun t k => ?_) ?_
    · show Steps p.tables e below (T0.setTop (mkF m 22 #[.val (.int i0), .unset] [(.int (63744 : Int32)), (.int i0)])) t
      refine XS.icmpNo X0.here hx rfl (hb hby d1_22) rfl (flt hc22_0).1 ?_
      show Steps p.tables e below (T0.setTop (mkF m 25 #[.val (.int i0), .unset] [])) t
      refine XS.iloadN X0.here hx rfl (hb hby d1_25) rfl ?_
      show Steps p.tables e below (T0.setTop (mkF m 26 #[.val (.int i0), .unset] [(.int i0)])) t
      refine X0.ldcInt hx hown (mvT hZ (hw _ (List.mem_of_getElem? (i := 64) rfl))) (g := (mkF m 26 #[.val (.int i0), .unset] [(.int i0)])) rfl (hb hby d1_26) _ ?_
      exact k
    by_cases hc28_1 : (64975 : Int32) < i0
    · rw [if_pos hc28_1]
      refine Done.of (T' := T0) (g' := (mkF m 31 #[.val (.int i0), .unset] [])) (fun t k => ?_) ?_
      · show Steps p.tables e below (T0.setTop (mkF m 28 #[.val (.int i0), .unset] [(.int (64975 : Int32)), (.int i0)])) t
        refine XS.icmpNo X0.here hx rfl (hb hby d1_28) rfl (tlt hc28_1).2.2.2 ?_
        exact k
      exact bk1_31 hx hZ hw hby hml hown hnm hret hlk X0 N0 e0 i0
    · rw [if_neg hc28_1]
      refine Done.of (T' := T0) (g' := (mkF m 43 #[.val (.int i0), .unset] [])) (fun t k => ?_) ?_
      · show Steps p.tables e below (T0.setTop (mkF m 28 #[.val (.int i0), .unset] [(.int (64975 : Int32)), (.int i0)])) t
        refine XS.icmpYes X0.here hx rfl (pc0 := 28) (pc' := 43) rfl (hb hby d1_28) rfl (flt hc28_1).2.2.2 (by decide) (by decide) ?_
        exact k
      exact bk1_43 hx hZ hw hby hml hown hnm hret hlk X0 N0 e0 i0
def F1_0 (p1 : Int32) : Int32 := (if p1 < (65536 : Int32) then (if p1 < (160 : Int32) then (F1_19 p1) else (if (55295 : Int32) < p1 then (F1_19 p1) else (F1_43 p1))) else (if p1 < (983040 : Int32) then (if (65533 : Int32) < (p1 &&& (65535 : Int32)) then (0 : Int32) else (if p1 < (917504 : Int32) then (1 : Int32) else (if p1 < (921600 : Int32) then (0 : Int32) else (1 : Int32)))) else (0 : Int32)))
set_option maxRecDepth 65536 in
set_option maxHeartbeats 40000000 in
theorem bk1_0 {p : Program} {l : Launch} {e : Env} {s : State} {m : MethodId} {args : Array Value} {below : List Frame} {meth : Method} {c : Code} {T0 : State} {locs : List Loc} {Z : State} {a0 : Array Value} {h0 : Heap} {n0 : Nat}
    (hx : p.tables.exec = Jvm.exec) (hZ : Z.Warmed39 s.vm) (hw : ∀ d ∈ tables_1, d.before a0 Z = true) (hby : c.code = prog_20_method_6_code) (hml : c.maxLocals = 2) (hown : s.vm.findClass "com/example/pilotfish/pilotfish/formats/UriReferences" = some m.cls) (hnm : meth.name = "isUcschar") (hret : meth.sig.returnType = some .boolean) (hlk : meth.locks = false)
    (X0 : Stand p l e ({ frames := 0, cells := 0, slots := 0, locals := 0 } : Room) s m args below meth c T0 locs 0 0) (N0 : Fr n0 locs) (e0 : T0.heap = h0) (p1 : Int32) :
    Done p e below s ({ frames := 0, cells := 0, slots := 0, locals := 0 } : Room) (Qp h0 n0 (.int (F1_0 p1))) T0 (mkF m 0 #[.val (.int p1), .unset] []) := by
  unfold F1_0
  refine Done.of (T' := T0) (g' := (mkF m 3 #[.val (.int p1), .unset] [(.int (65536 : Int32)), (.int p1)])) (fun t k => ?_) ?_
  · show Steps p.tables e below (T0.setTop (mkF m 0 #[.val (.int p1), .unset] [])) t
    refine XS.iloadN X0.here hx rfl (hb hby d1_0) rfl ?_
    show Steps p.tables e below (T0.setTop (mkF m 1 #[.val (.int p1), .unset] [(.int p1)])) t
    refine X0.ldcInt hx hown (mvT hZ (hw _ (List.mem_of_getElem? (i := 24) rfl))) (g := (mkF m 1 #[.val (.int p1), .unset] [(.int p1)])) rfl (hb hby d1_1) _ ?_
    exact k
  by_cases hc3_0 : p1 < (65536 : Int32)
  · rw [if_pos hc3_0]
    refine Done.of (T' := T0) (g' := (mkF m 10 #[.val (.int p1), .unset] [(.int (160 : Int32)), (.int p1)])) (fun t k => ?_) ?_
    · show Steps p.tables e below (T0.setTop (mkF m 3 #[.val (.int p1), .unset] [(.int (65536 : Int32)), (.int p1)])) t
      refine XS.icmpNo X0.here hx rfl (hb hby d1_3) rfl (tlt hc3_0).2.1 ?_
      show Steps p.tables e below (T0.setTop (mkF m 6 #[.val (.int p1), .unset] [])) t
      refine XS.iloadN X0.here hx rfl (hb hby d1_6) rfl ?_
      show Steps p.tables e below (T0.setTop (mkF m 7 #[.val (.int p1), .unset] [(.int p1)])) t
      refine XS.sipush X0.here hx rfl (hb hby d1_7) ?_
      exact k
    by_cases hc10_1 : p1 < (160 : Int32)
    · rw [if_pos hc10_1]
      refine Done.of (T' := T0) (g' := (mkF m 19 #[.val (.int p1), .unset] [])) (fun t k => ?_) ?_
      · show Steps p.tables e below (T0.setTop (mkF m 10 #[.val (.int p1), .unset] [(.int (160 : Int32)), (.int p1)])) t
        refine XS.icmpYes X0.here hx rfl (pc0 := 10) (pc' := 19) rfl (hb hby d1_10) rfl (tlt hc10_1).1 (by decide) (by decide) ?_
        exact k
      exact bk1_19 hx hZ hw hby hml hown hnm hret hlk X0 N0 e0 p1
    · rw [if_neg hc10_1]
      refine Done.of (T' := T0) (g' := (mkF m 16 #[.val (.int p1), .unset] [(.int (55295 : Int32)), (.int p1)])) (fun t k => ?_) ?_
      · show Steps p.tables e below (T0.setTop (mkF m 10 #[.val (.int p1), .unset] [(.int (160 : Int32)), (.int p1)])) t
        refine XS.icmpNo X0.here hx rfl (hb hby d1_10) rfl (flt hc10_1).1 ?_
        show Steps p.tables e below (T0.setTop (mkF m 13 #[.val (.int p1), .unset] [])) t
        refine XS.iloadN X0.here hx rfl (hb hby d1_13) rfl ?_
        show Steps p.tables e below (T0.setTop (mkF m 14 #[.val (.int p1), .unset] [(.int p1)])) t
        refine X0.ldcInt hx hown (mvT hZ (hw _ (List.mem_of_getElem? (i := 25) rfl))) (g := (mkF m 14 #[.val (.int p1), .unset] [(.int p1)])) rfl (hb hby d1_14) _ ?_
        exact k
      by_cases hc16_2 : (55295 : Int32) < p1
      · rw [if_pos hc16_2]
        refine Done.of (T' := T0) (g' := (mkF m 19 #[.val (.int p1), .unset] [])) (fun t k => ?_) ?_
        · show Steps p.tables e below (T0.setTop (mkF m 16 #[.val (.int p1), .unset] [(.int (55295 : Int32)), (.int p1)])) t
          refine XS.icmpNo X0.here hx rfl (hb hby d1_16) rfl (tlt hc16_2).2.2.2 ?_
          exact k
        exact bk1_19 hx hZ hw hby hml hown hnm hret hlk X0 N0 e0 p1
      · rw [if_neg hc16_2]
        refine Done.of (T' := T0) (g' := (mkF m 43 #[.val (.int p1), .unset] [])) (fun t k => ?_) ?_
        · show Steps p.tables e below (T0.setTop (mkF m 16 #[.val (.int p1), .unset] [(.int (55295 : Int32)), (.int p1)])) t
          refine XS.icmpYes X0.here hx rfl (pc0 := 16) (pc' := 43) rfl (hb hby d1_16) rfl (flt hc16_2).2.2.2 (by decide) (by decide) ?_
          exact k
        exact bk1_43 hx hZ hw hby hml hown hnm hret hlk X0 N0 e0 p1
  · rw [if_neg hc3_0]
    refine Done.of (T' := T0) (g' := (mkF m 55 #[.val (.int p1), .unset] [(.int (983040 : Int32)), (.int p1)])) (fun t k => ?_) ?_
    · show Steps p.tables e below (T0.setTop (mkF m 3 #[.val (.int p1), .unset] [(.int (65536 : Int32)), (.int p1)])) t
      refine XS.icmpYes X0.here hx rfl (pc0 := 3) (pc' := 52) rfl (hb hby d1_3) rfl (flt hc3_0).2.1 (by decide) (by decide) ?_
      show Steps p.tables e below (T0.setTop (mkF m 52 #[.val (.int p1), .unset] [])) t
      refine XS.iloadN X0.here hx rfl (hb hby d1_52) rfl ?_
      show Steps p.tables e below (T0.setTop (mkF m 53 #[.val (.int p1), .unset] [(.int p1)])) t
      refine X0.ldcInt hx hown (mvT hZ (hw _ (List.mem_of_getElem? (i := 44) rfl))) (g := (mkF m 53 #[.val (.int p1), .unset] [(.int p1)])) rfl (hb hby d1_53) _ ?_
      exact k
    by_cases hc55_3 : p1 < (983040 : Int32)
    · rw [if_pos hc55_3]
      refine Done.of (T' := T0) (g' := (mkF m 64 #[.val (.int p1), .unset] [(.int (65533 : Int32)), (.int (p1 &&& (65535 : Int32)))])) (fun t k => ?_) ?_
      · show Steps p.tables e below (T0.setTop (mkF m 55 #[.val (.int p1), .unset] [(.int (983040 : Int32)), (.int p1)])) t
        refine XS.icmpNo X0.here hx rfl (hb hby d1_55) rfl (tlt hc55_3).2.1 ?_
        show Steps p.tables e below (T0.setTop (mkF m 58 #[.val (.int p1), .unset] [])) t
        refine XS.iloadN X0.here hx rfl (hb hby d1_58) rfl ?_
        show Steps p.tables e below (T0.setTop (mkF m 59 #[.val (.int p1), .unset] [(.int p1)])) t
        refine X0.ldcInt hx hown (mvT hZ (hw _ (List.mem_of_getElem? (i := 45) rfl))) (g := (mkF m 59 #[.val (.int p1), .unset] [(.int p1)])) rfl (hb hby d1_59) _ ?_
        show Steps p.tables e below (T0.setTop (mkF m 61 #[.val (.int p1), .unset] [(.int (65535 : Int32)), (.int p1)])) t
        refine XS.iand X0.here hx rfl (hb hby d1_61) rfl ?_
        show Steps p.tables e below (T0.setTop (mkF m 62 #[.val (.int p1), .unset] [(.int (p1 &&& (65535 : Int32)))])) t
        refine X0.ldcInt hx hown (mvT hZ (hw _ (List.mem_of_getElem? (i := 46) rfl))) (g := (mkF m 62 #[.val (.int p1), .unset] [(.int (p1 &&& (65535 : Int32)))])) rfl (hb hby d1_62) _ ?_
        exact k
      by_cases hc64_4 : (65533 : Int32) < (p1 &&& (65535 : Int32))
      · rw [if_pos hc64_4]
        refine Done.of (T' := T0) (g' := (mkF m 86 #[.val (.int p1), .val (.int (0 : Int32))] [(.int (0 : Int32))])) (fun t k => ?_) ?_
        · show Steps p.tables e below (T0.setTop (mkF m 64 #[.val (.int p1), .unset] [(.int (65533 : Int32)), (.int (p1 &&& (65535 : Int32)))])) t
          refine XS.icmpYes X0.here hx rfl (pc0 := 64) (pc' := 83) rfl (hb hby d1_64) rfl (tlt hc64_4).2.2.1 (by decide) (by decide) ?_
          show Steps p.tables e below (T0.setTop (mkF m 83 #[.val (.int p1), .unset] [])) t
          refine XS.iconst X0.here hx rfl (hb hby d1_83) ?_
          show Steps p.tables e below (T0.setTop (mkF m 84 #[.val (.int p1), .unset] [(.int (0 : Int32))])) t
          refine XS.istoreN X0.here hx rfl (hb hby d1_84) rfl (l' := #[.val (.int p1), .val (.int (0 : Int32))]) rfl ?_
          show Steps p.tables e below (T0.setTop (mkF m 85 #[.val (.int p1), .val (.int (0 : Int32))] [])) t
          refine XS.iloadN X0.here hx rfl (hb hby d1_85) rfl ?_
          exact k
        exact doneN (t := .boolean) X0 (by simp) hx hret hlk (hb hby d1_86) ⟨rfl, N0, e0⟩ (by decide) (by decide)
      · rw [if_neg hc64_4]
        refine Done.of (T' := T0) (g' := (mkF m 70 #[.val (.int p1), .unset] [(.int (917504 : Int32)), (.int p1)])) (fun t k => ?_) ?_
        · show Steps p.tables e below (T0.setTop (mkF m 64 #[.val (.int p1), .unset] [(.int (65533 : Int32)), (.int (p1 &&& (65535 : Int32)))])) t
          refine XS.icmpNo X0.here hx rfl (hb hby d1_64) rfl (flt hc64_4).2.2.1 ?_
          show Steps p.tables e below (T0.setTop (mkF m 67 #[.val (.int p1), .unset] [])) t
          refine XS.iloadN X0.here hx rfl (hb hby d1_67) rfl ?_
          show Steps p.tables e below (T0.setTop (mkF m 68 #[.val (.int p1), .unset] [(.int p1)])) t
          refine X0.ldcInt hx hown (mvT hZ (hw _ (List.mem_of_getElem? (i := 63) rfl))) (g := (mkF m 68 #[.val (.int p1), .unset] [(.int p1)])) rfl (hb hby d1_68) _ ?_
          exact k
        by_cases hc70_5 : p1 < (917504 : Int32)
        · rw [if_pos hc70_5]
          refine Done.of (T' := T0) (g' := (mkF m 86 #[.val (.int p1), .val (.int (1 : Int32))] [(.int (1 : Int32))])) (fun t k => ?_) ?_
          · show Steps p.tables e below (T0.setTop (mkF m 70 #[.val (.int p1), .unset] [(.int (917504 : Int32)), (.int p1)])) t
            refine XS.icmpYes X0.here hx rfl (pc0 := 70) (pc' := 79) rfl (hb hby d1_70) rfl (tlt hc70_5).1 (by decide) (by decide) ?_
            show Steps p.tables e below (T0.setTop (mkF m 79 #[.val (.int p1), .unset] [])) t
            refine XS.iconst X0.here hx rfl (hb hby d1_79) ?_
            show Steps p.tables e below (T0.setTop (mkF m 80 #[.val (.int p1), .unset] [(.int (1 : Int32))])) t
            refine XS.goto X0.here hx rfl (pc0 := 80) (pc' := 84) rfl (hb hby d1_80) (by decide) (by decide) ?_
            show Steps p.tables e below (T0.setTop (mkF m 84 #[.val (.int p1), .unset] [(.int (1 : Int32))])) t
            refine XS.istoreN X0.here hx rfl (hb hby d1_84) rfl (l' := #[.val (.int p1), .val (.int (1 : Int32))]) rfl ?_
            show Steps p.tables e below (T0.setTop (mkF m 85 #[.val (.int p1), .val (.int (1 : Int32))] [])) t
            refine XS.iloadN X0.here hx rfl (hb hby d1_85) rfl ?_
            exact k
          exact doneN (t := .boolean) X0 (by simp) hx hret hlk (hb hby d1_86) ⟨rfl, N0, e0⟩ (by decide) (by decide)
        · rw [if_neg hc70_5]
          refine Done.of (T' := T0) (g' := (mkF m 76 #[.val (.int p1), .unset] [(.int (921600 : Int32)), (.int p1)])) (fun t k => ?_) ?_
          · show Steps p.tables e below (T0.setTop (mkF m 70 #[.val (.int p1), .unset] [(.int (917504 : Int32)), (.int p1)])) t
            refine XS.icmpNo X0.here hx rfl (hb hby d1_70) rfl (flt hc70_5).1 ?_
            show Steps p.tables e below (T0.setTop (mkF m 73 #[.val (.int p1), .unset] [])) t
            refine XS.iloadN X0.here hx rfl (hb hby d1_73) rfl ?_
            show Steps p.tables e below (T0.setTop (mkF m 74 #[.val (.int p1), .unset] [(.int p1)])) t
            refine X0.ldcInt hx hown (mvT hZ (hw _ (List.mem_of_getElem? (i := 66) rfl))) (g := (mkF m 74 #[.val (.int p1), .unset] [(.int p1)])) rfl (hb hby d1_74) _ ?_
            exact k
          by_cases hc76_6 : p1 < (921600 : Int32)
          · rw [if_pos hc76_6]
            refine Done.of (T' := T0) (g' := (mkF m 86 #[.val (.int p1), .val (.int (0 : Int32))] [(.int (0 : Int32))])) (fun t k => ?_) ?_
            · show Steps p.tables e below (T0.setTop (mkF m 76 #[.val (.int p1), .unset] [(.int (921600 : Int32)), (.int p1)])) t
              refine XS.icmpYes X0.here hx rfl (pc0 := 76) (pc' := 83) rfl (hb hby d1_76) rfl (tlt hc76_6).1 (by decide) (by decide) ?_
              show Steps p.tables e below (T0.setTop (mkF m 83 #[.val (.int p1), .unset] [])) t
              refine XS.iconst X0.here hx rfl (hb hby d1_83) ?_
              show Steps p.tables e below (T0.setTop (mkF m 84 #[.val (.int p1), .unset] [(.int (0 : Int32))])) t
              refine XS.istoreN X0.here hx rfl (hb hby d1_84) rfl (l' := #[.val (.int p1), .val (.int (0 : Int32))]) rfl ?_
              show Steps p.tables e below (T0.setTop (mkF m 85 #[.val (.int p1), .val (.int (0 : Int32))] [])) t
              refine XS.iloadN X0.here hx rfl (hb hby d1_85) rfl ?_
              exact k
            exact doneN (t := .boolean) X0 (by simp) hx hret hlk (hb hby d1_86) ⟨rfl, N0, e0⟩ (by decide) (by decide)
          · rw [if_neg hc76_6]
            refine Done.of (T' := T0) (g' := (mkF m 86 #[.val (.int p1), .val (.int (1 : Int32))] [(.int (1 : Int32))])) (fun t k => ?_) ?_
            · show Steps p.tables e below (T0.setTop (mkF m 76 #[.val (.int p1), .unset] [(.int (921600 : Int32)), (.int p1)])) t
              refine XS.icmpNo X0.here hx rfl (hb hby d1_76) rfl (flt hc76_6).1 ?_
              show Steps p.tables e below (T0.setTop (mkF m 79 #[.val (.int p1), .unset] [])) t
              refine XS.iconst X0.here hx rfl (hb hby d1_79) ?_
              show Steps p.tables e below (T0.setTop (mkF m 80 #[.val (.int p1), .unset] [(.int (1 : Int32))])) t
              refine XS.goto X0.here hx rfl (pc0 := 80) (pc' := 84) rfl (hb hby d1_80) (by decide) (by decide) ?_
              show Steps p.tables e below (T0.setTop (mkF m 84 #[.val (.int p1), .unset] [(.int (1 : Int32))])) t
              refine XS.istoreN X0.here hx rfl (hb hby d1_84) rfl (l' := #[.val (.int p1), .val (.int (1 : Int32))]) rfl ?_
              show Steps p.tables e below (T0.setTop (mkF m 85 #[.val (.int p1), .val (.int (1 : Int32))] [])) t
              refine XS.iloadN X0.here hx rfl (hb hby d1_85) rfl ?_
              exact k
            exact doneN (t := .boolean) X0 (by simp) hx hret hlk (hb hby d1_86) ⟨rfl, N0, e0⟩ (by decide) (by decide)
    · rw [if_neg hc55_3]
      refine Done.of (T' := T0) (g' := (mkF m 86 #[.val (.int p1), .val (.int (0 : Int32))] [(.int (0 : Int32))])) (fun t k => ?_) ?_
      · show Steps p.tables e below (T0.setTop (mkF m 55 #[.val (.int p1), .unset] [(.int (983040 : Int32)), (.int p1)])) t
        refine XS.icmpYes X0.here hx rfl (pc0 := 55) (pc' := 83) rfl (hb hby d1_55) rfl (flt hc55_3).2.1 (by decide) (by decide) ?_
        show Steps p.tables e below (T0.setTop (mkF m 83 #[.val (.int p1), .unset] [])) t
        refine XS.iconst X0.here hx rfl (hb hby d1_83) ?_
        show Steps p.tables e below (T0.setTop (mkF m 84 #[.val (.int p1), .unset] [(.int (0 : Int32))])) t
        refine XS.istoreN X0.here hx rfl (hb hby d1_84) rfl (l' := #[.val (.int p1), .val (.int (0 : Int32))]) rfl ?_
        show Steps p.tables e below (T0.setTop (mkF m 85 #[.val (.int p1), .val (.int (0 : Int32))] [])) t
        refine XS.iloadN X0.here hx rfl (hb hby d1_85) rfl ?_
        exact k
      exact doneN (t := .boolean) X0 (by simp) hx hret hlk (hb hby d1_86) ⟨rfl, N0, e0⟩ (by decide) (by decide)
theorem ef_1 (m : MethodId) (p1 : Int32) : entryFrame m #[(.int p1)] 2 = mkF m 0 #[.val (.int p1), .unset] [] := by first | (simp [entryFrame, mkF, argsToLocals, Value.category, maxLocals]; done) | rfl
theorem pn_1 : plainName "com/example/pilotfish/pilotfish/formats/UriReferences" = true := by first | (simp [plainName, overriddenIn]; done) | decide +kernel
set_option maxRecDepth 65536 in
set_option maxHeartbeats 40000000 in
theorem rm1 (l : Launch) (Z : State) (a0 : Array Value) (hw : ∀ d ∈ tables_1, d.before a0 Z = true) (ws : List Jvm.Cond) (p1 : Int32) (h0 : Heap) (n0 : Nat) :
    MetFree l (⟨"com/example/pilotfish/pilotfish/formats/UriReferences", "isUcschar", "(I)Z"⟩ : MethodName) (head1 (Jvm.Cond.code (⟨"com/example/pilotfish/pilotfish/formats/UriReferences", "isUcschar", "(I)Z"⟩ : MethodName) prog_20_method_6_code 2 (some .boolean) :: ws) ({ frames := 0, cells := 0, slots := 0, locals := 0 } : Room)) (fun a U => a = #[(.int p1)] ∧ Z.Warmed39 U.vm ∧ U.heap = h0) (fun _ _ _ _ _ => True) (fun _ U o U' => ∃ v L, o = .returned v ∧ (Qp h0 n0 (.int (F1_0 p1))) v U'.heap L ∧ FrameEnd U o U' L ({ frames := 0, cells := 0, slots := 0, locals := 0 } : Room).cells ({ frames := 0, cells := 0, slots := 0, locals := 0 } : Room).slots) := by
  refine MetFree.of_bodySF (plainFor_of_name pn_1) hisR ?_
  intro p e s m args below meth c s₁ Bd hml0 hP hK
  obtain ⟨rfl, hZ, hh⟩ := hP
  have hown : s.vm.findClass "com/example/pilotfish/pilotfish/formats/UriReferences" = some m.cls := findClass_of_methodNamed Bd.named
  have hnm := (name_of_methodNamed Bd.named Bd.method).1
  have X0 : Stand p l e ({ frames := 0, cells := 0, slots := 0, locals := 0 } : Room) s m #[(.int p1)] below meth c s₁ [] 0 0 := Stand.of_body Bd
  have e0 : s₁.heap = h0 := by rw [← hh, Bd.state]; rfl
  have d := bk1_0 (n0 := n0) Bd.exec hZ hw Bd.bytes hml0 hown hnm Bd.returns (BodyLoose.notSynchronized Bd) X0 (Fr.nil n0) e0 p1
  have d2 : Done p e below s ({ frames := 0, cells := 0, slots := 0, locals := 0 } : Room) (Qp h0 n0 (.int (F1_0 p1))) s₁ (entryFrame m #[(.int p1)] 2) := by rw [ef_1]; exact d
  exact d2
theorem d2_0 : decode method_3_code 0 = .ok (.iload_n 0, 1) := by decide +kernel
theorem d2_1 : decode method_3_code 1 = .ok (.sipush 160, 3) := by decide +kernel
theorem d2_4 : decode method_3_code 4 = .ok (.if_icmp .lt 11, 3) := by decide +kernel
theorem d2_7 : decode method_3_code 7 = .ok (.iload_n 0, 1) := by decide +kernel
theorem d2_8 : decode method_3_code 8 = .ok (.ldc 38, 2) := by decide +kernel
theorem d2_10 : decode method_3_code 10 = .ok (.if_icmp .gt 5, 3) := by decide +kernel
theorem d2_13 : decode method_3_code 13 = .ok (.iconst 1, 1) := by decide +kernel
theorem d2_14 : decode method_3_code 14 = .ok (.ireturn, 1) := by decide +kernel
theorem d2_15 : decode method_3_code 15 = .ok (.iload_n 0, 1) := by decide +kernel
theorem d2_16 : decode method_3_code 16 = .ok (.ldc 9, 2) := by decide +kernel
theorem d2_18 : decode method_3_code 18 = .ok (.if_icmp .lt 11, 3) := by decide +kernel
theorem d2_21 : decode method_3_code 21 = .ok (.iload_n 0, 1) := by decide +kernel
theorem d2_22 : decode method_3_code 22 = .ok (.ldc 39, 2) := by decide +kernel
theorem d2_24 : decode method_3_code 24 = .ok (.if_icmp .gt 5, 3) := by decide +kernel
theorem d2_27 : decode method_3_code 27 = .ok (.iconst 1, 1) := by decide +kernel
theorem d2_28 : decode method_3_code 28 = .ok (.ireturn, 1) := by decide +kernel
theorem d2_29 : decode method_3_code 29 = .ok (.iload_n 0, 1) := by decide +kernel
theorem d2_30 : decode method_3_code 30 = .ok (.ldc 11, 2) := by decide +kernel
theorem d2_32 : decode method_3_code 32 = .ok (.if_icmp .lt 11, 3) := by decide +kernel
theorem d2_35 : decode method_3_code 35 = .ok (.iload_n 0, 1) := by decide +kernel
theorem d2_36 : decode method_3_code 36 = .ok (.ldc 40, 2) := by decide +kernel
theorem d2_38 : decode method_3_code 38 = .ok (.if_icmp .gt 5, 3) := by decide +kernel
theorem d2_41 : decode method_3_code 41 = .ok (.iconst 1, 1) := by decide +kernel
theorem d2_42 : decode method_3_code 42 = .ok (.ireturn, 1) := by decide +kernel
theorem d2_43 : decode method_3_code 43 = .ok (.iload_n 0, 1) := by decide +kernel
theorem d2_44 : decode method_3_code 44 = .ok (.ldc 13, 2) := by decide +kernel
theorem d2_46 : decode method_3_code 46 = .ok (.if_icmp .lt 11, 3) := by decide +kernel
theorem d2_49 : decode method_3_code 49 = .ok (.iload_n 0, 1) := by decide +kernel
theorem d2_50 : decode method_3_code 50 = .ok (.ldc 41, 2) := by decide +kernel
theorem d2_52 : decode method_3_code 52 = .ok (.if_icmp .gt 5, 3) := by decide +kernel
theorem d2_55 : decode method_3_code 55 = .ok (.iconst 1, 1) := by decide +kernel
theorem d2_56 : decode method_3_code 56 = .ok (.ireturn, 1) := by decide +kernel
theorem d2_57 : decode method_3_code 57 = .ok (.iload_n 0, 1) := by decide +kernel
theorem d2_58 : decode method_3_code 58 = .ok (.ldc 15, 2) := by decide +kernel
theorem d2_60 : decode method_3_code 60 = .ok (.if_icmp .lt 11, 3) := by decide +kernel
theorem d2_63 : decode method_3_code 63 = .ok (.iload_n 0, 1) := by decide +kernel
theorem d2_64 : decode method_3_code 64 = .ok (.ldc 42, 2) := by decide +kernel
theorem d2_66 : decode method_3_code 66 = .ok (.if_icmp .gt 5, 3) := by decide +kernel
theorem d2_69 : decode method_3_code 69 = .ok (.iconst 1, 1) := by decide +kernel
theorem d2_70 : decode method_3_code 70 = .ok (.ireturn, 1) := by decide +kernel
theorem d2_71 : decode method_3_code 71 = .ok (.iload_n 0, 1) := by decide +kernel
theorem d2_72 : decode method_3_code 72 = .ok (.ldc 17, 2) := by decide +kernel
theorem d2_74 : decode method_3_code 74 = .ok (.if_icmp .lt 11, 3) := by decide +kernel
theorem d2_77 : decode method_3_code 77 = .ok (.iload_n 0, 1) := by decide +kernel
theorem d2_78 : decode method_3_code 78 = .ok (.ldc 43, 2) := by decide +kernel
theorem d2_80 : decode method_3_code 80 = .ok (.if_icmp .gt 5, 3) := by decide +kernel
theorem d2_83 : decode method_3_code 83 = .ok (.iconst 1, 1) := by decide +kernel
theorem d2_84 : decode method_3_code 84 = .ok (.ireturn, 1) := by decide +kernel
theorem d2_85 : decode method_3_code 85 = .ok (.iload_n 0, 1) := by decide +kernel
theorem d2_86 : decode method_3_code 86 = .ok (.ldc 44, 2) := by decide +kernel
theorem d2_88 : decode method_3_code 88 = .ok (.if_icmp .lt 11, 3) := by decide +kernel
theorem d2_91 : decode method_3_code 91 = .ok (.iload_n 0, 1) := by decide +kernel
theorem d2_92 : decode method_3_code 92 = .ok (.ldc 45, 2) := by decide +kernel
theorem d2_94 : decode method_3_code 94 = .ok (.if_icmp .gt 5, 3) := by decide +kernel
theorem d2_97 : decode method_3_code 97 = .ok (.iconst 1, 1) := by decide +kernel
theorem d2_98 : decode method_3_code 98 = .ok (.ireturn, 1) := by decide +kernel
theorem d2_99 : decode method_3_code 99 = .ok (.iload_n 0, 1) := by decide +kernel
theorem d2_100 : decode method_3_code 100 = .ok (.ldc 46, 2) := by decide +kernel
theorem d2_102 : decode method_3_code 102 = .ok (.if_icmp .lt 11, 3) := by decide +kernel
theorem d2_105 : decode method_3_code 105 = .ok (.iload_n 0, 1) := by decide +kernel
theorem d2_106 : decode method_3_code 106 = .ok (.ldc 47, 2) := by decide +kernel
theorem d2_108 : decode method_3_code 108 = .ok (.if_icmp .gt 5, 3) := by decide +kernel
theorem d2_111 : decode method_3_code 111 = .ok (.iconst 1, 1) := by decide +kernel
theorem d2_112 : decode method_3_code 112 = .ok (.ireturn, 1) := by decide +kernel
theorem d2_113 : decode method_3_code 113 = .ok (.iload_n 0, 1) := by decide +kernel
theorem d2_114 : decode method_3_code 114 = .ok (.ldc 48, 2) := by decide +kernel
theorem d2_116 : decode method_3_code 116 = .ok (.if_icmp .lt 11, 3) := by decide +kernel
theorem d2_119 : decode method_3_code 119 = .ok (.iload_n 0, 1) := by decide +kernel
theorem d2_120 : decode method_3_code 120 = .ok (.ldc 49, 2) := by decide +kernel
theorem d2_122 : decode method_3_code 122 = .ok (.if_icmp .gt 5, 3) := by decide +kernel
theorem d2_125 : decode method_3_code 125 = .ok (.iconst 1, 1) := by decide +kernel
theorem d2_126 : decode method_3_code 126 = .ok (.ireturn, 1) := by decide +kernel
theorem d2_127 : decode method_3_code 127 = .ok (.iload_n 0, 1) := by decide +kernel
theorem d2_128 : decode method_3_code 128 = .ok (.ldc 50, 2) := by decide +kernel
theorem d2_130 : decode method_3_code 130 = .ok (.if_icmp .lt 11, 3) := by decide +kernel
theorem d2_133 : decode method_3_code 133 = .ok (.iload_n 0, 1) := by decide +kernel
theorem d2_134 : decode method_3_code 134 = .ok (.ldc 51, 2) := by decide +kernel
theorem d2_136 : decode method_3_code 136 = .ok (.if_icmp .gt 5, 3) := by decide +kernel
theorem d2_139 : decode method_3_code 139 = .ok (.iconst 1, 1) := by decide +kernel
theorem d2_140 : decode method_3_code 140 = .ok (.ireturn, 1) := by decide +kernel
theorem d2_141 : decode method_3_code 141 = .ok (.iload_n 0, 1) := by decide +kernel
theorem d2_142 : decode method_3_code 142 = .ok (.ldc 52, 2) := by decide +kernel
theorem d2_144 : decode method_3_code 144 = .ok (.if_icmp .lt 11, 3) := by decide +kernel
theorem d2_147 : decode method_3_code 147 = .ok (.iload_n 0, 1) := by decide +kernel
theorem d2_148 : decode method_3_code 148 = .ok (.ldc 53, 2) := by decide +kernel
theorem d2_150 : decode method_3_code 150 = .ok (.if_icmp .gt 5, 3) := by decide +kernel
theorem d2_153 : decode method_3_code 153 = .ok (.iconst 1, 1) := by decide +kernel
theorem d2_154 : decode method_3_code 154 = .ok (.ireturn, 1) := by decide +kernel
theorem d2_155 : decode method_3_code 155 = .ok (.iload_n 0, 1) := by decide +kernel
theorem d2_156 : decode method_3_code 156 = .ok (.ldc 54, 2) := by decide +kernel
theorem d2_158 : decode method_3_code 158 = .ok (.if_icmp .lt 11, 3) := by decide +kernel
theorem d2_161 : decode method_3_code 161 = .ok (.iload_n 0, 1) := by decide +kernel
theorem d2_162 : decode method_3_code 162 = .ok (.ldc 55, 2) := by decide +kernel
theorem d2_164 : decode method_3_code 164 = .ok (.if_icmp .gt 5, 3) := by decide +kernel
theorem d2_167 : decode method_3_code 167 = .ok (.iconst 1, 1) := by decide +kernel
theorem d2_168 : decode method_3_code 168 = .ok (.ireturn, 1) := by decide +kernel
theorem d2_169 : decode method_3_code 169 = .ok (.iload_n 0, 1) := by decide +kernel
theorem d2_170 : decode method_3_code 170 = .ok (.ldc 56, 2) := by decide +kernel
theorem d2_172 : decode method_3_code 172 = .ok (.if_icmp .lt 11, 3) := by decide +kernel
theorem d2_175 : decode method_3_code 175 = .ok (.iload_n 0, 1) := by decide +kernel
theorem d2_176 : decode method_3_code 176 = .ok (.ldc 57, 2) := by decide +kernel
theorem d2_178 : decode method_3_code 178 = .ok (.if_icmp .gt 5, 3) := by decide +kernel
theorem d2_181 : decode method_3_code 181 = .ok (.iconst 1, 1) := by decide +kernel
theorem d2_182 : decode method_3_code 182 = .ok (.ireturn, 1) := by decide +kernel
theorem d2_183 : decode method_3_code 183 = .ok (.iload_n 0, 1) := by decide +kernel
theorem d2_184 : decode method_3_code 184 = .ok (.ldc 58, 2) := by decide +kernel
theorem d2_186 : decode method_3_code 186 = .ok (.if_icmp .lt 11, 3) := by decide +kernel
theorem d2_189 : decode method_3_code 189 = .ok (.iload_n 0, 1) := by decide +kernel
theorem d2_190 : decode method_3_code 190 = .ok (.ldc 59, 2) := by decide +kernel
theorem d2_192 : decode method_3_code 192 = .ok (.if_icmp .gt 5, 3) := by decide +kernel
theorem d2_195 : decode method_3_code 195 = .ok (.iconst 1, 1) := by decide +kernel
theorem d2_196 : decode method_3_code 196 = .ok (.ireturn, 1) := by decide +kernel
theorem d2_197 : decode method_3_code 197 = .ok (.iload_n 0, 1) := by decide +kernel
theorem d2_198 : decode method_3_code 198 = .ok (.ldc 60, 2) := by decide +kernel
theorem d2_200 : decode method_3_code 200 = .ok (.if_icmp .lt 11, 3) := by decide +kernel
theorem d2_203 : decode method_3_code 203 = .ok (.iload_n 0, 1) := by decide +kernel
theorem d2_204 : decode method_3_code 204 = .ok (.ldc 61, 2) := by decide +kernel
theorem d2_206 : decode method_3_code 206 = .ok (.if_icmp .gt 5, 3) := by decide +kernel
theorem d2_209 : decode method_3_code 209 = .ok (.iconst 1, 1) := by decide +kernel
theorem d2_210 : decode method_3_code 210 = .ok (.ireturn, 1) := by decide +kernel
theorem d2_211 : decode method_3_code 211 = .ok (.iload_n 0, 1) := by decide +kernel
theorem d2_212 : decode method_3_code 212 = .ok (.ldc 62, 2) := by decide +kernel
theorem d2_214 : decode method_3_code 214 = .ok (.if_icmp .lt 11, 3) := by decide +kernel
theorem d2_217 : decode method_3_code 217 = .ok (.iload_n 0, 1) := by decide +kernel
theorem d2_218 : decode method_3_code 218 = .ok (.ldc 63, 2) := by decide +kernel
theorem d2_220 : decode method_3_code 220 = .ok (.if_icmp .gt 5, 3) := by decide +kernel
theorem d2_223 : decode method_3_code 223 = .ok (.iconst 1, 1) := by decide +kernel
theorem d2_224 : decode method_3_code 224 = .ok (.ireturn, 1) := by decide +kernel
theorem d2_225 : decode method_3_code 225 = .ok (.iload_n 0, 1) := by decide +kernel
theorem d2_226 : decode method_3_code 226 = .ok (.ldc 21, 2) := by decide +kernel
theorem d2_228 : decode method_3_code 228 = .ok (.if_icmp .lt 11, 3) := by decide +kernel
theorem d2_231 : decode method_3_code 231 = .ok (.iload_n 0, 1) := by decide +kernel
theorem d2_232 : decode method_3_code 232 = .ok (.ldc 64, 2) := by decide +kernel
theorem d2_234 : decode method_3_code 234 = .ok (.if_icmp .gt 5, 3) := by decide +kernel
theorem d2_237 : decode method_3_code 237 = .ok (.iconst 1, 1) := by decide +kernel
theorem d2_238 : decode method_3_code 238 = .ok (.ireturn, 1) := by decide +kernel
theorem d2_239 : decode method_3_code 239 = .ok (.iconst 0, 1) := by decide +kernel
theorem d2_240 : decode method_3_code 240 = .ok (.ireturn, 1) := by decide +kernel
def F2_225 (i0 : Int32) : Int32 := (if i0 < (921600 : Int32) then (0 : Int32) else (if (983037 : Int32) < i0 then (0 : Int32) else (1 : Int32)))
set_option maxRecDepth 65536 in
set_option maxHeartbeats 40000000 in
theorem bk2_225 {p : Program} {l : Launch} {e : Env} {s : State} {m : MethodId} {args : Array Value} {below : List Frame} {meth : Method} {c : Code} {T0 : State} {locs : List Loc} {Z : State} {a0 : Array Value} {h0 : Heap} {n0 : Nat}
    (hx : p.tables.exec = Jvm.exec) (hZ : Z.Warmed39 s.vm) (hw : ∀ d ∈ tables_1, d.before a0 Z = true) (hby : c.code = method_3_code) (hml : c.maxLocals = 1) (hown : s.vm.findClass "com/example/pilotfish/pilotfish/formats/UriReferencesIsUcscharPinLaw" = some m.cls) (hnm : meth.name = "ref") (hret : meth.sig.returnType = some .boolean) (hlk : meth.locks = false)
    (X0 : Stand p l e ({ frames := 0, cells := 0, slots := 0, locals := 0 } : Room) s m args below meth c T0 locs 0 0) (N0 : Fr n0 locs) (e0 : T0.heap = h0) (i0 : Int32) :
    Done p e below s ({ frames := 0, cells := 0, slots := 0, locals := 0 } : Room) (Qp h0 n0 (.int (F2_225 i0))) T0 (mkF m 225 #[.val (.int i0)] []) := by
  unfold F2_225
  refine Done.of (T' := T0) (g' := (mkF m 228 #[.val (.int i0)] [(.int (921600 : Int32)), (.int i0)])) (fun t k => ?_) ?_
  · show Steps p.tables e below (T0.setTop (mkF m 225 #[.val (.int i0)] [])) t
    refine XS.iloadN X0.here hx rfl (hb hby d2_225) rfl ?_
    show Steps p.tables e below (T0.setTop (mkF m 226 #[.val (.int i0)] [(.int i0)])) t
    refine X0.ldcInt hx hown (mvT hZ (hw _ (List.mem_of_getElem? (i := 14) rfl))) (g := (mkF m 226 #[.val (.int i0)] [(.int i0)])) rfl (hb hby d2_226) _ ?_
    exact k
  by_cases hc228_0 : i0 < (921600 : Int32)
  · rw [if_pos hc228_0]
    refine Done.of (T' := T0) (g' := (mkF m 240 #[.val (.int i0)] [(.int (0 : Int32))])) (fun t k => ?_) ?_
    · show Steps p.tables e below (T0.setTop (mkF m 228 #[.val (.int i0)] [(.int (921600 : Int32)), (.int i0)])) t
      refine XS.icmpYes X0.here hx rfl (pc0 := 228) (pc' := 239) rfl (hb hby d2_228) rfl (tlt hc228_0).1 (by decide) (by decide) ?_
      show Steps p.tables e below (T0.setTop (mkF m 239 #[.val (.int i0)] [])) t
      refine XS.iconst X0.here hx rfl (hb hby d2_239) ?_
      exact k
    exact doneN (t := .boolean) X0 (by simp) hx hret hlk (hb hby d2_240) ⟨rfl, N0, e0⟩ (by decide) (by decide)
  · rw [if_neg hc228_0]
    refine Done.of (T' := T0) (g' := (mkF m 234 #[.val (.int i0)] [(.int (983037 : Int32)), (.int i0)])) (fun t k => ?_) ?_
    · show Steps p.tables e below (T0.setTop (mkF m 228 #[.val (.int i0)] [(.int (921600 : Int32)), (.int i0)])) t
      refine XS.icmpNo X0.here hx rfl (hb hby d2_228) rfl (flt hc228_0).1 ?_
      show Steps p.tables e below (T0.setTop (mkF m 231 #[.val (.int i0)] [])) t
      refine XS.iloadN X0.here hx rfl (hb hby d2_231) rfl ?_
      show Steps p.tables e below (T0.setTop (mkF m 232 #[.val (.int i0)] [(.int i0)])) t
      refine X0.ldcInt hx hown (mvT hZ (hw _ (List.mem_of_getElem? (i := 62) rfl))) (g := (mkF m 232 #[.val (.int i0)] [(.int i0)])) rfl (hb hby d2_232) _ ?_
      exact k
    by_cases hc234_1 : (983037 : Int32) < i0
    · rw [if_pos hc234_1]
      refine Done.of (T' := T0) (g' := (mkF m 240 #[.val (.int i0)] [(.int (0 : Int32))])) (fun t k => ?_) ?_
      · show Steps p.tables e below (T0.setTop (mkF m 234 #[.val (.int i0)] [(.int (983037 : Int32)), (.int i0)])) t
        refine XS.icmpYes X0.here hx rfl (pc0 := 234) (pc' := 239) rfl (hb hby d2_234) rfl (tlt hc234_1).2.2.1 (by decide) (by decide) ?_
        show Steps p.tables e below (T0.setTop (mkF m 239 #[.val (.int i0)] [])) t
        refine XS.iconst X0.here hx rfl (hb hby d2_239) ?_
        exact k
      exact doneN (t := .boolean) X0 (by simp) hx hret hlk (hb hby d2_240) ⟨rfl, N0, e0⟩ (by decide) (by decide)
    · rw [if_neg hc234_1]
      refine Done.of (T' := T0) (g' := (mkF m 238 #[.val (.int i0)] [(.int (1 : Int32))])) (fun t k => ?_) ?_
      · show Steps p.tables e below (T0.setTop (mkF m 234 #[.val (.int i0)] [(.int (983037 : Int32)), (.int i0)])) t
        refine XS.icmpNo X0.here hx rfl (hb hby d2_234) rfl (flt hc234_1).2.2.1 ?_
        show Steps p.tables e below (T0.setTop (mkF m 237 #[.val (.int i0)] [])) t
        refine XS.iconst X0.here hx rfl (hb hby d2_237) ?_
        exact k
      exact doneN (t := .boolean) X0 (by simp) hx hret hlk (hb hby d2_238) ⟨rfl, N0, e0⟩ (by decide) (by decide)
def F2_211 (i0 : Int32) : Int32 := (if i0 < (851968 : Int32) then (F2_225 i0) else (if (917501 : Int32) < i0 then (F2_225 i0) else (1 : Int32)))
set_option maxRecDepth 65536 in
set_option maxHeartbeats 40000000 in
theorem bk2_211 {p : Program} {l : Launch} {e : Env} {s : State} {m : MethodId} {args : Array Value} {below : List Frame} {meth : Method} {c : Code} {T0 : State} {locs : List Loc} {Z : State} {a0 : Array Value} {h0 : Heap} {n0 : Nat}
    (hx : p.tables.exec = Jvm.exec) (hZ : Z.Warmed39 s.vm) (hw : ∀ d ∈ tables_1, d.before a0 Z = true) (hby : c.code = method_3_code) (hml : c.maxLocals = 1) (hown : s.vm.findClass "com/example/pilotfish/pilotfish/formats/UriReferencesIsUcscharPinLaw" = some m.cls) (hnm : meth.name = "ref") (hret : meth.sig.returnType = some .boolean) (hlk : meth.locks = false)
    (X0 : Stand p l e ({ frames := 0, cells := 0, slots := 0, locals := 0 } : Room) s m args below meth c T0 locs 0 0) (N0 : Fr n0 locs) (e0 : T0.heap = h0) (i0 : Int32) :
    Done p e below s ({ frames := 0, cells := 0, slots := 0, locals := 0 } : Room) (Qp h0 n0 (.int (F2_211 i0))) T0 (mkF m 211 #[.val (.int i0)] []) := by
  unfold F2_211
  refine Done.of (T' := T0) (g' := (mkF m 214 #[.val (.int i0)] [(.int (851968 : Int32)), (.int i0)])) (fun t k => ?_) ?_
  · show Steps p.tables e below (T0.setTop (mkF m 211 #[.val (.int i0)] [])) t
    refine XS.iloadN X0.here hx rfl (hb hby d2_211) rfl ?_
    show Steps p.tables e below (T0.setTop (mkF m 212 #[.val (.int i0)] [(.int i0)])) t
    refine X0.ldcInt hx hown (mvT hZ (hw _ (List.mem_of_getElem? (i := 43) rfl))) (g := (mkF m 212 #[.val (.int i0)] [(.int i0)])) rfl (hb hby d2_212) _ ?_
    exact k
  by_cases hc214_0 : i0 < (851968 : Int32)
  · rw [if_pos hc214_0]
    refine Done.of (T' := T0) (g' := (mkF m 225 #[.val (.int i0)] [])) (fun t k => ?_) ?_
    · show Steps p.tables e below (T0.setTop (mkF m 214 #[.val (.int i0)] [(.int (851968 : Int32)), (.int i0)])) t
      refine XS.icmpYes X0.here hx rfl (pc0 := 214) (pc' := 225) rfl (hb hby d2_214) rfl (tlt hc214_0).1 (by decide) (by decide) ?_
      exact k
    exact bk2_225 hx hZ hw hby hml hown hnm hret hlk X0 N0 e0 i0
  · rw [if_neg hc214_0]
    refine Done.of (T' := T0) (g' := (mkF m 220 #[.val (.int i0)] [(.int (917501 : Int32)), (.int i0)])) (fun t k => ?_) ?_
    · show Steps p.tables e below (T0.setTop (mkF m 214 #[.val (.int i0)] [(.int (851968 : Int32)), (.int i0)])) t
      refine XS.icmpNo X0.here hx rfl (hb hby d2_214) rfl (flt hc214_0).1 ?_
      show Steps p.tables e below (T0.setTop (mkF m 217 #[.val (.int i0)] [])) t
      refine XS.iloadN X0.here hx rfl (hb hby d2_217) rfl ?_
      show Steps p.tables e below (T0.setTop (mkF m 218 #[.val (.int i0)] [(.int i0)])) t
      refine X0.ldcInt hx hown (mvT hZ (hw _ (List.mem_of_getElem? (i := 61) rfl))) (g := (mkF m 218 #[.val (.int i0)] [(.int i0)])) rfl (hb hby d2_218) _ ?_
      exact k
    by_cases hc220_1 : (917501 : Int32) < i0
    · rw [if_pos hc220_1]
      refine Done.of (T' := T0) (g' := (mkF m 225 #[.val (.int i0)] [])) (fun t k => ?_) ?_
      · show Steps p.tables e below (T0.setTop (mkF m 220 #[.val (.int i0)] [(.int (917501 : Int32)), (.int i0)])) t
        refine XS.icmpYes X0.here hx rfl (pc0 := 220) (pc' := 225) rfl (hb hby d2_220) rfl (tlt hc220_1).2.2.1 (by decide) (by decide) ?_
        exact k
      exact bk2_225 hx hZ hw hby hml hown hnm hret hlk X0 N0 e0 i0
    · rw [if_neg hc220_1]
      refine Done.of (T' := T0) (g' := (mkF m 224 #[.val (.int i0)] [(.int (1 : Int32))])) (fun t k => ?_) ?_
      · show Steps p.tables e below (T0.setTop (mkF m 220 #[.val (.int i0)] [(.int (917501 : Int32)), (.int i0)])) t
        refine XS.icmpNo X0.here hx rfl (hb hby d2_220) rfl (flt hc220_1).2.2.1 ?_
        show Steps p.tables e below (T0.setTop (mkF m 223 #[.val (.int i0)] [])) t
        refine XS.iconst X0.here hx rfl (hb hby d2_223) ?_
        exact k
      exact doneN (t := .boolean) X0 (by simp) hx hret hlk (hb hby d2_224) ⟨rfl, N0, e0⟩ (by decide) (by decide)
def F2_197 (i0 : Int32) : Int32 := (if i0 < (786432 : Int32) then (F2_211 i0) else (if (851965 : Int32) < i0 then (F2_211 i0) else (1 : Int32)))
set_option maxRecDepth 65536 in
set_option maxHeartbeats 40000000 in
theorem bk2_197 {p : Program} {l : Launch} {e : Env} {s : State} {m : MethodId} {args : Array Value} {below : List Frame} {meth : Method} {c : Code} {T0 : State} {locs : List Loc} {Z : State} {a0 : Array Value} {h0 : Heap} {n0 : Nat}
    (hx : p.tables.exec = Jvm.exec) (hZ : Z.Warmed39 s.vm) (hw : ∀ d ∈ tables_1, d.before a0 Z = true) (hby : c.code = method_3_code) (hml : c.maxLocals = 1) (hown : s.vm.findClass "com/example/pilotfish/pilotfish/formats/UriReferencesIsUcscharPinLaw" = some m.cls) (hnm : meth.name = "ref") (hret : meth.sig.returnType = some .boolean) (hlk : meth.locks = false)
    (X0 : Stand p l e ({ frames := 0, cells := 0, slots := 0, locals := 0 } : Room) s m args below meth c T0 locs 0 0) (N0 : Fr n0 locs) (e0 : T0.heap = h0) (i0 : Int32) :
    Done p e below s ({ frames := 0, cells := 0, slots := 0, locals := 0 } : Room) (Qp h0 n0 (.int (F2_197 i0))) T0 (mkF m 197 #[.val (.int i0)] []) := by
  unfold F2_197
  refine Done.of (T' := T0) (g' := (mkF m 200 #[.val (.int i0)] [(.int (786432 : Int32)), (.int i0)])) (fun t k => ?_) ?_
  · show Steps p.tables e below (T0.setTop (mkF m 197 #[.val (.int i0)] [])) t
    refine XS.iloadN X0.here hx rfl (hb hby d2_197) rfl ?_
    show Steps p.tables e below (T0.setTop (mkF m 198 #[.val (.int i0)] [(.int i0)])) t
    refine X0.ldcInt hx hown (mvT hZ (hw _ (List.mem_of_getElem? (i := 42) rfl))) (g := (mkF m 198 #[.val (.int i0)] [(.int i0)])) rfl (hb hby d2_198) _ ?_
    exact k
  by_cases hc200_0 : i0 < (786432 : Int32)
  · rw [if_pos hc200_0]
    refine Done.of (T' := T0) (g' := (mkF m 211 #[.val (.int i0)] [])) (fun t k => ?_) ?_
    · show Steps p.tables e below (T0.setTop (mkF m 200 #[.val (.int i0)] [(.int (786432 : Int32)), (.int i0)])) t
      refine XS.icmpYes X0.here hx rfl (pc0 := 200) (pc' := 211) rfl (hb hby d2_200) rfl (tlt hc200_0).1 (by decide) (by decide) ?_
      exact k
    exact bk2_211 hx hZ hw hby hml hown hnm hret hlk X0 N0 e0 i0
  · rw [if_neg hc200_0]
    refine Done.of (T' := T0) (g' := (mkF m 206 #[.val (.int i0)] [(.int (851965 : Int32)), (.int i0)])) (fun t k => ?_) ?_
    · show Steps p.tables e below (T0.setTop (mkF m 200 #[.val (.int i0)] [(.int (786432 : Int32)), (.int i0)])) t
      refine XS.icmpNo X0.here hx rfl (hb hby d2_200) rfl (flt hc200_0).1 ?_
      show Steps p.tables e below (T0.setTop (mkF m 203 #[.val (.int i0)] [])) t
      refine XS.iloadN X0.here hx rfl (hb hby d2_203) rfl ?_
      show Steps p.tables e below (T0.setTop (mkF m 204 #[.val (.int i0)] [(.int i0)])) t
      refine X0.ldcInt hx hown (mvT hZ (hw _ (List.mem_of_getElem? (i := 60) rfl))) (g := (mkF m 204 #[.val (.int i0)] [(.int i0)])) rfl (hb hby d2_204) _ ?_
      exact k
    by_cases hc206_1 : (851965 : Int32) < i0
    · rw [if_pos hc206_1]
      refine Done.of (T' := T0) (g' := (mkF m 211 #[.val (.int i0)] [])) (fun t k => ?_) ?_
      · show Steps p.tables e below (T0.setTop (mkF m 206 #[.val (.int i0)] [(.int (851965 : Int32)), (.int i0)])) t
        refine XS.icmpYes X0.here hx rfl (pc0 := 206) (pc' := 211) rfl (hb hby d2_206) rfl (tlt hc206_1).2.2.1 (by decide) (by decide) ?_
        exact k
      exact bk2_211 hx hZ hw hby hml hown hnm hret hlk X0 N0 e0 i0
    · rw [if_neg hc206_1]
      refine Done.of (T' := T0) (g' := (mkF m 210 #[.val (.int i0)] [(.int (1 : Int32))])) (fun t k => ?_) ?_
      · show Steps p.tables e below (T0.setTop (mkF m 206 #[.val (.int i0)] [(.int (851965 : Int32)), (.int i0)])) t
        refine XS.icmpNo X0.here hx rfl (hb hby d2_206) rfl (flt hc206_1).2.2.1 ?_
        show Steps p.tables e below (T0.setTop (mkF m 209 #[.val (.int i0)] [])) t
        refine XS.iconst X0.here hx rfl (hb hby d2_209) ?_
        exact k
      exact doneN (t := .boolean) X0 (by simp) hx hret hlk (hb hby d2_210) ⟨rfl, N0, e0⟩ (by decide) (by decide)
def F2_183 (i0 : Int32) : Int32 := (if i0 < (720896 : Int32) then (F2_197 i0) else (if (786429 : Int32) < i0 then (F2_197 i0) else (1 : Int32)))
set_option maxRecDepth 65536 in
set_option maxHeartbeats 40000000 in
theorem bk2_183 {p : Program} {l : Launch} {e : Env} {s : State} {m : MethodId} {args : Array Value} {below : List Frame} {meth : Method} {c : Code} {T0 : State} {locs : List Loc} {Z : State} {a0 : Array Value} {h0 : Heap} {n0 : Nat}
    (hx : p.tables.exec = Jvm.exec) (hZ : Z.Warmed39 s.vm) (hw : ∀ d ∈ tables_1, d.before a0 Z = true) (hby : c.code = method_3_code) (hml : c.maxLocals = 1) (hown : s.vm.findClass "com/example/pilotfish/pilotfish/formats/UriReferencesIsUcscharPinLaw" = some m.cls) (hnm : meth.name = "ref") (hret : meth.sig.returnType = some .boolean) (hlk : meth.locks = false)
    (X0 : Stand p l e ({ frames := 0, cells := 0, slots := 0, locals := 0 } : Room) s m args below meth c T0 locs 0 0) (N0 : Fr n0 locs) (e0 : T0.heap = h0) (i0 : Int32) :
    Done p e below s ({ frames := 0, cells := 0, slots := 0, locals := 0 } : Room) (Qp h0 n0 (.int (F2_183 i0))) T0 (mkF m 183 #[.val (.int i0)] []) := by
  unfold F2_183
  refine Done.of (T' := T0) (g' := (mkF m 186 #[.val (.int i0)] [(.int (720896 : Int32)), (.int i0)])) (fun t k => ?_) ?_
  · show Steps p.tables e below (T0.setTop (mkF m 183 #[.val (.int i0)] [])) t
    refine XS.iloadN X0.here hx rfl (hb hby d2_183) rfl ?_
    show Steps p.tables e below (T0.setTop (mkF m 184 #[.val (.int i0)] [(.int i0)])) t
    refine X0.ldcInt hx hown (mvT hZ (hw _ (List.mem_of_getElem? (i := 41) rfl))) (g := (mkF m 184 #[.val (.int i0)] [(.int i0)])) rfl (hb hby d2_184) _ ?_
    exact k
  by_cases hc186_0 : i0 < (720896 : Int32)
  · rw [if_pos hc186_0]
    refine Done.of (T' := T0) (g' := (mkF m 197 #[.val (.int i0)] [])) (fun t k => ?_) ?_
    · show Steps p.tables e below (T0.setTop (mkF m 186 #[.val (.int i0)] [(.int (720896 : Int32)), (.int i0)])) t
      refine XS.icmpYes X0.here hx rfl (pc0 := 186) (pc' := 197) rfl (hb hby d2_186) rfl (tlt hc186_0).1 (by decide) (by decide) ?_
      exact k
    exact bk2_197 hx hZ hw hby hml hown hnm hret hlk X0 N0 e0 i0
  · rw [if_neg hc186_0]
    refine Done.of (T' := T0) (g' := (mkF m 192 #[.val (.int i0)] [(.int (786429 : Int32)), (.int i0)])) (fun t k => ?_) ?_
    · show Steps p.tables e below (T0.setTop (mkF m 186 #[.val (.int i0)] [(.int (720896 : Int32)), (.int i0)])) t
      refine XS.icmpNo X0.here hx rfl (hb hby d2_186) rfl (flt hc186_0).1 ?_
      show Steps p.tables e below (T0.setTop (mkF m 189 #[.val (.int i0)] [])) t
      refine XS.iloadN X0.here hx rfl (hb hby d2_189) rfl ?_
      show Steps p.tables e below (T0.setTop (mkF m 190 #[.val (.int i0)] [(.int i0)])) t
      refine X0.ldcInt hx hown (mvT hZ (hw _ (List.mem_of_getElem? (i := 59) rfl))) (g := (mkF m 190 #[.val (.int i0)] [(.int i0)])) rfl (hb hby d2_190) _ ?_
      exact k
    by_cases hc192_1 : (786429 : Int32) < i0
    · rw [if_pos hc192_1]
      refine Done.of (T' := T0) (g' := (mkF m 197 #[.val (.int i0)] [])) (fun t k => ?_) ?_
      · show Steps p.tables e below (T0.setTop (mkF m 192 #[.val (.int i0)] [(.int (786429 : Int32)), (.int i0)])) t
        refine XS.icmpYes X0.here hx rfl (pc0 := 192) (pc' := 197) rfl (hb hby d2_192) rfl (tlt hc192_1).2.2.1 (by decide) (by decide) ?_
        exact k
      exact bk2_197 hx hZ hw hby hml hown hnm hret hlk X0 N0 e0 i0
    · rw [if_neg hc192_1]
      refine Done.of (T' := T0) (g' := (mkF m 196 #[.val (.int i0)] [(.int (1 : Int32))])) (fun t k => ?_) ?_
      · show Steps p.tables e below (T0.setTop (mkF m 192 #[.val (.int i0)] [(.int (786429 : Int32)), (.int i0)])) t
        refine XS.icmpNo X0.here hx rfl (hb hby d2_192) rfl (flt hc192_1).2.2.1 ?_
        show Steps p.tables e below (T0.setTop (mkF m 195 #[.val (.int i0)] [])) t
        refine XS.iconst X0.here hx rfl (hb hby d2_195) ?_
        exact k
      exact doneN (t := .boolean) X0 (by simp) hx hret hlk (hb hby d2_196) ⟨rfl, N0, e0⟩ (by decide) (by decide)
def F2_169 (i0 : Int32) : Int32 := (if i0 < (655360 : Int32) then (F2_183 i0) else (if (720893 : Int32) < i0 then (F2_183 i0) else (1 : Int32)))
set_option maxRecDepth 65536 in
set_option maxHeartbeats 40000000 in
theorem bk2_169 {p : Program} {l : Launch} {e : Env} {s : State} {m : MethodId} {args : Array Value} {below : List Frame} {meth : Method} {c : Code} {T0 : State} {locs : List Loc} {Z : State} {a0 : Array Value} {h0 : Heap} {n0 : Nat}
    (hx : p.tables.exec = Jvm.exec) (hZ : Z.Warmed39 s.vm) (hw : ∀ d ∈ tables_1, d.before a0 Z = true) (hby : c.code = method_3_code) (hml : c.maxLocals = 1) (hown : s.vm.findClass "com/example/pilotfish/pilotfish/formats/UriReferencesIsUcscharPinLaw" = some m.cls) (hnm : meth.name = "ref") (hret : meth.sig.returnType = some .boolean) (hlk : meth.locks = false)
    (X0 : Stand p l e ({ frames := 0, cells := 0, slots := 0, locals := 0 } : Room) s m args below meth c T0 locs 0 0) (N0 : Fr n0 locs) (e0 : T0.heap = h0) (i0 : Int32) :
    Done p e below s ({ frames := 0, cells := 0, slots := 0, locals := 0 } : Room) (Qp h0 n0 (.int (F2_169 i0))) T0 (mkF m 169 #[.val (.int i0)] []) := by
  unfold F2_169
  refine Done.of (T' := T0) (g' := (mkF m 172 #[.val (.int i0)] [(.int (655360 : Int32)), (.int i0)])) (fun t k => ?_) ?_
  · show Steps p.tables e below (T0.setTop (mkF m 169 #[.val (.int i0)] [])) t
    refine XS.iloadN X0.here hx rfl (hb hby d2_169) rfl ?_
    show Steps p.tables e below (T0.setTop (mkF m 170 #[.val (.int i0)] [(.int i0)])) t
    refine X0.ldcInt hx hown (mvT hZ (hw _ (List.mem_of_getElem? (i := 40) rfl))) (g := (mkF m 170 #[.val (.int i0)] [(.int i0)])) rfl (hb hby d2_170) _ ?_
    exact k
  by_cases hc172_0 : i0 < (655360 : Int32)
  · rw [if_pos hc172_0]
    refine Done.of (T' := T0) (g' := (mkF m 183 #[.val (.int i0)] [])) (fun t k => ?_) ?_
    · show Steps p.tables e below (T0.setTop (mkF m 172 #[.val (.int i0)] [(.int (655360 : Int32)), (.int i0)])) t
      refine XS.icmpYes X0.here hx rfl (pc0 := 172) (pc' := 183) rfl (hb hby d2_172) rfl (tlt hc172_0).1 (by decide) (by decide) ?_
      exact k
    exact bk2_183 hx hZ hw hby hml hown hnm hret hlk X0 N0 e0 i0
  · rw [if_neg hc172_0]
    refine Done.of (T' := T0) (g' := (mkF m 178 #[.val (.int i0)] [(.int (720893 : Int32)), (.int i0)])) (fun t k => ?_) ?_
    · show Steps p.tables e below (T0.setTop (mkF m 172 #[.val (.int i0)] [(.int (655360 : Int32)), (.int i0)])) t
      refine XS.icmpNo X0.here hx rfl (hb hby d2_172) rfl (flt hc172_0).1 ?_
      show Steps p.tables e below (T0.setTop (mkF m 175 #[.val (.int i0)] [])) t
      refine XS.iloadN X0.here hx rfl (hb hby d2_175) rfl ?_
      show Steps p.tables e below (T0.setTop (mkF m 176 #[.val (.int i0)] [(.int i0)])) t
      refine X0.ldcInt hx hown (mvT hZ (hw _ (List.mem_of_getElem? (i := 58) rfl))) (g := (mkF m 176 #[.val (.int i0)] [(.int i0)])) rfl (hb hby d2_176) _ ?_
      exact k
    by_cases hc178_1 : (720893 : Int32) < i0
    · rw [if_pos hc178_1]
      refine Done.of (T' := T0) (g' := (mkF m 183 #[.val (.int i0)] [])) (fun t k => ?_) ?_
      · show Steps p.tables e below (T0.setTop (mkF m 178 #[.val (.int i0)] [(.int (720893 : Int32)), (.int i0)])) t
        refine XS.icmpYes X0.here hx rfl (pc0 := 178) (pc' := 183) rfl (hb hby d2_178) rfl (tlt hc178_1).2.2.1 (by decide) (by decide) ?_
        exact k
      exact bk2_183 hx hZ hw hby hml hown hnm hret hlk X0 N0 e0 i0
    · rw [if_neg hc178_1]
      refine Done.of (T' := T0) (g' := (mkF m 182 #[.val (.int i0)] [(.int (1 : Int32))])) (fun t k => ?_) ?_
      · show Steps p.tables e below (T0.setTop (mkF m 178 #[.val (.int i0)] [(.int (720893 : Int32)), (.int i0)])) t
        refine XS.icmpNo X0.here hx rfl (hb hby d2_178) rfl (flt hc178_1).2.2.1 ?_
        show Steps p.tables e below (T0.setTop (mkF m 181 #[.val (.int i0)] [])) t
        refine XS.iconst X0.here hx rfl (hb hby d2_181) ?_
        exact k
      exact doneN (t := .boolean) X0 (by simp) hx hret hlk (hb hby d2_182) ⟨rfl, N0, e0⟩ (by decide) (by decide)
def F2_155 (i0 : Int32) : Int32 := (if i0 < (589824 : Int32) then (F2_169 i0) else (if (655357 : Int32) < i0 then (F2_169 i0) else (1 : Int32)))
set_option maxRecDepth 65536 in
set_option maxHeartbeats 40000000 in
theorem bk2_155 {p : Program} {l : Launch} {e : Env} {s : State} {m : MethodId} {args : Array Value} {below : List Frame} {meth : Method} {c : Code} {T0 : State} {locs : List Loc} {Z : State} {a0 : Array Value} {h0 : Heap} {n0 : Nat}
    (hx : p.tables.exec = Jvm.exec) (hZ : Z.Warmed39 s.vm) (hw : ∀ d ∈ tables_1, d.before a0 Z = true) (hby : c.code = method_3_code) (hml : c.maxLocals = 1) (hown : s.vm.findClass "com/example/pilotfish/pilotfish/formats/UriReferencesIsUcscharPinLaw" = some m.cls) (hnm : meth.name = "ref") (hret : meth.sig.returnType = some .boolean) (hlk : meth.locks = false)
    (X0 : Stand p l e ({ frames := 0, cells := 0, slots := 0, locals := 0 } : Room) s m args below meth c T0 locs 0 0) (N0 : Fr n0 locs) (e0 : T0.heap = h0) (i0 : Int32) :
    Done p e below s ({ frames := 0, cells := 0, slots := 0, locals := 0 } : Room) (Qp h0 n0 (.int (F2_155 i0))) T0 (mkF m 155 #[.val (.int i0)] []) := by
  unfold F2_155
  refine Done.of (T' := T0) (g' := (mkF m 158 #[.val (.int i0)] [(.int (589824 : Int32)), (.int i0)])) (fun t k => ?_) ?_
  · show Steps p.tables e below (T0.setTop (mkF m 155 #[.val (.int i0)] [])) t
    refine XS.iloadN X0.here hx rfl (hb hby d2_155) rfl ?_
    show Steps p.tables e below (T0.setTop (mkF m 156 #[.val (.int i0)] [(.int i0)])) t
    refine X0.ldcInt hx hown (mvT hZ (hw _ (List.mem_of_getElem? (i := 39) rfl))) (g := (mkF m 156 #[.val (.int i0)] [(.int i0)])) rfl (hb hby d2_156) _ ?_
    exact k
  by_cases hc158_0 : i0 < (589824 : Int32)
  · rw [if_pos hc158_0]
    refine Done.of (T' := T0) (g' := (mkF m 169 #[.val (.int i0)] [])) (fun t k => ?_) ?_
    · show Steps p.tables e below (T0.setTop (mkF m 158 #[.val (.int i0)] [(.int (589824 : Int32)), (.int i0)])) t
      refine XS.icmpYes X0.here hx rfl (pc0 := 158) (pc' := 169) rfl (hb hby d2_158) rfl (tlt hc158_0).1 (by decide) (by decide) ?_
      exact k
    exact bk2_169 hx hZ hw hby hml hown hnm hret hlk X0 N0 e0 i0
  · rw [if_neg hc158_0]
    refine Done.of (T' := T0) (g' := (mkF m 164 #[.val (.int i0)] [(.int (655357 : Int32)), (.int i0)])) (fun t k => ?_) ?_
    · show Steps p.tables e below (T0.setTop (mkF m 158 #[.val (.int i0)] [(.int (589824 : Int32)), (.int i0)])) t
      refine XS.icmpNo X0.here hx rfl (hb hby d2_158) rfl (flt hc158_0).1 ?_
      show Steps p.tables e below (T0.setTop (mkF m 161 #[.val (.int i0)] [])) t
      refine XS.iloadN X0.here hx rfl (hb hby d2_161) rfl ?_
      show Steps p.tables e below (T0.setTop (mkF m 162 #[.val (.int i0)] [(.int i0)])) t
      refine X0.ldcInt hx hown (mvT hZ (hw _ (List.mem_of_getElem? (i := 57) rfl))) (g := (mkF m 162 #[.val (.int i0)] [(.int i0)])) rfl (hb hby d2_162) _ ?_
      exact k
    by_cases hc164_1 : (655357 : Int32) < i0
    · rw [if_pos hc164_1]
      refine Done.of (T' := T0) (g' := (mkF m 169 #[.val (.int i0)] [])) (fun t k => ?_) ?_
      · show Steps p.tables e below (T0.setTop (mkF m 164 #[.val (.int i0)] [(.int (655357 : Int32)), (.int i0)])) t
        refine XS.icmpYes X0.here hx rfl (pc0 := 164) (pc' := 169) rfl (hb hby d2_164) rfl (tlt hc164_1).2.2.1 (by decide) (by decide) ?_
        exact k
      exact bk2_169 hx hZ hw hby hml hown hnm hret hlk X0 N0 e0 i0
    · rw [if_neg hc164_1]
      refine Done.of (T' := T0) (g' := (mkF m 168 #[.val (.int i0)] [(.int (1 : Int32))])) (fun t k => ?_) ?_
      · show Steps p.tables e below (T0.setTop (mkF m 164 #[.val (.int i0)] [(.int (655357 : Int32)), (.int i0)])) t
        refine XS.icmpNo X0.here hx rfl (hb hby d2_164) rfl (flt hc164_1).2.2.1 ?_
        show Steps p.tables e below (T0.setTop (mkF m 167 #[.val (.int i0)] [])) t
        refine XS.iconst X0.here hx rfl (hb hby d2_167) ?_
        exact k
      exact doneN (t := .boolean) X0 (by simp) hx hret hlk (hb hby d2_168) ⟨rfl, N0, e0⟩ (by decide) (by decide)
def F2_141 (i0 : Int32) : Int32 := (if i0 < (524288 : Int32) then (F2_155 i0) else (if (589821 : Int32) < i0 then (F2_155 i0) else (1 : Int32)))
set_option maxRecDepth 65536 in
set_option maxHeartbeats 40000000 in
theorem bk2_141 {p : Program} {l : Launch} {e : Env} {s : State} {m : MethodId} {args : Array Value} {below : List Frame} {meth : Method} {c : Code} {T0 : State} {locs : List Loc} {Z : State} {a0 : Array Value} {h0 : Heap} {n0 : Nat}
    (hx : p.tables.exec = Jvm.exec) (hZ : Z.Warmed39 s.vm) (hw : ∀ d ∈ tables_1, d.before a0 Z = true) (hby : c.code = method_3_code) (hml : c.maxLocals = 1) (hown : s.vm.findClass "com/example/pilotfish/pilotfish/formats/UriReferencesIsUcscharPinLaw" = some m.cls) (hnm : meth.name = "ref") (hret : meth.sig.returnType = some .boolean) (hlk : meth.locks = false)
    (X0 : Stand p l e ({ frames := 0, cells := 0, slots := 0, locals := 0 } : Room) s m args below meth c T0 locs 0 0) (N0 : Fr n0 locs) (e0 : T0.heap = h0) (i0 : Int32) :
    Done p e below s ({ frames := 0, cells := 0, slots := 0, locals := 0 } : Room) (Qp h0 n0 (.int (F2_141 i0))) T0 (mkF m 141 #[.val (.int i0)] []) := by
  unfold F2_141
  refine Done.of (T' := T0) (g' := (mkF m 144 #[.val (.int i0)] [(.int (524288 : Int32)), (.int i0)])) (fun t k => ?_) ?_
  · show Steps p.tables e below (T0.setTop (mkF m 141 #[.val (.int i0)] [])) t
    refine XS.iloadN X0.here hx rfl (hb hby d2_141) rfl ?_
    show Steps p.tables e below (T0.setTop (mkF m 142 #[.val (.int i0)] [(.int i0)])) t
    refine X0.ldcInt hx hown (mvT hZ (hw _ (List.mem_of_getElem? (i := 38) rfl))) (g := (mkF m 142 #[.val (.int i0)] [(.int i0)])) rfl (hb hby d2_142) _ ?_
    exact k
  by_cases hc144_0 : i0 < (524288 : Int32)
  · rw [if_pos hc144_0]
    refine Done.of (T' := T0) (g' := (mkF m 155 #[.val (.int i0)] [])) (fun t k => ?_) ?_
    · show Steps p.tables e below (T0.setTop (mkF m 144 #[.val (.int i0)] [(.int (524288 : Int32)), (.int i0)])) t
      refine XS.icmpYes X0.here hx rfl (pc0 := 144) (pc' := 155) rfl (hb hby d2_144) rfl (tlt hc144_0).1 (by decide) (by decide) ?_
      exact k
    exact bk2_155 hx hZ hw hby hml hown hnm hret hlk X0 N0 e0 i0
  · rw [if_neg hc144_0]
    refine Done.of (T' := T0) (g' := (mkF m 150 #[.val (.int i0)] [(.int (589821 : Int32)), (.int i0)])) (fun t k => ?_) ?_
    · show Steps p.tables e below (T0.setTop (mkF m 144 #[.val (.int i0)] [(.int (524288 : Int32)), (.int i0)])) t
      refine XS.icmpNo X0.here hx rfl (hb hby d2_144) rfl (flt hc144_0).1 ?_
      show Steps p.tables e below (T0.setTop (mkF m 147 #[.val (.int i0)] [])) t
      refine XS.iloadN X0.here hx rfl (hb hby d2_147) rfl ?_
      show Steps p.tables e below (T0.setTop (mkF m 148 #[.val (.int i0)] [(.int i0)])) t
      refine X0.ldcInt hx hown (mvT hZ (hw _ (List.mem_of_getElem? (i := 56) rfl))) (g := (mkF m 148 #[.val (.int i0)] [(.int i0)])) rfl (hb hby d2_148) _ ?_
      exact k
    by_cases hc150_1 : (589821 : Int32) < i0
    · rw [if_pos hc150_1]
      refine Done.of (T' := T0) (g' := (mkF m 155 #[.val (.int i0)] [])) (fun t k => ?_) ?_
      · show Steps p.tables e below (T0.setTop (mkF m 150 #[.val (.int i0)] [(.int (589821 : Int32)), (.int i0)])) t
        refine XS.icmpYes X0.here hx rfl (pc0 := 150) (pc' := 155) rfl (hb hby d2_150) rfl (tlt hc150_1).2.2.1 (by decide) (by decide) ?_
        exact k
      exact bk2_155 hx hZ hw hby hml hown hnm hret hlk X0 N0 e0 i0
    · rw [if_neg hc150_1]
      refine Done.of (T' := T0) (g' := (mkF m 154 #[.val (.int i0)] [(.int (1 : Int32))])) (fun t k => ?_) ?_
      · show Steps p.tables e below (T0.setTop (mkF m 150 #[.val (.int i0)] [(.int (589821 : Int32)), (.int i0)])) t
        refine XS.icmpNo X0.here hx rfl (hb hby d2_150) rfl (flt hc150_1).2.2.1 ?_
        show Steps p.tables e below (T0.setTop (mkF m 153 #[.val (.int i0)] [])) t
        refine XS.iconst X0.here hx rfl (hb hby d2_153) ?_
        exact k
      exact doneN (t := .boolean) X0 (by simp) hx hret hlk (hb hby d2_154) ⟨rfl, N0, e0⟩ (by decide) (by decide)
def F2_127 (i0 : Int32) : Int32 := (if i0 < (458752 : Int32) then (F2_141 i0) else (if (524285 : Int32) < i0 then (F2_141 i0) else (1 : Int32)))
set_option maxRecDepth 65536 in
set_option maxHeartbeats 40000000 in
theorem bk2_127 {p : Program} {l : Launch} {e : Env} {s : State} {m : MethodId} {args : Array Value} {below : List Frame} {meth : Method} {c : Code} {T0 : State} {locs : List Loc} {Z : State} {a0 : Array Value} {h0 : Heap} {n0 : Nat}
    (hx : p.tables.exec = Jvm.exec) (hZ : Z.Warmed39 s.vm) (hw : ∀ d ∈ tables_1, d.before a0 Z = true) (hby : c.code = method_3_code) (hml : c.maxLocals = 1) (hown : s.vm.findClass "com/example/pilotfish/pilotfish/formats/UriReferencesIsUcscharPinLaw" = some m.cls) (hnm : meth.name = "ref") (hret : meth.sig.returnType = some .boolean) (hlk : meth.locks = false)
    (X0 : Stand p l e ({ frames := 0, cells := 0, slots := 0, locals := 0 } : Room) s m args below meth c T0 locs 0 0) (N0 : Fr n0 locs) (e0 : T0.heap = h0) (i0 : Int32) :
    Done p e below s ({ frames := 0, cells := 0, slots := 0, locals := 0 } : Room) (Qp h0 n0 (.int (F2_127 i0))) T0 (mkF m 127 #[.val (.int i0)] []) := by
  unfold F2_127
  refine Done.of (T' := T0) (g' := (mkF m 130 #[.val (.int i0)] [(.int (458752 : Int32)), (.int i0)])) (fun t k => ?_) ?_
  · show Steps p.tables e below (T0.setTop (mkF m 127 #[.val (.int i0)] [])) t
    refine XS.iloadN X0.here hx rfl (hb hby d2_127) rfl ?_
    show Steps p.tables e below (T0.setTop (mkF m 128 #[.val (.int i0)] [(.int i0)])) t
    refine X0.ldcInt hx hown (mvT hZ (hw _ (List.mem_of_getElem? (i := 37) rfl))) (g := (mkF m 128 #[.val (.int i0)] [(.int i0)])) rfl (hb hby d2_128) _ ?_
    exact k
  by_cases hc130_0 : i0 < (458752 : Int32)
  · rw [if_pos hc130_0]
    refine Done.of (T' := T0) (g' := (mkF m 141 #[.val (.int i0)] [])) (fun t k => ?_) ?_
    · show Steps p.tables e below (T0.setTop (mkF m 130 #[.val (.int i0)] [(.int (458752 : Int32)), (.int i0)])) t
      refine XS.icmpYes X0.here hx rfl (pc0 := 130) (pc' := 141) rfl (hb hby d2_130) rfl (tlt hc130_0).1 (by decide) (by decide) ?_
      exact k
    exact bk2_141 hx hZ hw hby hml hown hnm hret hlk X0 N0 e0 i0
  · rw [if_neg hc130_0]
    refine Done.of (T' := T0) (g' := (mkF m 136 #[.val (.int i0)] [(.int (524285 : Int32)), (.int i0)])) (fun t k => ?_) ?_
    · show Steps p.tables e below (T0.setTop (mkF m 130 #[.val (.int i0)] [(.int (458752 : Int32)), (.int i0)])) t
      refine XS.icmpNo X0.here hx rfl (hb hby d2_130) rfl (flt hc130_0).1 ?_
      show Steps p.tables e below (T0.setTop (mkF m 133 #[.val (.int i0)] [])) t
      refine XS.iloadN X0.here hx rfl (hb hby d2_133) rfl ?_
      show Steps p.tables e below (T0.setTop (mkF m 134 #[.val (.int i0)] [(.int i0)])) t
      refine X0.ldcInt hx hown (mvT hZ (hw _ (List.mem_of_getElem? (i := 55) rfl))) (g := (mkF m 134 #[.val (.int i0)] [(.int i0)])) rfl (hb hby d2_134) _ ?_
      exact k
    by_cases hc136_1 : (524285 : Int32) < i0
    · rw [if_pos hc136_1]
      refine Done.of (T' := T0) (g' := (mkF m 141 #[.val (.int i0)] [])) (fun t k => ?_) ?_
      · show Steps p.tables e below (T0.setTop (mkF m 136 #[.val (.int i0)] [(.int (524285 : Int32)), (.int i0)])) t
        refine XS.icmpYes X0.here hx rfl (pc0 := 136) (pc' := 141) rfl (hb hby d2_136) rfl (tlt hc136_1).2.2.1 (by decide) (by decide) ?_
        exact k
      exact bk2_141 hx hZ hw hby hml hown hnm hret hlk X0 N0 e0 i0
    · rw [if_neg hc136_1]
      refine Done.of (T' := T0) (g' := (mkF m 140 #[.val (.int i0)] [(.int (1 : Int32))])) (fun t k => ?_) ?_
      · show Steps p.tables e below (T0.setTop (mkF m 136 #[.val (.int i0)] [(.int (524285 : Int32)), (.int i0)])) t
        refine XS.icmpNo X0.here hx rfl (hb hby d2_136) rfl (flt hc136_1).2.2.1 ?_
        show Steps p.tables e below (T0.setTop (mkF m 139 #[.val (.int i0)] [])) t
        refine XS.iconst X0.here hx rfl (hb hby d2_139) ?_
        exact k
      exact doneN (t := .boolean) X0 (by simp) hx hret hlk (hb hby d2_140) ⟨rfl, N0, e0⟩ (by decide) (by decide)
def F2_113 (i0 : Int32) : Int32 := (if i0 < (393216 : Int32) then (F2_127 i0) else (if (458749 : Int32) < i0 then (F2_127 i0) else (1 : Int32)))
set_option maxRecDepth 65536 in
set_option maxHeartbeats 40000000 in
theorem bk2_113 {p : Program} {l : Launch} {e : Env} {s : State} {m : MethodId} {args : Array Value} {below : List Frame} {meth : Method} {c : Code} {T0 : State} {locs : List Loc} {Z : State} {a0 : Array Value} {h0 : Heap} {n0 : Nat}
    (hx : p.tables.exec = Jvm.exec) (hZ : Z.Warmed39 s.vm) (hw : ∀ d ∈ tables_1, d.before a0 Z = true) (hby : c.code = method_3_code) (hml : c.maxLocals = 1) (hown : s.vm.findClass "com/example/pilotfish/pilotfish/formats/UriReferencesIsUcscharPinLaw" = some m.cls) (hnm : meth.name = "ref") (hret : meth.sig.returnType = some .boolean) (hlk : meth.locks = false)
    (X0 : Stand p l e ({ frames := 0, cells := 0, slots := 0, locals := 0 } : Room) s m args below meth c T0 locs 0 0) (N0 : Fr n0 locs) (e0 : T0.heap = h0) (i0 : Int32) :
    Done p e below s ({ frames := 0, cells := 0, slots := 0, locals := 0 } : Room) (Qp h0 n0 (.int (F2_113 i0))) T0 (mkF m 113 #[.val (.int i0)] []) := by
  unfold F2_113
  refine Done.of (T' := T0) (g' := (mkF m 116 #[.val (.int i0)] [(.int (393216 : Int32)), (.int i0)])) (fun t k => ?_) ?_
  · show Steps p.tables e below (T0.setTop (mkF m 113 #[.val (.int i0)] [])) t
    refine XS.iloadN X0.here hx rfl (hb hby d2_113) rfl ?_
    show Steps p.tables e below (T0.setTop (mkF m 114 #[.val (.int i0)] [(.int i0)])) t
    refine X0.ldcInt hx hown (mvT hZ (hw _ (List.mem_of_getElem? (i := 36) rfl))) (g := (mkF m 114 #[.val (.int i0)] [(.int i0)])) rfl (hb hby d2_114) _ ?_
    exact k
  by_cases hc116_0 : i0 < (393216 : Int32)
  · rw [if_pos hc116_0]
    refine Done.of (T' := T0) (g' := (mkF m 127 #[.val (.int i0)] [])) (fun t k => ?_) ?_
    · show Steps p.tables e below (T0.setTop (mkF m 116 #[.val (.int i0)] [(.int (393216 : Int32)), (.int i0)])) t
      refine XS.icmpYes X0.here hx rfl (pc0 := 116) (pc' := 127) rfl (hb hby d2_116) rfl (tlt hc116_0).1 (by decide) (by decide) ?_
      exact k
    exact bk2_127 hx hZ hw hby hml hown hnm hret hlk X0 N0 e0 i0
  · rw [if_neg hc116_0]
    refine Done.of (T' := T0) (g' := (mkF m 122 #[.val (.int i0)] [(.int (458749 : Int32)), (.int i0)])) (fun t k => ?_) ?_
    · show Steps p.tables e below (T0.setTop (mkF m 116 #[.val (.int i0)] [(.int (393216 : Int32)), (.int i0)])) t
      refine XS.icmpNo X0.here hx rfl (hb hby d2_116) rfl (flt hc116_0).1 ?_
      show Steps p.tables e below (T0.setTop (mkF m 119 #[.val (.int i0)] [])) t
      refine XS.iloadN X0.here hx rfl (hb hby d2_119) rfl ?_
      show Steps p.tables e below (T0.setTop (mkF m 120 #[.val (.int i0)] [(.int i0)])) t
      refine X0.ldcInt hx hown (mvT hZ (hw _ (List.mem_of_getElem? (i := 54) rfl))) (g := (mkF m 120 #[.val (.int i0)] [(.int i0)])) rfl (hb hby d2_120) _ ?_
      exact k
    by_cases hc122_1 : (458749 : Int32) < i0
    · rw [if_pos hc122_1]
      refine Done.of (T' := T0) (g' := (mkF m 127 #[.val (.int i0)] [])) (fun t k => ?_) ?_
      · show Steps p.tables e below (T0.setTop (mkF m 122 #[.val (.int i0)] [(.int (458749 : Int32)), (.int i0)])) t
        refine XS.icmpYes X0.here hx rfl (pc0 := 122) (pc' := 127) rfl (hb hby d2_122) rfl (tlt hc122_1).2.2.1 (by decide) (by decide) ?_
        exact k
      exact bk2_127 hx hZ hw hby hml hown hnm hret hlk X0 N0 e0 i0
    · rw [if_neg hc122_1]
      refine Done.of (T' := T0) (g' := (mkF m 126 #[.val (.int i0)] [(.int (1 : Int32))])) (fun t k => ?_) ?_
      · show Steps p.tables e below (T0.setTop (mkF m 122 #[.val (.int i0)] [(.int (458749 : Int32)), (.int i0)])) t
        refine XS.icmpNo X0.here hx rfl (hb hby d2_122) rfl (flt hc122_1).2.2.1 ?_
        show Steps p.tables e below (T0.setTop (mkF m 125 #[.val (.int i0)] [])) t
        refine XS.iconst X0.here hx rfl (hb hby d2_125) ?_
        exact k
      exact doneN (t := .boolean) X0 (by simp) hx hret hlk (hb hby d2_126) ⟨rfl, N0, e0⟩ (by decide) (by decide)
def F2_99 (i0 : Int32) : Int32 := (if i0 < (327680 : Int32) then (F2_113 i0) else (if (393213 : Int32) < i0 then (F2_113 i0) else (1 : Int32)))
set_option maxRecDepth 65536 in
set_option maxHeartbeats 40000000 in
theorem bk2_99 {p : Program} {l : Launch} {e : Env} {s : State} {m : MethodId} {args : Array Value} {below : List Frame} {meth : Method} {c : Code} {T0 : State} {locs : List Loc} {Z : State} {a0 : Array Value} {h0 : Heap} {n0 : Nat}
    (hx : p.tables.exec = Jvm.exec) (hZ : Z.Warmed39 s.vm) (hw : ∀ d ∈ tables_1, d.before a0 Z = true) (hby : c.code = method_3_code) (hml : c.maxLocals = 1) (hown : s.vm.findClass "com/example/pilotfish/pilotfish/formats/UriReferencesIsUcscharPinLaw" = some m.cls) (hnm : meth.name = "ref") (hret : meth.sig.returnType = some .boolean) (hlk : meth.locks = false)
    (X0 : Stand p l e ({ frames := 0, cells := 0, slots := 0, locals := 0 } : Room) s m args below meth c T0 locs 0 0) (N0 : Fr n0 locs) (e0 : T0.heap = h0) (i0 : Int32) :
    Done p e below s ({ frames := 0, cells := 0, slots := 0, locals := 0 } : Room) (Qp h0 n0 (.int (F2_99 i0))) T0 (mkF m 99 #[.val (.int i0)] []) := by
  unfold F2_99
  refine Done.of (T' := T0) (g' := (mkF m 102 #[.val (.int i0)] [(.int (327680 : Int32)), (.int i0)])) (fun t k => ?_) ?_
  · show Steps p.tables e below (T0.setTop (mkF m 99 #[.val (.int i0)] [])) t
    refine XS.iloadN X0.here hx rfl (hb hby d2_99) rfl ?_
    show Steps p.tables e below (T0.setTop (mkF m 100 #[.val (.int i0)] [(.int i0)])) t
    refine X0.ldcInt hx hown (mvT hZ (hw _ (List.mem_of_getElem? (i := 35) rfl))) (g := (mkF m 100 #[.val (.int i0)] [(.int i0)])) rfl (hb hby d2_100) _ ?_
    exact k
  by_cases hc102_0 : i0 < (327680 : Int32)
  · rw [if_pos hc102_0]
    refine Done.of (T' := T0) (g' := (mkF m 113 #[.val (.int i0)] [])) (fun t k => ?_) ?_
    · show Steps p.tables e below (T0.setTop (mkF m 102 #[.val (.int i0)] [(.int (327680 : Int32)), (.int i0)])) t
      refine XS.icmpYes X0.here hx rfl (pc0 := 102) (pc' := 113) rfl (hb hby d2_102) rfl (tlt hc102_0).1 (by decide) (by decide) ?_
      exact k
    exact bk2_113 hx hZ hw hby hml hown hnm hret hlk X0 N0 e0 i0
  · rw [if_neg hc102_0]
    refine Done.of (T' := T0) (g' := (mkF m 108 #[.val (.int i0)] [(.int (393213 : Int32)), (.int i0)])) (fun t k => ?_) ?_
    · show Steps p.tables e below (T0.setTop (mkF m 102 #[.val (.int i0)] [(.int (327680 : Int32)), (.int i0)])) t
      refine XS.icmpNo X0.here hx rfl (hb hby d2_102) rfl (flt hc102_0).1 ?_
      show Steps p.tables e below (T0.setTop (mkF m 105 #[.val (.int i0)] [])) t
      refine XS.iloadN X0.here hx rfl (hb hby d2_105) rfl ?_
      show Steps p.tables e below (T0.setTop (mkF m 106 #[.val (.int i0)] [(.int i0)])) t
      refine X0.ldcInt hx hown (mvT hZ (hw _ (List.mem_of_getElem? (i := 53) rfl))) (g := (mkF m 106 #[.val (.int i0)] [(.int i0)])) rfl (hb hby d2_106) _ ?_
      exact k
    by_cases hc108_1 : (393213 : Int32) < i0
    · rw [if_pos hc108_1]
      refine Done.of (T' := T0) (g' := (mkF m 113 #[.val (.int i0)] [])) (fun t k => ?_) ?_
      · show Steps p.tables e below (T0.setTop (mkF m 108 #[.val (.int i0)] [(.int (393213 : Int32)), (.int i0)])) t
        refine XS.icmpYes X0.here hx rfl (pc0 := 108) (pc' := 113) rfl (hb hby d2_108) rfl (tlt hc108_1).2.2.1 (by decide) (by decide) ?_
        exact k
      exact bk2_113 hx hZ hw hby hml hown hnm hret hlk X0 N0 e0 i0
    · rw [if_neg hc108_1]
      refine Done.of (T' := T0) (g' := (mkF m 112 #[.val (.int i0)] [(.int (1 : Int32))])) (fun t k => ?_) ?_
      · show Steps p.tables e below (T0.setTop (mkF m 108 #[.val (.int i0)] [(.int (393213 : Int32)), (.int i0)])) t
        refine XS.icmpNo X0.here hx rfl (hb hby d2_108) rfl (flt hc108_1).2.2.1 ?_
        show Steps p.tables e below (T0.setTop (mkF m 111 #[.val (.int i0)] [])) t
        refine XS.iconst X0.here hx rfl (hb hby d2_111) ?_
        exact k
      exact doneN (t := .boolean) X0 (by simp) hx hret hlk (hb hby d2_112) ⟨rfl, N0, e0⟩ (by decide) (by decide)
def F2_85 (i0 : Int32) : Int32 := (if i0 < (262144 : Int32) then (F2_99 i0) else (if (327677 : Int32) < i0 then (F2_99 i0) else (1 : Int32)))
set_option maxRecDepth 65536 in
set_option maxHeartbeats 40000000 in
theorem bk2_85 {p : Program} {l : Launch} {e : Env} {s : State} {m : MethodId} {args : Array Value} {below : List Frame} {meth : Method} {c : Code} {T0 : State} {locs : List Loc} {Z : State} {a0 : Array Value} {h0 : Heap} {n0 : Nat}
    (hx : p.tables.exec = Jvm.exec) (hZ : Z.Warmed39 s.vm) (hw : ∀ d ∈ tables_1, d.before a0 Z = true) (hby : c.code = method_3_code) (hml : c.maxLocals = 1) (hown : s.vm.findClass "com/example/pilotfish/pilotfish/formats/UriReferencesIsUcscharPinLaw" = some m.cls) (hnm : meth.name = "ref") (hret : meth.sig.returnType = some .boolean) (hlk : meth.locks = false)
    (X0 : Stand p l e ({ frames := 0, cells := 0, slots := 0, locals := 0 } : Room) s m args below meth c T0 locs 0 0) (N0 : Fr n0 locs) (e0 : T0.heap = h0) (i0 : Int32) :
    Done p e below s ({ frames := 0, cells := 0, slots := 0, locals := 0 } : Room) (Qp h0 n0 (.int (F2_85 i0))) T0 (mkF m 85 #[.val (.int i0)] []) := by
  unfold F2_85
  refine Done.of (T' := T0) (g' := (mkF m 88 #[.val (.int i0)] [(.int (262144 : Int32)), (.int i0)])) (fun t k => ?_) ?_
  · show Steps p.tables e below (T0.setTop (mkF m 85 #[.val (.int i0)] [])) t
    refine XS.iloadN X0.here hx rfl (hb hby d2_85) rfl ?_
    show Steps p.tables e below (T0.setTop (mkF m 86 #[.val (.int i0)] [(.int i0)])) t
    refine X0.ldcInt hx hown (mvT hZ (hw _ (List.mem_of_getElem? (i := 34) rfl))) (g := (mkF m 86 #[.val (.int i0)] [(.int i0)])) rfl (hb hby d2_86) _ ?_
    exact k
  by_cases hc88_0 : i0 < (262144 : Int32)
  · rw [if_pos hc88_0]
    refine Done.of (T' := T0) (g' := (mkF m 99 #[.val (.int i0)] [])) (fun t k => ?_) ?_
    · show Steps p.tables e below (T0.setTop (mkF m 88 #[.val (.int i0)] [(.int (262144 : Int32)), (.int i0)])) t
      refine XS.icmpYes X0.here hx rfl (pc0 := 88) (pc' := 99) rfl (hb hby d2_88) rfl (tlt hc88_0).1 (by decide) (by decide) ?_
      exact k
    exact bk2_99 hx hZ hw hby hml hown hnm hret hlk X0 N0 e0 i0
  · rw [if_neg hc88_0]
    refine Done.of (T' := T0) (g' := (mkF m 94 #[.val (.int i0)] [(.int (327677 : Int32)), (.int i0)])) (fun t k => ?_) ?_
    · show Steps p.tables e below (T0.setTop (mkF m 88 #[.val (.int i0)] [(.int (262144 : Int32)), (.int i0)])) t
      refine XS.icmpNo X0.here hx rfl (hb hby d2_88) rfl (flt hc88_0).1 ?_
      show Steps p.tables e below (T0.setTop (mkF m 91 #[.val (.int i0)] [])) t
      refine XS.iloadN X0.here hx rfl (hb hby d2_91) rfl ?_
      show Steps p.tables e below (T0.setTop (mkF m 92 #[.val (.int i0)] [(.int i0)])) t
      refine X0.ldcInt hx hown (mvT hZ (hw _ (List.mem_of_getElem? (i := 52) rfl))) (g := (mkF m 92 #[.val (.int i0)] [(.int i0)])) rfl (hb hby d2_92) _ ?_
      exact k
    by_cases hc94_1 : (327677 : Int32) < i0
    · rw [if_pos hc94_1]
      refine Done.of (T' := T0) (g' := (mkF m 99 #[.val (.int i0)] [])) (fun t k => ?_) ?_
      · show Steps p.tables e below (T0.setTop (mkF m 94 #[.val (.int i0)] [(.int (327677 : Int32)), (.int i0)])) t
        refine XS.icmpYes X0.here hx rfl (pc0 := 94) (pc' := 99) rfl (hb hby d2_94) rfl (tlt hc94_1).2.2.1 (by decide) (by decide) ?_
        exact k
      exact bk2_99 hx hZ hw hby hml hown hnm hret hlk X0 N0 e0 i0
    · rw [if_neg hc94_1]
      refine Done.of (T' := T0) (g' := (mkF m 98 #[.val (.int i0)] [(.int (1 : Int32))])) (fun t k => ?_) ?_
      · show Steps p.tables e below (T0.setTop (mkF m 94 #[.val (.int i0)] [(.int (327677 : Int32)), (.int i0)])) t
        refine XS.icmpNo X0.here hx rfl (hb hby d2_94) rfl (flt hc94_1).2.2.1 ?_
        show Steps p.tables e below (T0.setTop (mkF m 97 #[.val (.int i0)] [])) t
        refine XS.iconst X0.here hx rfl (hb hby d2_97) ?_
        exact k
      exact doneN (t := .boolean) X0 (by simp) hx hret hlk (hb hby d2_98) ⟨rfl, N0, e0⟩ (by decide) (by decide)
def F2_71 (i0 : Int32) : Int32 := (if i0 < (196608 : Int32) then (F2_85 i0) else (if (262141 : Int32) < i0 then (F2_85 i0) else (1 : Int32)))
set_option maxRecDepth 65536 in
set_option maxHeartbeats 40000000 in
theorem bk2_71 {p : Program} {l : Launch} {e : Env} {s : State} {m : MethodId} {args : Array Value} {below : List Frame} {meth : Method} {c : Code} {T0 : State} {locs : List Loc} {Z : State} {a0 : Array Value} {h0 : Heap} {n0 : Nat}
    (hx : p.tables.exec = Jvm.exec) (hZ : Z.Warmed39 s.vm) (hw : ∀ d ∈ tables_1, d.before a0 Z = true) (hby : c.code = method_3_code) (hml : c.maxLocals = 1) (hown : s.vm.findClass "com/example/pilotfish/pilotfish/formats/UriReferencesIsUcscharPinLaw" = some m.cls) (hnm : meth.name = "ref") (hret : meth.sig.returnType = some .boolean) (hlk : meth.locks = false)
    (X0 : Stand p l e ({ frames := 0, cells := 0, slots := 0, locals := 0 } : Room) s m args below meth c T0 locs 0 0) (N0 : Fr n0 locs) (e0 : T0.heap = h0) (i0 : Int32) :
    Done p e below s ({ frames := 0, cells := 0, slots := 0, locals := 0 } : Room) (Qp h0 n0 (.int (F2_71 i0))) T0 (mkF m 71 #[.val (.int i0)] []) := by
  unfold F2_71
  refine Done.of (T' := T0) (g' := (mkF m 74 #[.val (.int i0)] [(.int (196608 : Int32)), (.int i0)])) (fun t k => ?_) ?_
  · show Steps p.tables e below (T0.setTop (mkF m 71 #[.val (.int i0)] [])) t
    refine XS.iloadN X0.here hx rfl (hb hby d2_71) rfl ?_
    show Steps p.tables e below (T0.setTop (mkF m 72 #[.val (.int i0)] [(.int i0)])) t
    refine X0.ldcInt hx hown (mvT hZ (hw _ (List.mem_of_getElem? (i := 10) rfl))) (g := (mkF m 72 #[.val (.int i0)] [(.int i0)])) rfl (hb hby d2_72) _ ?_
    exact k
  by_cases hc74_0 : i0 < (196608 : Int32)
  · rw [if_pos hc74_0]
    refine Done.of (T' := T0) (g' := (mkF m 85 #[.val (.int i0)] [])) (fun t k => ?_) ?_
    · show Steps p.tables e below (T0.setTop (mkF m 74 #[.val (.int i0)] [(.int (196608 : Int32)), (.int i0)])) t
      refine XS.icmpYes X0.here hx rfl (pc0 := 74) (pc' := 85) rfl (hb hby d2_74) rfl (tlt hc74_0).1 (by decide) (by decide) ?_
      exact k
    exact bk2_85 hx hZ hw hby hml hown hnm hret hlk X0 N0 e0 i0
  · rw [if_neg hc74_0]
    refine Done.of (T' := T0) (g' := (mkF m 80 #[.val (.int i0)] [(.int (262141 : Int32)), (.int i0)])) (fun t k => ?_) ?_
    · show Steps p.tables e below (T0.setTop (mkF m 74 #[.val (.int i0)] [(.int (196608 : Int32)), (.int i0)])) t
      refine XS.icmpNo X0.here hx rfl (hb hby d2_74) rfl (flt hc74_0).1 ?_
      show Steps p.tables e below (T0.setTop (mkF m 77 #[.val (.int i0)] [])) t
      refine XS.iloadN X0.here hx rfl (hb hby d2_77) rfl ?_
      show Steps p.tables e below (T0.setTop (mkF m 78 #[.val (.int i0)] [(.int i0)])) t
      refine X0.ldcInt hx hown (mvT hZ (hw _ (List.mem_of_getElem? (i := 51) rfl))) (g := (mkF m 78 #[.val (.int i0)] [(.int i0)])) rfl (hb hby d2_78) _ ?_
      exact k
    by_cases hc80_1 : (262141 : Int32) < i0
    · rw [if_pos hc80_1]
      refine Done.of (T' := T0) (g' := (mkF m 85 #[.val (.int i0)] [])) (fun t k => ?_) ?_
      · show Steps p.tables e below (T0.setTop (mkF m 80 #[.val (.int i0)] [(.int (262141 : Int32)), (.int i0)])) t
        refine XS.icmpYes X0.here hx rfl (pc0 := 80) (pc' := 85) rfl (hb hby d2_80) rfl (tlt hc80_1).2.2.1 (by decide) (by decide) ?_
        exact k
      exact bk2_85 hx hZ hw hby hml hown hnm hret hlk X0 N0 e0 i0
    · rw [if_neg hc80_1]
      refine Done.of (T' := T0) (g' := (mkF m 84 #[.val (.int i0)] [(.int (1 : Int32))])) (fun t k => ?_) ?_
      · show Steps p.tables e below (T0.setTop (mkF m 80 #[.val (.int i0)] [(.int (262141 : Int32)), (.int i0)])) t
        refine XS.icmpNo X0.here hx rfl (hb hby d2_80) rfl (flt hc80_1).2.2.1 ?_
        show Steps p.tables e below (T0.setTop (mkF m 83 #[.val (.int i0)] [])) t
        refine XS.iconst X0.here hx rfl (hb hby d2_83) ?_
        exact k
      exact doneN (t := .boolean) X0 (by simp) hx hret hlk (hb hby d2_84) ⟨rfl, N0, e0⟩ (by decide) (by decide)
def F2_57 (i0 : Int32) : Int32 := (if i0 < (131072 : Int32) then (F2_71 i0) else (if (196605 : Int32) < i0 then (F2_71 i0) else (1 : Int32)))
set_option maxRecDepth 65536 in
set_option maxHeartbeats 40000000 in
theorem bk2_57 {p : Program} {l : Launch} {e : Env} {s : State} {m : MethodId} {args : Array Value} {below : List Frame} {meth : Method} {c : Code} {T0 : State} {locs : List Loc} {Z : State} {a0 : Array Value} {h0 : Heap} {n0 : Nat}
    (hx : p.tables.exec = Jvm.exec) (hZ : Z.Warmed39 s.vm) (hw : ∀ d ∈ tables_1, d.before a0 Z = true) (hby : c.code = method_3_code) (hml : c.maxLocals = 1) (hown : s.vm.findClass "com/example/pilotfish/pilotfish/formats/UriReferencesIsUcscharPinLaw" = some m.cls) (hnm : meth.name = "ref") (hret : meth.sig.returnType = some .boolean) (hlk : meth.locks = false)
    (X0 : Stand p l e ({ frames := 0, cells := 0, slots := 0, locals := 0 } : Room) s m args below meth c T0 locs 0 0) (N0 : Fr n0 locs) (e0 : T0.heap = h0) (i0 : Int32) :
    Done p e below s ({ frames := 0, cells := 0, slots := 0, locals := 0 } : Room) (Qp h0 n0 (.int (F2_57 i0))) T0 (mkF m 57 #[.val (.int i0)] []) := by
  unfold F2_57
  refine Done.of (T' := T0) (g' := (mkF m 60 #[.val (.int i0)] [(.int (131072 : Int32)), (.int i0)])) (fun t k => ?_) ?_
  · show Steps p.tables e below (T0.setTop (mkF m 57 #[.val (.int i0)] [])) t
    refine XS.iloadN X0.here hx rfl (hb hby d2_57) rfl ?_
    show Steps p.tables e below (T0.setTop (mkF m 58 #[.val (.int i0)] [(.int i0)])) t
    refine X0.ldcInt hx hown (mvT hZ (hw _ (List.mem_of_getElem? (i := 8) rfl))) (g := (mkF m 58 #[.val (.int i0)] [(.int i0)])) rfl (hb hby d2_58) _ ?_
    exact k
  by_cases hc60_0 : i0 < (131072 : Int32)
  · rw [if_pos hc60_0]
    refine Done.of (T' := T0) (g' := (mkF m 71 #[.val (.int i0)] [])) (fun t k => ?_) ?_
    · show Steps p.tables e below (T0.setTop (mkF m 60 #[.val (.int i0)] [(.int (131072 : Int32)), (.int i0)])) t
      refine XS.icmpYes X0.here hx rfl (pc0 := 60) (pc' := 71) rfl (hb hby d2_60) rfl (tlt hc60_0).1 (by decide) (by decide) ?_
      exact k
    exact bk2_71 hx hZ hw hby hml hown hnm hret hlk X0 N0 e0 i0
  · rw [if_neg hc60_0]
    refine Done.of (T' := T0) (g' := (mkF m 66 #[.val (.int i0)] [(.int (196605 : Int32)), (.int i0)])) (fun t k => ?_) ?_
    · show Steps p.tables e below (T0.setTop (mkF m 60 #[.val (.int i0)] [(.int (131072 : Int32)), (.int i0)])) t
      refine XS.icmpNo X0.here hx rfl (hb hby d2_60) rfl (flt hc60_0).1 ?_
      show Steps p.tables e below (T0.setTop (mkF m 63 #[.val (.int i0)] [])) t
      refine XS.iloadN X0.here hx rfl (hb hby d2_63) rfl ?_
      show Steps p.tables e below (T0.setTop (mkF m 64 #[.val (.int i0)] [(.int i0)])) t
      refine X0.ldcInt hx hown (mvT hZ (hw _ (List.mem_of_getElem? (i := 50) rfl))) (g := (mkF m 64 #[.val (.int i0)] [(.int i0)])) rfl (hb hby d2_64) _ ?_
      exact k
    by_cases hc66_1 : (196605 : Int32) < i0
    · rw [if_pos hc66_1]
      refine Done.of (T' := T0) (g' := (mkF m 71 #[.val (.int i0)] [])) (fun t k => ?_) ?_
      · show Steps p.tables e below (T0.setTop (mkF m 66 #[.val (.int i0)] [(.int (196605 : Int32)), (.int i0)])) t
        refine XS.icmpYes X0.here hx rfl (pc0 := 66) (pc' := 71) rfl (hb hby d2_66) rfl (tlt hc66_1).2.2.1 (by decide) (by decide) ?_
        exact k
      exact bk2_71 hx hZ hw hby hml hown hnm hret hlk X0 N0 e0 i0
    · rw [if_neg hc66_1]
      refine Done.of (T' := T0) (g' := (mkF m 70 #[.val (.int i0)] [(.int (1 : Int32))])) (fun t k => ?_) ?_
      · show Steps p.tables e below (T0.setTop (mkF m 66 #[.val (.int i0)] [(.int (196605 : Int32)), (.int i0)])) t
        refine XS.icmpNo X0.here hx rfl (hb hby d2_66) rfl (flt hc66_1).2.2.1 ?_
        show Steps p.tables e below (T0.setTop (mkF m 69 #[.val (.int i0)] [])) t
        refine XS.iconst X0.here hx rfl (hb hby d2_69) ?_
        exact k
      exact doneN (t := .boolean) X0 (by simp) hx hret hlk (hb hby d2_70) ⟨rfl, N0, e0⟩ (by decide) (by decide)
def F2_43 (i0 : Int32) : Int32 := (if i0 < (65536 : Int32) then (F2_57 i0) else (if (131069 : Int32) < i0 then (F2_57 i0) else (1 : Int32)))
set_option maxRecDepth 65536 in
set_option maxHeartbeats 40000000 in
theorem bk2_43 {p : Program} {l : Launch} {e : Env} {s : State} {m : MethodId} {args : Array Value} {below : List Frame} {meth : Method} {c : Code} {T0 : State} {locs : List Loc} {Z : State} {a0 : Array Value} {h0 : Heap} {n0 : Nat}
    (hx : p.tables.exec = Jvm.exec) (hZ : Z.Warmed39 s.vm) (hw : ∀ d ∈ tables_1, d.before a0 Z = true) (hby : c.code = method_3_code) (hml : c.maxLocals = 1) (hown : s.vm.findClass "com/example/pilotfish/pilotfish/formats/UriReferencesIsUcscharPinLaw" = some m.cls) (hnm : meth.name = "ref") (hret : meth.sig.returnType = some .boolean) (hlk : meth.locks = false)
    (X0 : Stand p l e ({ frames := 0, cells := 0, slots := 0, locals := 0 } : Room) s m args below meth c T0 locs 0 0) (N0 : Fr n0 locs) (e0 : T0.heap = h0) (i0 : Int32) :
    Done p e below s ({ frames := 0, cells := 0, slots := 0, locals := 0 } : Room) (Qp h0 n0 (.int (F2_43 i0))) T0 (mkF m 43 #[.val (.int i0)] []) := by
  unfold F2_43
  refine Done.of (T' := T0) (g' := (mkF m 46 #[.val (.int i0)] [(.int (65536 : Int32)), (.int i0)])) (fun t k => ?_) ?_
  · show Steps p.tables e below (T0.setTop (mkF m 43 #[.val (.int i0)] [])) t
    refine XS.iloadN X0.here hx rfl (hb hby d2_43) rfl ?_
    show Steps p.tables e below (T0.setTop (mkF m 44 #[.val (.int i0)] [(.int i0)])) t
    refine X0.ldcInt hx hown (mvT hZ (hw _ (List.mem_of_getElem? (i := 6) rfl))) (g := (mkF m 44 #[.val (.int i0)] [(.int i0)])) rfl (hb hby d2_44) _ ?_
    exact k
  by_cases hc46_0 : i0 < (65536 : Int32)
  · rw [if_pos hc46_0]
    refine Done.of (T' := T0) (g' := (mkF m 57 #[.val (.int i0)] [])) (fun t k => ?_) ?_
    · show Steps p.tables e below (T0.setTop (mkF m 46 #[.val (.int i0)] [(.int (65536 : Int32)), (.int i0)])) t
      refine XS.icmpYes X0.here hx rfl (pc0 := 46) (pc' := 57) rfl (hb hby d2_46) rfl (tlt hc46_0).1 (by decide) (by decide) ?_
      exact k
    exact bk2_57 hx hZ hw hby hml hown hnm hret hlk X0 N0 e0 i0
  · rw [if_neg hc46_0]
    refine Done.of (T' := T0) (g' := (mkF m 52 #[.val (.int i0)] [(.int (131069 : Int32)), (.int i0)])) (fun t k => ?_) ?_
    · show Steps p.tables e below (T0.setTop (mkF m 46 #[.val (.int i0)] [(.int (65536 : Int32)), (.int i0)])) t
      refine XS.icmpNo X0.here hx rfl (hb hby d2_46) rfl (flt hc46_0).1 ?_
      show Steps p.tables e below (T0.setTop (mkF m 49 #[.val (.int i0)] [])) t
      refine XS.iloadN X0.here hx rfl (hb hby d2_49) rfl ?_
      show Steps p.tables e below (T0.setTop (mkF m 50 #[.val (.int i0)] [(.int i0)])) t
      refine X0.ldcInt hx hown (mvT hZ (hw _ (List.mem_of_getElem? (i := 49) rfl))) (g := (mkF m 50 #[.val (.int i0)] [(.int i0)])) rfl (hb hby d2_50) _ ?_
      exact k
    by_cases hc52_1 : (131069 : Int32) < i0
    · rw [if_pos hc52_1]
      refine Done.of (T' := T0) (g' := (mkF m 57 #[.val (.int i0)] [])) (fun t k => ?_) ?_
      · show Steps p.tables e below (T0.setTop (mkF m 52 #[.val (.int i0)] [(.int (131069 : Int32)), (.int i0)])) t
        refine XS.icmpYes X0.here hx rfl (pc0 := 52) (pc' := 57) rfl (hb hby d2_52) rfl (tlt hc52_1).2.2.1 (by decide) (by decide) ?_
        exact k
      exact bk2_57 hx hZ hw hby hml hown hnm hret hlk X0 N0 e0 i0
    · rw [if_neg hc52_1]
      refine Done.of (T' := T0) (g' := (mkF m 56 #[.val (.int i0)] [(.int (1 : Int32))])) (fun t k => ?_) ?_
      · show Steps p.tables e below (T0.setTop (mkF m 52 #[.val (.int i0)] [(.int (131069 : Int32)), (.int i0)])) t
        refine XS.icmpNo X0.here hx rfl (hb hby d2_52) rfl (flt hc52_1).2.2.1 ?_
        show Steps p.tables e below (T0.setTop (mkF m 55 #[.val (.int i0)] [])) t
        refine XS.iconst X0.here hx rfl (hb hby d2_55) ?_
        exact k
      exact doneN (t := .boolean) X0 (by simp) hx hret hlk (hb hby d2_56) ⟨rfl, N0, e0⟩ (by decide) (by decide)
def F2_29 (i0 : Int32) : Int32 := (if i0 < (65008 : Int32) then (F2_43 i0) else (if (65519 : Int32) < i0 then (F2_43 i0) else (1 : Int32)))
set_option maxRecDepth 65536 in
set_option maxHeartbeats 40000000 in
theorem bk2_29 {p : Program} {l : Launch} {e : Env} {s : State} {m : MethodId} {args : Array Value} {below : List Frame} {meth : Method} {c : Code} {T0 : State} {locs : List Loc} {Z : State} {a0 : Array Value} {h0 : Heap} {n0 : Nat}
    (hx : p.tables.exec = Jvm.exec) (hZ : Z.Warmed39 s.vm) (hw : ∀ d ∈ tables_1, d.before a0 Z = true) (hby : c.code = method_3_code) (hml : c.maxLocals = 1) (hown : s.vm.findClass "com/example/pilotfish/pilotfish/formats/UriReferencesIsUcscharPinLaw" = some m.cls) (hnm : meth.name = "ref") (hret : meth.sig.returnType = some .boolean) (hlk : meth.locks = false)
    (X0 : Stand p l e ({ frames := 0, cells := 0, slots := 0, locals := 0 } : Room) s m args below meth c T0 locs 0 0) (N0 : Fr n0 locs) (e0 : T0.heap = h0) (i0 : Int32) :
    Done p e below s ({ frames := 0, cells := 0, slots := 0, locals := 0 } : Room) (Qp h0 n0 (.int (F2_29 i0))) T0 (mkF m 29 #[.val (.int i0)] []) := by
  unfold F2_29
  refine Done.of (T' := T0) (g' := (mkF m 32 #[.val (.int i0)] [(.int (65008 : Int32)), (.int i0)])) (fun t k => ?_) ?_
  · show Steps p.tables e below (T0.setTop (mkF m 29 #[.val (.int i0)] [])) t
    refine XS.iloadN X0.here hx rfl (hb hby d2_29) rfl ?_
    show Steps p.tables e below (T0.setTop (mkF m 30 #[.val (.int i0)] [(.int i0)])) t
    refine X0.ldcInt hx hown (mvT hZ (hw _ (List.mem_of_getElem? (i := 4) rfl))) (g := (mkF m 30 #[.val (.int i0)] [(.int i0)])) rfl (hb hby d2_30) _ ?_
    exact k
  by_cases hc32_0 : i0 < (65008 : Int32)
  · rw [if_pos hc32_0]
    refine Done.of (T' := T0) (g' := (mkF m 43 #[.val (.int i0)] [])) (fun t k => ?_) ?_
    · show Steps p.tables e below (T0.setTop (mkF m 32 #[.val (.int i0)] [(.int (65008 : Int32)), (.int i0)])) t
      refine XS.icmpYes X0.here hx rfl (pc0 := 32) (pc' := 43) rfl (hb hby d2_32) rfl (tlt hc32_0).1 (by decide) (by decide) ?_
      exact k
    exact bk2_43 hx hZ hw hby hml hown hnm hret hlk X0 N0 e0 i0
  · rw [if_neg hc32_0]
    refine Done.of (T' := T0) (g' := (mkF m 38 #[.val (.int i0)] [(.int (65519 : Int32)), (.int i0)])) (fun t k => ?_) ?_
    · show Steps p.tables e below (T0.setTop (mkF m 32 #[.val (.int i0)] [(.int (65008 : Int32)), (.int i0)])) t
      refine XS.icmpNo X0.here hx rfl (hb hby d2_32) rfl (flt hc32_0).1 ?_
      show Steps p.tables e below (T0.setTop (mkF m 35 #[.val (.int i0)] [])) t
      refine XS.iloadN X0.here hx rfl (hb hby d2_35) rfl ?_
      show Steps p.tables e below (T0.setTop (mkF m 36 #[.val (.int i0)] [(.int i0)])) t
      refine X0.ldcInt hx hown (mvT hZ (hw _ (List.mem_of_getElem? (i := 48) rfl))) (g := (mkF m 36 #[.val (.int i0)] [(.int i0)])) rfl (hb hby d2_36) _ ?_
      exact k
    by_cases hc38_1 : (65519 : Int32) < i0
    · rw [if_pos hc38_1]
      refine Done.of (T' := T0) (g' := (mkF m 43 #[.val (.int i0)] [])) (fun t k => ?_) ?_
      · show Steps p.tables e below (T0.setTop (mkF m 38 #[.val (.int i0)] [(.int (65519 : Int32)), (.int i0)])) t
        refine XS.icmpYes X0.here hx rfl (pc0 := 38) (pc' := 43) rfl (hb hby d2_38) rfl (tlt hc38_1).2.2.1 (by decide) (by decide) ?_
        exact k
      exact bk2_43 hx hZ hw hby hml hown hnm hret hlk X0 N0 e0 i0
    · rw [if_neg hc38_1]
      refine Done.of (T' := T0) (g' := (mkF m 42 #[.val (.int i0)] [(.int (1 : Int32))])) (fun t k => ?_) ?_
      · show Steps p.tables e below (T0.setTop (mkF m 38 #[.val (.int i0)] [(.int (65519 : Int32)), (.int i0)])) t
        refine XS.icmpNo X0.here hx rfl (hb hby d2_38) rfl (flt hc38_1).2.2.1 ?_
        show Steps p.tables e below (T0.setTop (mkF m 41 #[.val (.int i0)] [])) t
        refine XS.iconst X0.here hx rfl (hb hby d2_41) ?_
        exact k
      exact doneN (t := .boolean) X0 (by simp) hx hret hlk (hb hby d2_42) ⟨rfl, N0, e0⟩ (by decide) (by decide)
def F2_15 (i0 : Int32) : Int32 := (if i0 < (63744 : Int32) then (F2_29 i0) else (if (64975 : Int32) < i0 then (F2_29 i0) else (1 : Int32)))
set_option maxRecDepth 65536 in
set_option maxHeartbeats 40000000 in
theorem bk2_15 {p : Program} {l : Launch} {e : Env} {s : State} {m : MethodId} {args : Array Value} {below : List Frame} {meth : Method} {c : Code} {T0 : State} {locs : List Loc} {Z : State} {a0 : Array Value} {h0 : Heap} {n0 : Nat}
    (hx : p.tables.exec = Jvm.exec) (hZ : Z.Warmed39 s.vm) (hw : ∀ d ∈ tables_1, d.before a0 Z = true) (hby : c.code = method_3_code) (hml : c.maxLocals = 1) (hown : s.vm.findClass "com/example/pilotfish/pilotfish/formats/UriReferencesIsUcscharPinLaw" = some m.cls) (hnm : meth.name = "ref") (hret : meth.sig.returnType = some .boolean) (hlk : meth.locks = false)
    (X0 : Stand p l e ({ frames := 0, cells := 0, slots := 0, locals := 0 } : Room) s m args below meth c T0 locs 0 0) (N0 : Fr n0 locs) (e0 : T0.heap = h0) (i0 : Int32) :
    Done p e below s ({ frames := 0, cells := 0, slots := 0, locals := 0 } : Room) (Qp h0 n0 (.int (F2_15 i0))) T0 (mkF m 15 #[.val (.int i0)] []) := by
  unfold F2_15
  refine Done.of (T' := T0) (g' := (mkF m 18 #[.val (.int i0)] [(.int (63744 : Int32)), (.int i0)])) (fun t k => ?_) ?_
  · show Steps p.tables e below (T0.setTop (mkF m 15 #[.val (.int i0)] [])) t
    refine XS.iloadN X0.here hx rfl (hb hby d2_15) rfl ?_
    show Steps p.tables e below (T0.setTop (mkF m 16 #[.val (.int i0)] [(.int i0)])) t
    refine X0.ldcInt hx hown (mvT hZ (hw _ (List.mem_of_getElem? (i := 2) rfl))) (g := (mkF m 16 #[.val (.int i0)] [(.int i0)])) rfl (hb hby d2_16) _ ?_
    exact k
  by_cases hc18_0 : i0 < (63744 : Int32)
  · rw [if_pos hc18_0]
    refine Done.of (T' := T0) (g' := (mkF m 29 #[.val (.int i0)] [])) (fun t k => ?_) ?_
    · show Steps p.tables e below (T0.setTop (mkF m 18 #[.val (.int i0)] [(.int (63744 : Int32)), (.int i0)])) t
      refine XS.icmpYes X0.here hx rfl (pc0 := 18) (pc' := 29) rfl (hb hby d2_18) rfl (tlt hc18_0).1 (by decide) (by decide) ?_
      exact k
    exact bk2_29 hx hZ hw hby hml hown hnm hret hlk X0 N0 e0 i0
  · rw [if_neg hc18_0]
    refine Done.of (T' := T0) (g' := (mkF m 24 #[.val (.int i0)] [(.int (64975 : Int32)), (.int i0)])) (fun t k => ?_) ?_
    · show Steps p.tables e below (T0.setTop (mkF m 18 #[.val (.int i0)] [(.int (63744 : Int32)), (.int i0)])) t
      refine XS.icmpNo X0.here hx rfl (hb hby d2_18) rfl (flt hc18_0).1 ?_
      show Steps p.tables e below (T0.setTop (mkF m 21 #[.val (.int i0)] [])) t
      refine XS.iloadN X0.here hx rfl (hb hby d2_21) rfl ?_
      show Steps p.tables e below (T0.setTop (mkF m 22 #[.val (.int i0)] [(.int i0)])) t
      refine X0.ldcInt hx hown (mvT hZ (hw _ (List.mem_of_getElem? (i := 47) rfl))) (g := (mkF m 22 #[.val (.int i0)] [(.int i0)])) rfl (hb hby d2_22) _ ?_
      exact k
    by_cases hc24_1 : (64975 : Int32) < i0
    · rw [if_pos hc24_1]
      refine Done.of (T' := T0) (g' := (mkF m 29 #[.val (.int i0)] [])) (fun t k => ?_) ?_
      · show Steps p.tables e below (T0.setTop (mkF m 24 #[.val (.int i0)] [(.int (64975 : Int32)), (.int i0)])) t
        refine XS.icmpYes X0.here hx rfl (pc0 := 24) (pc' := 29) rfl (hb hby d2_24) rfl (tlt hc24_1).2.2.1 (by decide) (by decide) ?_
        exact k
      exact bk2_29 hx hZ hw hby hml hown hnm hret hlk X0 N0 e0 i0
    · rw [if_neg hc24_1]
      refine Done.of (T' := T0) (g' := (mkF m 28 #[.val (.int i0)] [(.int (1 : Int32))])) (fun t k => ?_) ?_
      · show Steps p.tables e below (T0.setTop (mkF m 24 #[.val (.int i0)] [(.int (64975 : Int32)), (.int i0)])) t
        refine XS.icmpNo X0.here hx rfl (hb hby d2_24) rfl (flt hc24_1).2.2.1 ?_
        show Steps p.tables e below (T0.setTop (mkF m 27 #[.val (.int i0)] [])) t
        refine XS.iconst X0.here hx rfl (hb hby d2_27) ?_
        exact k
      exact doneN (t := .boolean) X0 (by simp) hx hret hlk (hb hby d2_28) ⟨rfl, N0, e0⟩ (by decide) (by decide)
def F2_0 (p1 : Int32) : Int32 := (if p1 < (160 : Int32) then (F2_15 p1) else (if (55295 : Int32) < p1 then (F2_15 p1) else (1 : Int32)))
set_option maxRecDepth 65536 in
set_option maxHeartbeats 40000000 in
theorem bk2_0 {p : Program} {l : Launch} {e : Env} {s : State} {m : MethodId} {args : Array Value} {below : List Frame} {meth : Method} {c : Code} {T0 : State} {locs : List Loc} {Z : State} {a0 : Array Value} {h0 : Heap} {n0 : Nat}
    (hx : p.tables.exec = Jvm.exec) (hZ : Z.Warmed39 s.vm) (hw : ∀ d ∈ tables_1, d.before a0 Z = true) (hby : c.code = method_3_code) (hml : c.maxLocals = 1) (hown : s.vm.findClass "com/example/pilotfish/pilotfish/formats/UriReferencesIsUcscharPinLaw" = some m.cls) (hnm : meth.name = "ref") (hret : meth.sig.returnType = some .boolean) (hlk : meth.locks = false)
    (X0 : Stand p l e ({ frames := 0, cells := 0, slots := 0, locals := 0 } : Room) s m args below meth c T0 locs 0 0) (N0 : Fr n0 locs) (e0 : T0.heap = h0) (p1 : Int32) :
    Done p e below s ({ frames := 0, cells := 0, slots := 0, locals := 0 } : Room) (Qp h0 n0 (.int (F2_0 p1))) T0 (mkF m 0 #[.val (.int p1)] []) := by
  unfold F2_0
  refine Done.of (T' := T0) (g' := (mkF m 4 #[.val (.int p1)] [(.int (160 : Int32)), (.int p1)])) (fun t k => ?_) ?_
  · show Steps p.tables e below (T0.setTop (mkF m 0 #[.val (.int p1)] [])) t
    refine XS.iloadN X0.here hx rfl (hb hby d2_0) rfl ?_
    show Steps p.tables e below (T0.setTop (mkF m 1 #[.val (.int p1)] [(.int p1)])) t
    refine XS.sipush X0.here hx rfl (hb hby d2_1) ?_
    exact k
  by_cases hc4_0 : p1 < (160 : Int32)
  · rw [if_pos hc4_0]
    refine Done.of (T' := T0) (g' := (mkF m 15 #[.val (.int p1)] [])) (fun t k => ?_) ?_
    · show Steps p.tables e below (T0.setTop (mkF m 4 #[.val (.int p1)] [(.int (160 : Int32)), (.int p1)])) t
      refine XS.icmpYes X0.here hx rfl (pc0 := 4) (pc' := 15) rfl (hb hby d2_4) rfl (tlt hc4_0).1 (by decide) (by decide) ?_
      exact k
    exact bk2_15 hx hZ hw hby hml hown hnm hret hlk X0 N0 e0 p1
  · rw [if_neg hc4_0]
    refine Done.of (T' := T0) (g' := (mkF m 10 #[.val (.int p1)] [(.int (55295 : Int32)), (.int p1)])) (fun t k => ?_) ?_
    · show Steps p.tables e below (T0.setTop (mkF m 4 #[.val (.int p1)] [(.int (160 : Int32)), (.int p1)])) t
      refine XS.icmpNo X0.here hx rfl (hb hby d2_4) rfl (flt hc4_0).1 ?_
      show Steps p.tables e below (T0.setTop (mkF m 7 #[.val (.int p1)] [])) t
      refine XS.iloadN X0.here hx rfl (hb hby d2_7) rfl ?_
      show Steps p.tables e below (T0.setTop (mkF m 8 #[.val (.int p1)] [(.int p1)])) t
      refine X0.ldcInt hx hown (mvT hZ (hw _ (List.mem_of_getElem? (i := 30) rfl))) (g := (mkF m 8 #[.val (.int p1)] [(.int p1)])) rfl (hb hby d2_8) _ ?_
      exact k
    by_cases hc10_1 : (55295 : Int32) < p1
    · rw [if_pos hc10_1]
      refine Done.of (T' := T0) (g' := (mkF m 15 #[.val (.int p1)] [])) (fun t k => ?_) ?_
      · show Steps p.tables e below (T0.setTop (mkF m 10 #[.val (.int p1)] [(.int (55295 : Int32)), (.int p1)])) t
        refine XS.icmpYes X0.here hx rfl (pc0 := 10) (pc' := 15) rfl (hb hby d2_10) rfl (tlt hc10_1).2.2.1 (by decide) (by decide) ?_
        exact k
      exact bk2_15 hx hZ hw hby hml hown hnm hret hlk X0 N0 e0 p1
    · rw [if_neg hc10_1]
      refine Done.of (T' := T0) (g' := (mkF m 14 #[.val (.int p1)] [(.int (1 : Int32))])) (fun t k => ?_) ?_
      · show Steps p.tables e below (T0.setTop (mkF m 10 #[.val (.int p1)] [(.int (55295 : Int32)), (.int p1)])) t
        refine XS.icmpNo X0.here hx rfl (hb hby d2_10) rfl (flt hc10_1).2.2.1 ?_
        show Steps p.tables e below (T0.setTop (mkF m 13 #[.val (.int p1)] [])) t
        refine XS.iconst X0.here hx rfl (hb hby d2_13) ?_
        exact k
      exact doneN (t := .boolean) X0 (by simp) hx hret hlk (hb hby d2_14) ⟨rfl, N0, e0⟩ (by decide) (by decide)
theorem ef_2 (m : MethodId) (p1 : Int32) : entryFrame m #[(.int p1)] 1 = mkF m 0 #[.val (.int p1)] [] := by first | (simp [entryFrame, mkF, argsToLocals, Value.category, maxLocals]; done) | rfl
theorem pn_2 : plainName "com/example/pilotfish/pilotfish/formats/UriReferencesIsUcscharPinLaw" = true := by first | (simp [plainName, overriddenIn]; done) | decide +kernel
set_option maxRecDepth 65536 in
set_option maxHeartbeats 40000000 in
theorem rm2 (l : Launch) (Z : State) (a0 : Array Value) (hw : ∀ d ∈ tables_1, d.before a0 Z = true) (ws : List Jvm.Cond) (p1 : Int32) (h0 : Heap) (n0 : Nat) :
    MetFree l (⟨"com/example/pilotfish/pilotfish/formats/UriReferencesIsUcscharPinLaw", "ref", "(I)Z"⟩ : MethodName) (head1 (Jvm.Cond.code (⟨"com/example/pilotfish/pilotfish/formats/UriReferencesIsUcscharPinLaw", "ref", "(I)Z"⟩ : MethodName) method_3_code 1 (some .boolean) :: ws) ({ frames := 0, cells := 0, slots := 0, locals := 0 } : Room)) (fun a U => a = #[(.int p1)] ∧ Z.Warmed39 U.vm ∧ U.heap = h0) (fun _ _ _ _ _ => True) (fun _ U o U' => ∃ v L, o = .returned v ∧ (Qp h0 n0 (.int (F2_0 p1))) v U'.heap L ∧ FrameEnd U o U' L ({ frames := 0, cells := 0, slots := 0, locals := 0 } : Room).cells ({ frames := 0, cells := 0, slots := 0, locals := 0 } : Room).slots) := by
  refine MetFree.of_bodySF (plainFor_of_name pn_2) hisR ?_
  intro p e s m args below meth c s₁ Bd hml0 hP hK
  obtain ⟨rfl, hZ, hh⟩ := hP
  have hown : s.vm.findClass "com/example/pilotfish/pilotfish/formats/UriReferencesIsUcscharPinLaw" = some m.cls := findClass_of_methodNamed Bd.named
  have hnm := (name_of_methodNamed Bd.named Bd.method).1
  have X0 : Stand p l e ({ frames := 0, cells := 0, slots := 0, locals := 0 } : Room) s m #[(.int p1)] below meth c s₁ [] 0 0 := Stand.of_body Bd
  have e0 : s₁.heap = h0 := by rw [← hh, Bd.state]; rfl
  have d := bk2_0 (n0 := n0) Bd.exec hZ hw Bd.bytes hml0 hown hnm Bd.returns (BodyLoose.notSynchronized Bd) X0 (Fr.nil n0) e0 p1
  have d2 : Done p e below s ({ frames := 0, cells := 0, slots := 0, locals := 0 } : Room) (Qp h0 n0 (.int (F2_0 p1))) s₁ (entryFrame m #[(.int p1)] 1) := by rw [ef_2]; exact d
  exact d2
def own_tab : List Int32 := [(160 : Int32), (55296 : Int32), (63744 : Int32), (64976 : Int32), (65008 : Int32), (65520 : Int32), (65536 : Int32), (131070 : Int32), (131072 : Int32), (196606 : Int32), (196608 : Int32), (524286 : Int32), (917502 : Int32), (917504 : Int32), (921600 : Int32), (983038 : Int32), (983040 : Int32), (1114110 : Int32), (1114112 : Int32), (0 : Int32), (2147483647 : Int32)]
theorem pd_0 : parseMethodDescriptor "(I)Z" = some ⟨[.int], some .boolean⟩ := by decide +kernel
theorem own_in (p2 : Int32) : ¬ (((((p2.toUInt32 >>> ((2 : Int32) &&& 31).toUInt32).toInt32) &&& (2147483647 : Int32)) % (21 : Int32)) < 0) ∧ ((((p2.toUInt32 >>> ((2 : Int32) &&& 31).toUInt32).toInt32) &&& (2147483647 : Int32)) % (21 : Int32)) < (21 : Int32) := by
  have m := c_and ((p2.toUInt32 >>> ((2 : Int32) &&& 31).toUInt32).toInt32) 2147483647 (by decide)
  have r := (c_irem (((p2.toUInt32 >>> ((2 : Int32) &&& 31).toUInt32).toInt32) &&& 2147483647) 21 21 rfl).1 m.1
  have l0 : (0 : Int32).toInt = 0 := rfl
  have l1 : (21 : Int32).toInt = 21 := rfl
  rw [Int32.lt_iff_toInt_lt, Int32.lt_iff_toInt_lt]; omega
def F0_189 (i0 : Int32) (i1 : Int32) (i2 : Int32) (i3 : Int32) : Int32 := (if (F1_0 i2) = (F2_0 i2) then (1 : Int32) else (0 : Int32))
set_option maxRecDepth 65536 in
set_option maxHeartbeats 40000000 in
theorem bk0_189 {p : Program} {l : Launch} {e : Env} {s : State} {m : MethodId} {args : Array Value} {below : List Frame} {meth : Method} {c : Code} {T0 : State} {locs : List Loc} {Z : State} {a0 : Array Value} {h0 : Heap} {n0 : Nat}
    (hx : p.tables.exec = Jvm.exec) (hZ : Z.Warmed39 s.vm) (hw : ∀ d ∈ tables_1, d.before a0 Z = true) (hby : c.code = code) (hml : c.maxLocals = 6) (hown : s.vm.findClass "com/example/pilotfish/pilotfish/formats/UriReferencesIsUcscharPinLaw" = some m.cls) (hnm : meth.name = "law") (hret : meth.sig.returnType = some .boolean) (hlk : meth.locks = false)
    (X0 : Stand p l e room_1 s m args below meth c T0 locs 1 21) (N0 : Fr n0 locs) (e0 : T0.heap = h0) (i0 : Int32) (i1 : Int32) (i2 : Int32) (i3 : Int32) (s4 : Slot) (s5 : Slot) (hs4 : One s4) (hs5 : One s5) (Z0 : n0 ≤ h0.size) :
    Done p e below s room_1 (Ql n0 (.int (F0_189 i0 i1 i2 i3))) T0 (mkF m 189 #[.val (.int i0), .val (.int i1), .val (.int i2), .val (.int i3), s4, s5] []) := by
  unfold F0_189
  refine Done.of (T' := T0) (g' := (mkF m 190 #[.val (.int i0), .val (.int i1), .val (.int i2), .val (.int i3), s4, s5] [(.int i2)])) (fun t k => ?_) ?_
  · show Steps p.tables e below (T0.setTop (mkF m 189 #[.val (.int i0), .val (.int i1), .val (.int i2), .val (.int i3), s4, s5] [])) t
    refine XS.iloadN X0.here hx rfl (hb hby at_189) rfl ?_
    exact k
  obtain ⟨_, _, ⟨T1, L1, k1, n1⟩, -, X1, ⟨Lc1, hQ1, l1, y1, z1⟩, st1⟩ := Jvm.LawKit.callS X0 hx (y := (⟨"com/example/pilotfish/pilotfish/formats/UriReferences", "isUcschar", "(I)Z"⟩ : MethodName)) hown (mvT hZ (hw _ (List.mem_of_getElem? (i := 20) rfl))) (mvT hZ (hw _ (List.mem_of_getElem? (i := 21) rfl))) (mvT hZ (hw _ (List.mem_of_getElem? (i := 22) rfl))) (mvT hZ (hw _ (List.mem_of_getElem? (i := 23) rfl))) (by decide) (backOf (W := 0) (rm1 l Z a0 hw [] i2 h0 n0) hZ (hw _ (List.mem_of_getElem? (i := 23) rfl)) (hw _ (List.mem_of_getElem? (i := 22) rfl)) (by decide) (by decide)) (g := (mkF m 190 #[.val (.int i0), .val (.int i1), .val (.int i2), .val (.int i3), s4, s5] [(.int i2)])) rfl (by rw [hml]; rfl) (argsL := [(.int i2)]) (rest := []) (lenOf pd_0 rfl) rfl (by show 2 * 0 + _ ≤ _; exact Nat.le_of_eq rfl) (hb hby at_190) (fun _ _ => ⟨rfl, e0, (by decide : 1 + 0 ≤ _), (by decide : 21 + 0 ≤ _)⟩)
  dsimp only [Pt.U, Pt.locs, Pt.cells, Pt.slots] at X1 l1 y1 z1 st1 hQ1
  subst l1 y1 z1
  obtain ⟨rfl, N1q, e1⟩ := hQ1
  have N1 := Fr.app N0 N1q
  replace X1 : Stand p l e room_1 s m args below meth c T1 _ 1 21 := X1
  refine Done.of (g' := (mkF m 193 #[.val (.int i0), .val (.int i1), .val (.int i2), .val (.int i3), s4, s5] [(.int (F1_0 i2))])) st1 ?_
  refine Done.of (T' := T1) (g' := (mkF m 194 #[.val (.int i0), .val (.int i1), .val (.int i2), .val (.int i3), s4, s5] [(.int i2), (.int (F1_0 i2))])) (fun t k => ?_) ?_
  · show Steps p.tables e below (T1.setTop (mkF m 193 #[.val (.int i0), .val (.int i1), .val (.int i2), .val (.int i3), s4, s5] [(.int (F1_0 i2))])) t
    refine XS.iloadN X1.here hx rfl (hb hby at_193) rfl ?_
    exact k
  obtain ⟨_, _, ⟨T2, L2, k2, n2⟩, -, X2, ⟨Lc2, hQ2, l2, y2, z2⟩, st2⟩ := Jvm.LawKit.callS X1 hx (y := (⟨"com/example/pilotfish/pilotfish/formats/UriReferencesIsUcscharPinLaw", "ref", "(I)Z"⟩ : MethodName)) hown (mvT hZ (hw _ (List.mem_of_getElem? (i := 26) rfl))) (mvT hZ (hw _ (List.mem_of_getElem? (i := 27) rfl))) (mvT hZ (hw _ (List.mem_of_getElem? (i := 28) rfl))) (mvT hZ (hw _ (List.mem_of_getElem? (i := 29) rfl))) (by decide) (backOf (W := 1) (rm2 l Z a0 hw [] i2 h0 n0) hZ (hw _ (List.mem_of_getElem? (i := 29) rfl)) (hw _ (List.mem_of_getElem? (i := 28) rfl)) (by decide) (by decide)) (g := (mkF m 194 #[.val (.int i0), .val (.int i1), .val (.int i2), .val (.int i3), s4, s5] [(.int i2), (.int (F1_0 i2))])) rfl (by rw [hml]; rfl) (argsL := [(.int i2)]) (rest := [(.int (F1_0 i2))]) (lenOf pd_0 rfl) rfl (by show 2 * 0 + _ ≤ _; exact Nat.le_of_eq rfl) (hb hby at_194) (fun _ _ => ⟨rfl, e1, (by decide : 1 + 0 ≤ _), (by decide : 21 + 0 ≤ _)⟩)
  dsimp only [Pt.U, Pt.locs, Pt.cells, Pt.slots] at X2 l2 y2 z2 st2 hQ2
  subst l2 y2 z2
  obtain ⟨rfl, N2q, e2⟩ := hQ2
  have N2 := Fr.app N1 N2q
  replace X2 : Stand p l e room_1 s m args below meth c T2 _ 1 21 := X2
  refine Done.of (g' := (mkF m 197 #[.val (.int i0), .val (.int i1), .val (.int i2), .val (.int i3), s4, s5] [(.int (F2_0 i2)), (.int (F1_0 i2))])) st2 ?_
  by_cases hc197_2 : (F1_0 i2) = (F2_0 i2)
  · rw [if_pos hc197_2]
    refine Done.of (T' := T2) (g' := (mkF m 205 #[.val (.int i0), .val (.int i1), .val (.int i2), .val (.int i3), s4, s5] [(.int (1 : Int32))])) (fun t k => ?_) ?_
    · show Steps p.tables e below (T2.setTop (mkF m 197 #[.val (.int i0), .val (.int i1), .val (.int i2), .val (.int i3), s4, s5] [(.int (F2_0 i2)), (.int (F1_0 i2))])) t
      refine XS.icmpNo X2.here hx rfl (hb hby at_197) rfl (teq hc197_2).2 ?_
      show Steps p.tables e below (T2.setTop (mkF m 200 #[.val (.int i0), .val (.int i1), .val (.int i2), .val (.int i3), s4, s5] [])) t
      refine XS.iconst X2.here hx rfl (hb hby at_200) ?_
      show Steps p.tables e below (T2.setTop (mkF m 201 #[.val (.int i0), .val (.int i1), .val (.int i2), .val (.int i3), s4, s5] [(.int (1 : Int32))])) t
      refine XS.goto X2.here hx rfl (pc0 := 201) (pc' := 205) rfl (hb hby at_201) (by decide) (by decide) ?_
      exact k
    exact doneN (t := .boolean) X2 (by simp) hx hret hlk (hb hby at_205) ⟨rfl, N2⟩ (by decide) (by decide)
  · rw [if_neg hc197_2]
    refine Done.of (T' := T2) (g' := (mkF m 205 #[.val (.int i0), .val (.int i1), .val (.int i2), .val (.int i3), s4, s5] [(.int (0 : Int32))])) (fun t k => ?_) ?_
    · show Steps p.tables e below (T2.setTop (mkF m 197 #[.val (.int i0), .val (.int i1), .val (.int i2), .val (.int i3), s4, s5] [(.int (F2_0 i2)), (.int (F1_0 i2))])) t
      refine XS.icmpYes X2.here hx rfl (pc0 := 197) (pc' := 204) rfl (hb hby at_197) rfl (feq hc197_2).2 (by decide) (by decide) ?_
      show Steps p.tables e below (T2.setTop (mkF m 204 #[.val (.int i0), .val (.int i1), .val (.int i2), .val (.int i3), s4, s5] [])) t
      refine XS.iconst X2.here hx rfl (hb hby at_204) ?_
      exact k
    exact doneN (t := .boolean) X2 (by simp) hx hret hlk (hb hby at_205) ⟨rfl, N2⟩ (by decide) (by decide)
def F0_0 (p1 : Int32) (p2 : Int32) : Int32 := (if (p2 &&& (3 : Int32)) = (0 : Int32) then (F0_189 p1 p2 p1 (p2 &&& (3 : Int32))) else (if (p2 &&& (3 : Int32)) = (1 : Int32) then (F0_189 p1 p2 (((((p1.toUInt32 >>> ((16 : Int32) &&& 31).toUInt32).toInt32) % (18 : Int32)) <<< ((16 : Int32) &&& 31)) ||| (p1 &&& (65535 : Int32))) (p2 &&& (3 : Int32))) else (F0_189 p1 p2 ((own_tab.getD (((((p2.toUInt32 >>> ((2 : Int32) &&& 31).toUInt32).toInt32) &&& (2147483647 : Int32)) % (21 : Int32))).toNatClampNeg 0) + (p1 % (3 : Int32))) (p2 &&& (3 : Int32)))))
set_option maxRecDepth 65536 in
set_option maxHeartbeats 40000000 in
theorem bk0_0 {p : Program} {l : Launch} {e : Env} {s : State} {m : MethodId} {args : Array Value} {below : List Frame} {meth : Method} {c : Code} {T0 : State} {locs : List Loc} {Z : State} {a0 : Array Value} {h0 : Heap} {n0 : Nat}
    (hx : p.tables.exec = Jvm.exec) (hZ : Z.Warmed39 s.vm) (hw : ∀ d ∈ tables_1, d.before a0 Z = true) (hby : c.code = code) (hml : c.maxLocals = 6) (hown : s.vm.findClass "com/example/pilotfish/pilotfish/formats/UriReferencesIsUcscharPinLaw" = some m.cls) (hnm : meth.name = "law") (hret : meth.sig.returnType = some .boolean) (hlk : meth.locks = false)
    (X0 : Stand p l e room_1 s m args below meth c T0 locs 0 0) (N0 : Fr n0 locs) (e0 : T0.heap = h0) (p1 : Int32) (p2 : Int32) (Z0 : n0 ≤ h0.size) :
    Done p e below s room_1 (Ql n0 (.int (F0_0 p1 p2))) T0 (mkF m 0 #[.val (.int p1), .val (.int p2), .unset, .unset, .unset, .unset] []) := by
  unfold F0_0
  refine Done.of (T' := T0) (g' := (mkF m 5 #[.val (.int p1), .val (.int p2), .unset, .val (.int (p2 &&& (3 : Int32))), .unset, .unset] [(.int (p2 &&& (3 : Int32)))])) (fun t k => ?_) ?_
  · show Steps p.tables e below (T0.setTop (mkF m 0 #[.val (.int p1), .val (.int p2), .unset, .unset, .unset, .unset] [])) t
    refine XS.iloadN X0.here hx rfl (hb hby at_0) rfl ?_
    show Steps p.tables e below (T0.setTop (mkF m 1 #[.val (.int p1), .val (.int p2), .unset, .unset, .unset, .unset] [(.int p2)])) t
    refine XS.iconst X0.here hx rfl (hb hby at_1) ?_
    show Steps p.tables e below (T0.setTop (mkF m 2 #[.val (.int p1), .val (.int p2), .unset, .unset, .unset, .unset] [(.int (3 : Int32)), (.int p2)])) t
    refine XS.iand X0.here hx rfl (hb hby at_2) rfl ?_
    show Steps p.tables e below (T0.setTop (mkF m 3 #[.val (.int p1), .val (.int p2), .unset, .unset, .unset, .unset] [(.int (p2 &&& (3 : Int32)))])) t
    refine XS.istoreN X0.here hx rfl (hb hby at_3) rfl (l' := #[.val (.int p1), .val (.int p2), .unset, .val (.int (p2 &&& (3 : Int32))), .unset, .unset]) rfl ?_
    show Steps p.tables e below (T0.setTop (mkF m 4 #[.val (.int p1), .val (.int p2), .unset, .val (.int (p2 &&& (3 : Int32))), .unset, .unset] [])) t
    refine XS.iloadN X0.here hx rfl (hb hby at_4) rfl ?_
    exact k
  by_cases hc5_0 : (p2 &&& (3 : Int32)) = (0 : Int32)
  · rw [if_pos hc5_0]
    refine Done.of (T' := T0) (g' := (mkF m 189 #[.val (.int p1), .val (.int p2), .val (.int p1), .val (.int (p2 &&& (3 : Int32))), .unset, .unset] [])) (fun t k => ?_) ?_
    · show Steps p.tables e below (T0.setTop (mkF m 5 #[.val (.int p1), .val (.int p2), .unset, .val (.int (p2 &&& (3 : Int32))), .unset, .unset] [(.int (p2 &&& (3 : Int32)))])) t
      refine XS.ifNo X0.here hx rfl (hb hby at_5) rfl ((if0 _ _).trans (teq hc5_0).2) ?_
      show Steps p.tables e below (T0.setTop (mkF m 8 #[.val (.int p1), .val (.int p2), .unset, .val (.int (p2 &&& (3 : Int32))), .unset, .unset] [])) t
      refine XS.iloadN X0.here hx rfl (hb hby at_8) rfl ?_
      show Steps p.tables e below (T0.setTop (mkF m 9 #[.val (.int p1), .val (.int p2), .unset, .val (.int (p2 &&& (3 : Int32))), .unset, .unset] [(.int p1)])) t
      refine XS.istoreN X0.here hx rfl (hb hby at_9) rfl (l' := #[.val (.int p1), .val (.int p2), .val (.int p1), .val (.int (p2 &&& (3 : Int32))), .unset, .unset]) rfl ?_
      show Steps p.tables e below (T0.setTop (mkF m 10 #[.val (.int p1), .val (.int p2), .val (.int p1), .val (.int (p2 &&& (3 : Int32))), .unset, .unset] [])) t
      refine XS.goto X0.here hx rfl (pc0 := 10) (pc' := 189) rfl (hb hby at_10) (by decide) (by decide) ?_
      exact k
    exact bk0_189 hx hZ hw hby hml hown hnm hret hlk (X0.more (by decide) (by decide)) N0 e0 p1 p2 p1 (p2 &&& (3 : Int32)) (.unset) (.unset) One.u One.u Z0
  · rw [if_neg hc5_0]
    refine Done.of (T' := T0) (g' := (mkF m 15 #[.val (.int p1), .val (.int p2), .unset, .val (.int (p2 &&& (3 : Int32))), .unset, .unset] [(.int (1 : Int32)), (.int (p2 &&& (3 : Int32)))])) (fun t k => ?_) ?_
    · show Steps p.tables e below (T0.setTop (mkF m 5 #[.val (.int p1), .val (.int p2), .unset, .val (.int (p2 &&& (3 : Int32))), .unset, .unset] [(.int (p2 &&& (3 : Int32)))])) t
      refine XS.ifYes X0.here hx rfl (pc0 := 5) (pc' := 13) rfl (hb hby at_5) rfl ((if0 _ _).trans (feq hc5_0).2) (by decide) (by decide) ?_
      show Steps p.tables e below (T0.setTop (mkF m 13 #[.val (.int p1), .val (.int p2), .unset, .val (.int (p2 &&& (3 : Int32))), .unset, .unset] [])) t
      refine XS.iloadN X0.here hx rfl (hb hby at_13) rfl ?_
      show Steps p.tables e below (T0.setTop (mkF m 14 #[.val (.int p1), .val (.int p2), .unset, .val (.int (p2 &&& (3 : Int32))), .unset, .unset] [(.int (p2 &&& (3 : Int32)))])) t
      refine XS.iconst X0.here hx rfl (hb hby at_14) ?_
      exact k
    by_cases hc15_1 : (p2 &&& (3 : Int32)) = (1 : Int32)
    · rw [if_pos hc15_1]
      refine Done.of (T' := T0) (g' := (mkF m 189 #[.val (.int p1), .val (.int p2), .val (.int (((((p1.toUInt32 >>> ((16 : Int32) &&& 31).toUInt32).toInt32) % (18 : Int32)) <<< ((16 : Int32) &&& 31)) ||| (p1 &&& (65535 : Int32)))), .val (.int (p2 &&& (3 : Int32))), .val (.int (((p1.toUInt32 >>> ((16 : Int32) &&& 31).toUInt32).toInt32) % (18 : Int32))), .unset] [])) (fun t k => ?_) ?_
      · show Steps p.tables e below (T0.setTop (mkF m 15 #[.val (.int p1), .val (.int p2), .unset, .val (.int (p2 &&& (3 : Int32))), .unset, .unset] [(.int (1 : Int32)), (.int (p2 &&& (3 : Int32)))])) t
        refine XS.icmpNo X0.here hx rfl (hb hby at_15) rfl (teq hc15_1).2 ?_
        show Steps p.tables e below (T0.setTop (mkF m 18 #[.val (.int p1), .val (.int p2), .unset, .val (.int (p2 &&& (3 : Int32))), .unset, .unset] [])) t
        refine XS.iloadN X0.here hx rfl (hb hby at_18) rfl ?_
        show Steps p.tables e below (T0.setTop (mkF m 19 #[.val (.int p1), .val (.int p2), .unset, .val (.int (p2 &&& (3 : Int32))), .unset, .unset] [(.int p1)])) t
        refine XS.bipush X0.here hx rfl (hb hby at_19) ?_
        show Steps p.tables e below (T0.setTop (mkF m 21 #[.val (.int p1), .val (.int p2), .unset, .val (.int (p2 &&& (3 : Int32))), .unset, .unset] [(.int (16 : Int32)), (.int p1)])) t
        refine XS.iushr X0.here hx rfl (hb hby at_21) rfl ?_
        show Steps p.tables e below (T0.setTop (mkF m 22 #[.val (.int p1), .val (.int p2), .unset, .val (.int (p2 &&& (3 : Int32))), .unset, .unset] [(.int ((p1.toUInt32 >>> ((16 : Int32) &&& 31).toUInt32).toInt32))])) t
        refine XS.bipush X0.here hx rfl (hb hby at_22) ?_
        show Steps p.tables e below (T0.setTop (mkF m 24 #[.val (.int p1), .val (.int p2), .unset, .val (.int (p2 &&& (3 : Int32))), .unset, .unset] [(.int (18 : Int32)), (.int ((p1.toUInt32 >>> ((16 : Int32) &&& 31).toUInt32).toInt32))])) t
        refine iremM X0 hx rfl (hb hby at_24) rfl (by decide) ?_
        show Steps p.tables e below (T0.setTop (mkF m 25 #[.val (.int p1), .val (.int p2), .unset, .val (.int (p2 &&& (3 : Int32))), .unset, .unset] [(.int (((p1.toUInt32 >>> ((16 : Int32) &&& 31).toUInt32).toInt32) % (18 : Int32)))])) t
        refine XS.istore X0.here hx rfl (hb hby at_25) rfl (l' := #[.val (.int p1), .val (.int p2), .unset, .val (.int (p2 &&& (3 : Int32))), .val (.int (((p1.toUInt32 >>> ((16 : Int32) &&& 31).toUInt32).toInt32) % (18 : Int32))), .unset]) rfl ?_
        show Steps p.tables e below (T0.setTop (mkF m 27 #[.val (.int p1), .val (.int p2), .unset, .val (.int (p2 &&& (3 : Int32))), .val (.int (((p1.toUInt32 >>> ((16 : Int32) &&& 31).toUInt32).toInt32) % (18 : Int32))), .unset] [])) t
        refine XS.iload X0.here hx rfl (hb hby at_27) rfl ?_
        show Steps p.tables e below (T0.setTop (mkF m 29 #[.val (.int p1), .val (.int p2), .unset, .val (.int (p2 &&& (3 : Int32))), .val (.int (((p1.toUInt32 >>> ((16 : Int32) &&& 31).toUInt32).toInt32) % (18 : Int32))), .unset] [(.int (((p1.toUInt32 >>> ((16 : Int32) &&& 31).toUInt32).toInt32) % (18 : Int32)))])) t
        refine XS.bipush X0.here hx rfl (hb hby at_29) ?_
        show Steps p.tables e below (T0.setTop (mkF m 31 #[.val (.int p1), .val (.int p2), .unset, .val (.int (p2 &&& (3 : Int32))), .val (.int (((p1.toUInt32 >>> ((16 : Int32) &&& 31).toUInt32).toInt32) % (18 : Int32))), .unset] [(.int (16 : Int32)), (.int (((p1.toUInt32 >>> ((16 : Int32) &&& 31).toUInt32).toInt32) % (18 : Int32)))])) t
        refine XS.ishl X0.here hx rfl (hb hby at_31) rfl ?_
        show Steps p.tables e below (T0.setTop (mkF m 32 #[.val (.int p1), .val (.int p2), .unset, .val (.int (p2 &&& (3 : Int32))), .val (.int (((p1.toUInt32 >>> ((16 : Int32) &&& 31).toUInt32).toInt32) % (18 : Int32))), .unset] [(.int ((((p1.toUInt32 >>> ((16 : Int32) &&& 31).toUInt32).toInt32) % (18 : Int32)) <<< ((16 : Int32) &&& 31)))])) t
        refine XS.iloadN X0.here hx rfl (hb hby at_32) rfl ?_
        show Steps p.tables e below (T0.setTop (mkF m 33 #[.val (.int p1), .val (.int p2), .unset, .val (.int (p2 &&& (3 : Int32))), .val (.int (((p1.toUInt32 >>> ((16 : Int32) &&& 31).toUInt32).toInt32) % (18 : Int32))), .unset] [(.int p1), (.int ((((p1.toUInt32 >>> ((16 : Int32) &&& 31).toUInt32).toInt32) % (18 : Int32)) <<< ((16 : Int32) &&& 31)))])) t
        refine X0.ldcInt hx hown (mvT hZ (hw _ (List.mem_of_getElem? (i := 31) rfl))) (g := (mkF m 33 #[.val (.int p1), .val (.int p2), .unset, .val (.int (p2 &&& (3 : Int32))), .val (.int (((p1.toUInt32 >>> ((16 : Int32) &&& 31).toUInt32).toInt32) % (18 : Int32))), .unset] [(.int p1), (.int ((((p1.toUInt32 >>> ((16 : Int32) &&& 31).toUInt32).toInt32) % (18 : Int32)) <<< ((16 : Int32) &&& 31)))])) rfl (hb hby at_33) _ ?_
        show Steps p.tables e below (T0.setTop (mkF m 35 #[.val (.int p1), .val (.int p2), .unset, .val (.int (p2 &&& (3 : Int32))), .val (.int (((p1.toUInt32 >>> ((16 : Int32) &&& 31).toUInt32).toInt32) % (18 : Int32))), .unset] [(.int (65535 : Int32)), (.int p1), (.int ((((p1.toUInt32 >>> ((16 : Int32) &&& 31).toUInt32).toInt32) % (18 : Int32)) <<< ((16 : Int32) &&& 31)))])) t
        refine XS.iand X0.here hx rfl (hb hby at_35) rfl ?_
        show Steps p.tables e below (T0.setTop (mkF m 36 #[.val (.int p1), .val (.int p2), .unset, .val (.int (p2 &&& (3 : Int32))), .val (.int (((p1.toUInt32 >>> ((16 : Int32) &&& 31).toUInt32).toInt32) % (18 : Int32))), .unset] [(.int (p1 &&& (65535 : Int32))), (.int ((((p1.toUInt32 >>> ((16 : Int32) &&& 31).toUInt32).toInt32) % (18 : Int32)) <<< ((16 : Int32) &&& 31)))])) t
        refine XS.ior X0.here hx rfl (hb hby at_36) rfl ?_
        show Steps p.tables e below (T0.setTop (mkF m 37 #[.val (.int p1), .val (.int p2), .unset, .val (.int (p2 &&& (3 : Int32))), .val (.int (((p1.toUInt32 >>> ((16 : Int32) &&& 31).toUInt32).toInt32) % (18 : Int32))), .unset] [(.int (((((p1.toUInt32 >>> ((16 : Int32) &&& 31).toUInt32).toInt32) % (18 : Int32)) <<< ((16 : Int32) &&& 31)) ||| (p1 &&& (65535 : Int32))))])) t
        refine XS.istoreN X0.here hx rfl (hb hby at_37) rfl (l' := #[.val (.int p1), .val (.int p2), .val (.int (((((p1.toUInt32 >>> ((16 : Int32) &&& 31).toUInt32).toInt32) % (18 : Int32)) <<< ((16 : Int32) &&& 31)) ||| (p1 &&& (65535 : Int32)))), .val (.int (p2 &&& (3 : Int32))), .val (.int (((p1.toUInt32 >>> ((16 : Int32) &&& 31).toUInt32).toInt32) % (18 : Int32))), .unset]) rfl ?_
        show Steps p.tables e below (T0.setTop (mkF m 38 #[.val (.int p1), .val (.int p2), .val (.int (((((p1.toUInt32 >>> ((16 : Int32) &&& 31).toUInt32).toInt32) % (18 : Int32)) <<< ((16 : Int32) &&& 31)) ||| (p1 &&& (65535 : Int32)))), .val (.int (p2 &&& (3 : Int32))), .val (.int (((p1.toUInt32 >>> ((16 : Int32) &&& 31).toUInt32).toInt32) % (18 : Int32))), .unset] [])) t
        refine XS.goto X0.here hx rfl (pc0 := 38) (pc' := 189) rfl (hb hby at_38) (by decide) (by decide) ?_
        exact k
      exact bk0_189 hx hZ hw hby hml hown hnm hret hlk (X0.more (by decide) (by decide)) N0 e0 p1 p2 (((((p1.toUInt32 >>> ((16 : Int32) &&& 31).toUInt32).toInt32) % (18 : Int32)) <<< ((16 : Int32) &&& 31)) ||| (p1 &&& (65535 : Int32))) (p2 &&& (3 : Int32)) (.val (.int (((p1.toUInt32 >>> ((16 : Int32) &&& 31).toUInt32).toInt32) % (18 : Int32)))) (.unset) (One.val rfl) One.u Z0
    · rw [if_neg hc15_1]
      refine Done.of (T' := T0) (g' := (mkF m 43 #[.val (.int p1), .val (.int p2), .unset, .val (.int (p2 &&& (3 : Int32))), .unset, .unset] [(.int (21 : Int32))])) (fun t k => ?_) ?_
      · show Steps p.tables e below (T0.setTop (mkF m 15 #[.val (.int p1), .val (.int p2), .unset, .val (.int (p2 &&& (3 : Int32))), .unset, .unset] [(.int (1 : Int32)), (.int (p2 &&& (3 : Int32)))])) t
        refine XS.icmpYes X0.here hx rfl (pc0 := 15) (pc' := 41) rfl (hb hby at_15) rfl (feq hc15_1).2 (by decide) (by decide) ?_
        show Steps p.tables e below (T0.setTop (mkF m 41 #[.val (.int p1), .val (.int p2), .unset, .val (.int (p2 &&& (3 : Int32))), .unset, .unset] [])) t
        refine XS.bipush X0.here hx rfl (hb hby at_41) ?_
        exact k
      obtain ⟨T3, h3, k3, X3, e3, E3, A3, st3⟩ := newP X0 hx hZ (hw _ (List.mem_of_getElem? (i := 0) rfl)) e0 (g := (mkF m 43 #[.val (.int p1), .val (.int p2), .unset, .val (.int (p2 &&& (3 : Int32))), .unset, .unset] [(.int (21 : Int32))])) rfl (hb hby at_43) rfl (by decide) (cap := 21) (by decide) (by decide) (by decide) (by decide)
      obtain ⟨b3, g3⟩ : ∃ z, z = h0.size := ⟨_, rfl⟩
      rw [← g3] at A3 st3
      have V3 : Arv Z h3 b3 k3 .int (21 : Int32) [(.int (0 : Int32)), (.int (0 : Int32)), (.int (0 : Int32)), (.int (0 : Int32)), (.int (0 : Int32)), (.int (0 : Int32)), (.int (0 : Int32)), (.int (0 : Int32)), (.int (0 : Int32)), (.int (0 : Int32)), (.int (0 : Int32)), (.int (0 : Int32)), (.int (0 : Int32)), (.int (0 : Int32)), (.int (0 : Int32)), (.int (0 : Int32)), (.int (0 : Int32)), (.int (0 : Int32)), (.int (0 : Int32)), (.int (0 : Int32)), (.int (0 : Int32))] (.int (0 : Int32)) := (Arv.new A3 (by decide)).pad (pad_rep [] (.int (0 : Int32)) 21)
      have g_b3 : n0 ≤ b3 := Nat.le_trans Z0 (Nat.le_of_eq g3.symm)
      refine Done.of (g' := (mkF m 45 #[.val (.int p1), .val (.int p2), .unset, .val (.int (p2 &&& (3 : Int32))), .unset, .unset] [(.ref b3)])) st3 ?_
      refine Done.of (T' := T3) (g' := (mkF m 50 #[.val (.int p1), .val (.int p2), .unset, .val (.int (p2 &&& (3 : Int32))), .unset, .unset] [(.int (160 : Int32)), (.int (0 : Int32)), (.ref b3), (.ref b3)])) (fun t k => ?_) ?_
      · show Steps p.tables e below (T3.setTop (mkF m 45 #[.val (.int p1), .val (.int p2), .unset, .val (.int (p2 &&& (3 : Int32))), .unset, .unset] [(.ref b3)])) t
        refine XS.dup X3.here hx rfl (hb hby at_45) rfl rfl ?_
        show Steps p.tables e below (T3.setTop (mkF m 46 #[.val (.int p1), .val (.int p2), .unset, .val (.int (p2 &&& (3 : Int32))), .unset, .unset] [(.ref b3), (.ref b3)])) t
        refine XS.iconst X3.here hx rfl (hb hby at_46) ?_
        show Steps p.tables e below (T3.setTop (mkF m 47 #[.val (.int p1), .val (.int p2), .unset, .val (.int (p2 &&& (3 : Int32))), .unset, .unset] [(.int (0 : Int32)), (.ref b3), (.ref b3)])) t
        refine XS.sipush X3.here hx rfl (hb hby at_47) ?_
        exact k
      obtain ⟨cl_o5, Ar_o5, q_o5, S_o5, Nn_o5, H_o5, G_o5⟩ := id V3
      have hin4 : ¬ ((0 : Int32) < 0 ∨ cl_o5.slots.size ≤ ((0 : Int32)).toNatClampNeg) := inb_of S_o5 ⟨by decide, by decide⟩
      obtain ⟨T4, h4, X4, e4, W4, st4⟩ := stI X3 hx hZ e3 Ar_o5 (j := (0 : Int32)) hin4 (g := (mkF m 50 #[.val (.int p1), .val (.int p2), .unset, .val (.int (p2 &&& (3 : Int32))), .unset, .unset] [(.int (160 : Int32)), (.int (0 : Int32)), (.ref b3), (.ref b3)])) rfl rfl (hb hby at_50)
      have V4 : Arv Z h4 b3 k3 .int (21 : Int32) [(.int (160 : Int32)), (.int (0 : Int32)), (.int (0 : Int32)), (.int (0 : Int32)), (.int (0 : Int32)), (.int (0 : Int32)), (.int (0 : Int32)), (.int (0 : Int32)), (.int (0 : Int32)), (.int (0 : Int32)), (.int (0 : Int32)), (.int (0 : Int32)), (.int (0 : Int32)), (.int (0 : Int32)), (.int (0 : Int32)), (.int (0 : Int32)), (.int (0 : Int32)), (.int (0 : Int32)), (.int (0 : Int32)), (.int (0 : Int32)), (.int (0 : Int32))] (.int (0 : Int32)) := Arv.set Ar_o5 q_o5 S_o5 Nn_o5 H_o5 G_o5 rfl W4 0 rfl (Nat.le_of_ble_eq_true rfl)
      have N4 := Fr.snoc X4 N0 g_b3
      refine Done.of (g' := (mkF m 51 #[.val (.int p1), .val (.int p2), .unset, .val (.int (p2 &&& (3 : Int32))), .unset, .unset] [(.ref b3)])) st4 ?_
      refine Done.of (T' := T4) (g' := (mkF m 55 #[.val (.int p1), .val (.int p2), .unset, .val (.int (p2 &&& (3 : Int32))), .unset, .unset] [(.int (55296 : Int32)), (.int (1 : Int32)), (.ref b3), (.ref b3)])) (fun t k => ?_) ?_
      · show Steps p.tables e below (T4.setTop (mkF m 51 #[.val (.int p1), .val (.int p2), .unset, .val (.int (p2 &&& (3 : Int32))), .unset, .unset] [(.ref b3)])) t
        refine XS.dup X4.here hx rfl (hb hby at_51) rfl rfl ?_
        show Steps p.tables e below (T4.setTop (mkF m 52 #[.val (.int p1), .val (.int p2), .unset, .val (.int (p2 &&& (3 : Int32))), .unset, .unset] [(.ref b3), (.ref b3)])) t
        refine XS.iconst X4.here hx rfl (hb hby at_52) ?_
        show Steps p.tables e below (T4.setTop (mkF m 53 #[.val (.int p1), .val (.int p2), .unset, .val (.int (p2 &&& (3 : Int32))), .unset, .unset] [(.int (1 : Int32)), (.ref b3), (.ref b3)])) t
        refine X4.ldcInt hx hown (mvT hZ (hw _ (List.mem_of_getElem? (i := 1) rfl))) (g := (mkF m 53 #[.val (.int p1), .val (.int p2), .unset, .val (.int (p2 &&& (3 : Int32))), .unset, .unset] [(.int (1 : Int32)), (.ref b3), (.ref b3)])) rfl (hb hby at_53) _ ?_
        exact k
      obtain ⟨cl_o7, Ar_o7, q_o7, S_o7, Nn_o7, H_o7, G_o7⟩ := id V4
      have hin6 : ¬ ((1 : Int32) < 0 ∨ cl_o7.slots.size ≤ ((1 : Int32)).toNatClampNeg) := inb_of S_o7 ⟨by decide, by decide⟩
      obtain ⟨T6, h6, X6, e6, W6, st6⟩ := stI X4 hx hZ e4 Ar_o7 (j := (1 : Int32)) hin6 (g := (mkF m 55 #[.val (.int p1), .val (.int p2), .unset, .val (.int (p2 &&& (3 : Int32))), .unset, .unset] [(.int (55296 : Int32)), (.int (1 : Int32)), (.ref b3), (.ref b3)])) rfl rfl (hb hby at_55)
      have V6 : Arv Z h6 b3 k3 .int (21 : Int32) [(.int (160 : Int32)), (.int (55296 : Int32)), (.int (0 : Int32)), (.int (0 : Int32)), (.int (0 : Int32)), (.int (0 : Int32)), (.int (0 : Int32)), (.int (0 : Int32)), (.int (0 : Int32)), (.int (0 : Int32)), (.int (0 : Int32)), (.int (0 : Int32)), (.int (0 : Int32)), (.int (0 : Int32)), (.int (0 : Int32)), (.int (0 : Int32)), (.int (0 : Int32)), (.int (0 : Int32)), (.int (0 : Int32)), (.int (0 : Int32)), (.int (0 : Int32))] (.int (0 : Int32)) := Arv.set Ar_o7 q_o7 S_o7 Nn_o7 H_o7 G_o7 rfl W6 1 rfl (Nat.le_of_ble_eq_true rfl)
      have N6 := Fr.snoc X6 N4 g_b3
      refine Done.of (g' := (mkF m 56 #[.val (.int p1), .val (.int p2), .unset, .val (.int (p2 &&& (3 : Int32))), .unset, .unset] [(.ref b3)])) st6 ?_
      refine Done.of (T' := T6) (g' := (mkF m 60 #[.val (.int p1), .val (.int p2), .unset, .val (.int (p2 &&& (3 : Int32))), .unset, .unset] [(.int (63744 : Int32)), (.int (2 : Int32)), (.ref b3), (.ref b3)])) (fun t k => ?_) ?_
      · show Steps p.tables e below (T6.setTop (mkF m 56 #[.val (.int p1), .val (.int p2), .unset, .val (.int (p2 &&& (3 : Int32))), .unset, .unset] [(.ref b3)])) t
        refine XS.dup X6.here hx rfl (hb hby at_56) rfl rfl ?_
        show Steps p.tables e below (T6.setTop (mkF m 57 #[.val (.int p1), .val (.int p2), .unset, .val (.int (p2 &&& (3 : Int32))), .unset, .unset] [(.ref b3), (.ref b3)])) t
        refine XS.iconst X6.here hx rfl (hb hby at_57) ?_
        show Steps p.tables e below (T6.setTop (mkF m 58 #[.val (.int p1), .val (.int p2), .unset, .val (.int (p2 &&& (3 : Int32))), .unset, .unset] [(.int (2 : Int32)), (.ref b3), (.ref b3)])) t
        refine X6.ldcInt hx hown (mvT hZ (hw _ (List.mem_of_getElem? (i := 2) rfl))) (g := (mkF m 58 #[.val (.int p1), .val (.int p2), .unset, .val (.int (p2 &&& (3 : Int32))), .unset, .unset] [(.int (2 : Int32)), (.ref b3), (.ref b3)])) rfl (hb hby at_58) _ ?_
        exact k
      obtain ⟨cl_o9, Ar_o9, q_o9, S_o9, Nn_o9, H_o9, G_o9⟩ := id V6
      have hin8 : ¬ ((2 : Int32) < 0 ∨ cl_o9.slots.size ≤ ((2 : Int32)).toNatClampNeg) := inb_of S_o9 ⟨by decide, by decide⟩
      obtain ⟨T8, h8, X8, e8, W8, st8⟩ := stI X6 hx hZ e6 Ar_o9 (j := (2 : Int32)) hin8 (g := (mkF m 60 #[.val (.int p1), .val (.int p2), .unset, .val (.int (p2 &&& (3 : Int32))), .unset, .unset] [(.int (63744 : Int32)), (.int (2 : Int32)), (.ref b3), (.ref b3)])) rfl rfl (hb hby at_60)
      have V8 : Arv Z h8 b3 k3 .int (21 : Int32) [(.int (160 : Int32)), (.int (55296 : Int32)), (.int (63744 : Int32)), (.int (0 : Int32)), (.int (0 : Int32)), (.int (0 : Int32)), (.int (0 : Int32)), (.int (0 : Int32)), (.int (0 : Int32)), (.int (0 : Int32)), (.int (0 : Int32)), (.int (0 : Int32)), (.int (0 : Int32)), (.int (0 : Int32)), (.int (0 : Int32)), (.int (0 : Int32)), (.int (0 : Int32)), (.int (0 : Int32)), (.int (0 : Int32)), (.int (0 : Int32)), (.int (0 : Int32))] (.int (0 : Int32)) := Arv.set Ar_o9 q_o9 S_o9 Nn_o9 H_o9 G_o9 rfl W8 2 rfl (Nat.le_of_ble_eq_true rfl)
      have N8 := Fr.snoc X8 N6 g_b3
      refine Done.of (g' := (mkF m 61 #[.val (.int p1), .val (.int p2), .unset, .val (.int (p2 &&& (3 : Int32))), .unset, .unset] [(.ref b3)])) st8 ?_
      refine Done.of (T' := T8) (g' := (mkF m 65 #[.val (.int p1), .val (.int p2), .unset, .val (.int (p2 &&& (3 : Int32))), .unset, .unset] [(.int (64976 : Int32)), (.int (3 : Int32)), (.ref b3), (.ref b3)])) (fun t k => ?_) ?_
      · show Steps p.tables e below (T8.setTop (mkF m 61 #[.val (.int p1), .val (.int p2), .unset, .val (.int (p2 &&& (3 : Int32))), .unset, .unset] [(.ref b3)])) t
        refine XS.dup X8.here hx rfl (hb hby at_61) rfl rfl ?_
        show Steps p.tables e below (T8.setTop (mkF m 62 #[.val (.int p1), .val (.int p2), .unset, .val (.int (p2 &&& (3 : Int32))), .unset, .unset] [(.ref b3), (.ref b3)])) t
        refine XS.iconst X8.here hx rfl (hb hby at_62) ?_
        show Steps p.tables e below (T8.setTop (mkF m 63 #[.val (.int p1), .val (.int p2), .unset, .val (.int (p2 &&& (3 : Int32))), .unset, .unset] [(.int (3 : Int32)), (.ref b3), (.ref b3)])) t
        refine X8.ldcInt hx hown (mvT hZ (hw _ (List.mem_of_getElem? (i := 3) rfl))) (g := (mkF m 63 #[.val (.int p1), .val (.int p2), .unset, .val (.int (p2 &&& (3 : Int32))), .unset, .unset] [(.int (3 : Int32)), (.ref b3), (.ref b3)])) rfl (hb hby at_63) _ ?_
        exact k
      obtain ⟨cl_o11, Ar_o11, q_o11, S_o11, Nn_o11, H_o11, G_o11⟩ := id V8
      have hin10 : ¬ ((3 : Int32) < 0 ∨ cl_o11.slots.size ≤ ((3 : Int32)).toNatClampNeg) := inb_of S_o11 ⟨by decide, by decide⟩
      obtain ⟨T10, h10, X10, e10, W10, st10⟩ := stI X8 hx hZ e8 Ar_o11 (j := (3 : Int32)) hin10 (g := (mkF m 65 #[.val (.int p1), .val (.int p2), .unset, .val (.int (p2 &&& (3 : Int32))), .unset, .unset] [(.int (64976 : Int32)), (.int (3 : Int32)), (.ref b3), (.ref b3)])) rfl rfl (hb hby at_65)
      have V10 : Arv Z h10 b3 k3 .int (21 : Int32) [(.int (160 : Int32)), (.int (55296 : Int32)), (.int (63744 : Int32)), (.int (64976 : Int32)), (.int (0 : Int32)), (.int (0 : Int32)), (.int (0 : Int32)), (.int (0 : Int32)), (.int (0 : Int32)), (.int (0 : Int32)), (.int (0 : Int32)), (.int (0 : Int32)), (.int (0 : Int32)), (.int (0 : Int32)), (.int (0 : Int32)), (.int (0 : Int32)), (.int (0 : Int32)), (.int (0 : Int32)), (.int (0 : Int32)), (.int (0 : Int32)), (.int (0 : Int32))] (.int (0 : Int32)) := Arv.set Ar_o11 q_o11 S_o11 Nn_o11 H_o11 G_o11 rfl W10 3 rfl (Nat.le_of_ble_eq_true rfl)
      have N10 := Fr.snoc X10 N8 g_b3
      refine Done.of (g' := (mkF m 66 #[.val (.int p1), .val (.int p2), .unset, .val (.int (p2 &&& (3 : Int32))), .unset, .unset] [(.ref b3)])) st10 ?_
      refine Done.of (T' := T10) (g' := (mkF m 70 #[.val (.int p1), .val (.int p2), .unset, .val (.int (p2 &&& (3 : Int32))), .unset, .unset] [(.int (65008 : Int32)), (.int (4 : Int32)), (.ref b3), (.ref b3)])) (fun t k => ?_) ?_
      · show Steps p.tables e below (T10.setTop (mkF m 66 #[.val (.int p1), .val (.int p2), .unset, .val (.int (p2 &&& (3 : Int32))), .unset, .unset] [(.ref b3)])) t
        refine XS.dup X10.here hx rfl (hb hby at_66) rfl rfl ?_
        show Steps p.tables e below (T10.setTop (mkF m 67 #[.val (.int p1), .val (.int p2), .unset, .val (.int (p2 &&& (3 : Int32))), .unset, .unset] [(.ref b3), (.ref b3)])) t
        refine XS.iconst X10.here hx rfl (hb hby at_67) ?_
        show Steps p.tables e below (T10.setTop (mkF m 68 #[.val (.int p1), .val (.int p2), .unset, .val (.int (p2 &&& (3 : Int32))), .unset, .unset] [(.int (4 : Int32)), (.ref b3), (.ref b3)])) t
        refine X10.ldcInt hx hown (mvT hZ (hw _ (List.mem_of_getElem? (i := 4) rfl))) (g := (mkF m 68 #[.val (.int p1), .val (.int p2), .unset, .val (.int (p2 &&& (3 : Int32))), .unset, .unset] [(.int (4 : Int32)), (.ref b3), (.ref b3)])) rfl (hb hby at_68) _ ?_
        exact k
      obtain ⟨cl_o13, Ar_o13, q_o13, S_o13, Nn_o13, H_o13, G_o13⟩ := id V10
      have hin12 : ¬ ((4 : Int32) < 0 ∨ cl_o13.slots.size ≤ ((4 : Int32)).toNatClampNeg) := inb_of S_o13 ⟨by decide, by decide⟩
      obtain ⟨T12, h12, X12, e12, W12, st12⟩ := stI X10 hx hZ e10 Ar_o13 (j := (4 : Int32)) hin12 (g := (mkF m 70 #[.val (.int p1), .val (.int p2), .unset, .val (.int (p2 &&& (3 : Int32))), .unset, .unset] [(.int (65008 : Int32)), (.int (4 : Int32)), (.ref b3), (.ref b3)])) rfl rfl (hb hby at_70)
      have V12 : Arv Z h12 b3 k3 .int (21 : Int32) [(.int (160 : Int32)), (.int (55296 : Int32)), (.int (63744 : Int32)), (.int (64976 : Int32)), (.int (65008 : Int32)), (.int (0 : Int32)), (.int (0 : Int32)), (.int (0 : Int32)), (.int (0 : Int32)), (.int (0 : Int32)), (.int (0 : Int32)), (.int (0 : Int32)), (.int (0 : Int32)), (.int (0 : Int32)), (.int (0 : Int32)), (.int (0 : Int32)), (.int (0 : Int32)), (.int (0 : Int32)), (.int (0 : Int32)), (.int (0 : Int32)), (.int (0 : Int32))] (.int (0 : Int32)) := Arv.set Ar_o13 q_o13 S_o13 Nn_o13 H_o13 G_o13 rfl W12 4 rfl (Nat.le_of_ble_eq_true rfl)
      have N12 := Fr.snoc X12 N10 g_b3
      refine Done.of (g' := (mkF m 71 #[.val (.int p1), .val (.int p2), .unset, .val (.int (p2 &&& (3 : Int32))), .unset, .unset] [(.ref b3)])) st12 ?_
      refine Done.of (T' := T12) (g' := (mkF m 75 #[.val (.int p1), .val (.int p2), .unset, .val (.int (p2 &&& (3 : Int32))), .unset, .unset] [(.int (65520 : Int32)), (.int (5 : Int32)), (.ref b3), (.ref b3)])) (fun t k => ?_) ?_
      · show Steps p.tables e below (T12.setTop (mkF m 71 #[.val (.int p1), .val (.int p2), .unset, .val (.int (p2 &&& (3 : Int32))), .unset, .unset] [(.ref b3)])) t
        refine XS.dup X12.here hx rfl (hb hby at_71) rfl rfl ?_
        show Steps p.tables e below (T12.setTop (mkF m 72 #[.val (.int p1), .val (.int p2), .unset, .val (.int (p2 &&& (3 : Int32))), .unset, .unset] [(.ref b3), (.ref b3)])) t
        refine XS.iconst X12.here hx rfl (hb hby at_72) ?_
        show Steps p.tables e below (T12.setTop (mkF m 73 #[.val (.int p1), .val (.int p2), .unset, .val (.int (p2 &&& (3 : Int32))), .unset, .unset] [(.int (5 : Int32)), (.ref b3), (.ref b3)])) t
        refine X12.ldcInt hx hown (mvT hZ (hw _ (List.mem_of_getElem? (i := 5) rfl))) (g := (mkF m 73 #[.val (.int p1), .val (.int p2), .unset, .val (.int (p2 &&& (3 : Int32))), .unset, .unset] [(.int (5 : Int32)), (.ref b3), (.ref b3)])) rfl (hb hby at_73) _ ?_
        exact k
      obtain ⟨cl_o15, Ar_o15, q_o15, S_o15, Nn_o15, H_o15, G_o15⟩ := id V12
      have hin14 : ¬ ((5 : Int32) < 0 ∨ cl_o15.slots.size ≤ ((5 : Int32)).toNatClampNeg) := inb_of S_o15 ⟨by decide, by decide⟩
      obtain ⟨T14, h14, X14, e14, W14, st14⟩ := stI X12 hx hZ e12 Ar_o15 (j := (5 : Int32)) hin14 (g := (mkF m 75 #[.val (.int p1), .val (.int p2), .unset, .val (.int (p2 &&& (3 : Int32))), .unset, .unset] [(.int (65520 : Int32)), (.int (5 : Int32)), (.ref b3), (.ref b3)])) rfl rfl (hb hby at_75)
      have V14 : Arv Z h14 b3 k3 .int (21 : Int32) [(.int (160 : Int32)), (.int (55296 : Int32)), (.int (63744 : Int32)), (.int (64976 : Int32)), (.int (65008 : Int32)), (.int (65520 : Int32)), (.int (0 : Int32)), (.int (0 : Int32)), (.int (0 : Int32)), (.int (0 : Int32)), (.int (0 : Int32)), (.int (0 : Int32)), (.int (0 : Int32)), (.int (0 : Int32)), (.int (0 : Int32)), (.int (0 : Int32)), (.int (0 : Int32)), (.int (0 : Int32)), (.int (0 : Int32)), (.int (0 : Int32)), (.int (0 : Int32))] (.int (0 : Int32)) := Arv.set Ar_o15 q_o15 S_o15 Nn_o15 H_o15 G_o15 rfl W14 5 rfl (Nat.le_of_ble_eq_true rfl)
      have N14 := Fr.snoc X14 N12 g_b3
      refine Done.of (g' := (mkF m 76 #[.val (.int p1), .val (.int p2), .unset, .val (.int (p2 &&& (3 : Int32))), .unset, .unset] [(.ref b3)])) st14 ?_
      refine Done.of (T' := T14) (g' := (mkF m 81 #[.val (.int p1), .val (.int p2), .unset, .val (.int (p2 &&& (3 : Int32))), .unset, .unset] [(.int (65536 : Int32)), (.int (6 : Int32)), (.ref b3), (.ref b3)])) (fun t k => ?_) ?_
      · show Steps p.tables e below (T14.setTop (mkF m 76 #[.val (.int p1), .val (.int p2), .unset, .val (.int (p2 &&& (3 : Int32))), .unset, .unset] [(.ref b3)])) t
        refine XS.dup X14.here hx rfl (hb hby at_76) rfl rfl ?_
        show Steps p.tables e below (T14.setTop (mkF m 77 #[.val (.int p1), .val (.int p2), .unset, .val (.int (p2 &&& (3 : Int32))), .unset, .unset] [(.ref b3), (.ref b3)])) t
        refine XS.bipush X14.here hx rfl (hb hby at_77) ?_
        show Steps p.tables e below (T14.setTop (mkF m 79 #[.val (.int p1), .val (.int p2), .unset, .val (.int (p2 &&& (3 : Int32))), .unset, .unset] [(.int (6 : Int32)), (.ref b3), (.ref b3)])) t
        refine X14.ldcInt hx hown (mvT hZ (hw _ (List.mem_of_getElem? (i := 6) rfl))) (g := (mkF m 79 #[.val (.int p1), .val (.int p2), .unset, .val (.int (p2 &&& (3 : Int32))), .unset, .unset] [(.int (6 : Int32)), (.ref b3), (.ref b3)])) rfl (hb hby at_79) _ ?_
        exact k
      obtain ⟨cl_o17, Ar_o17, q_o17, S_o17, Nn_o17, H_o17, G_o17⟩ := id V14
      have hin16 : ¬ ((6 : Int32) < 0 ∨ cl_o17.slots.size ≤ ((6 : Int32)).toNatClampNeg) := inb_of S_o17 ⟨by decide, by decide⟩
      obtain ⟨T16, h16, X16, e16, W16, st16⟩ := stI X14 hx hZ e14 Ar_o17 (j := (6 : Int32)) hin16 (g := (mkF m 81 #[.val (.int p1), .val (.int p2), .unset, .val (.int (p2 &&& (3 : Int32))), .unset, .unset] [(.int (65536 : Int32)), (.int (6 : Int32)), (.ref b3), (.ref b3)])) rfl rfl (hb hby at_81)
      have V16 : Arv Z h16 b3 k3 .int (21 : Int32) [(.int (160 : Int32)), (.int (55296 : Int32)), (.int (63744 : Int32)), (.int (64976 : Int32)), (.int (65008 : Int32)), (.int (65520 : Int32)), (.int (65536 : Int32)), (.int (0 : Int32)), (.int (0 : Int32)), (.int (0 : Int32)), (.int (0 : Int32)), (.int (0 : Int32)), (.int (0 : Int32)), (.int (0 : Int32)), (.int (0 : Int32)), (.int (0 : Int32)), (.int (0 : Int32)), (.int (0 : Int32)), (.int (0 : Int32)), (.int (0 : Int32)), (.int (0 : Int32))] (.int (0 : Int32)) := Arv.set Ar_o17 q_o17 S_o17 Nn_o17 H_o17 G_o17 rfl W16 6 rfl (Nat.le_of_ble_eq_true rfl)
      have N16 := Fr.snoc X16 N14 g_b3
      refine Done.of (g' := (mkF m 82 #[.val (.int p1), .val (.int p2), .unset, .val (.int (p2 &&& (3 : Int32))), .unset, .unset] [(.ref b3)])) st16 ?_
      refine Done.of (T' := T16) (g' := (mkF m 87 #[.val (.int p1), .val (.int p2), .unset, .val (.int (p2 &&& (3 : Int32))), .unset, .unset] [(.int (131070 : Int32)), (.int (7 : Int32)), (.ref b3), (.ref b3)])) (fun t k => ?_) ?_
      · show Steps p.tables e below (T16.setTop (mkF m 82 #[.val (.int p1), .val (.int p2), .unset, .val (.int (p2 &&& (3 : Int32))), .unset, .unset] [(.ref b3)])) t
        refine XS.dup X16.here hx rfl (hb hby at_82) rfl rfl ?_
        show Steps p.tables e below (T16.setTop (mkF m 83 #[.val (.int p1), .val (.int p2), .unset, .val (.int (p2 &&& (3 : Int32))), .unset, .unset] [(.ref b3), (.ref b3)])) t
        refine XS.bipush X16.here hx rfl (hb hby at_83) ?_
        show Steps p.tables e below (T16.setTop (mkF m 85 #[.val (.int p1), .val (.int p2), .unset, .val (.int (p2 &&& (3 : Int32))), .unset, .unset] [(.int (7 : Int32)), (.ref b3), (.ref b3)])) t
        refine X16.ldcInt hx hown (mvT hZ (hw _ (List.mem_of_getElem? (i := 7) rfl))) (g := (mkF m 85 #[.val (.int p1), .val (.int p2), .unset, .val (.int (p2 &&& (3 : Int32))), .unset, .unset] [(.int (7 : Int32)), (.ref b3), (.ref b3)])) rfl (hb hby at_85) _ ?_
        exact k
      obtain ⟨cl_o19, Ar_o19, q_o19, S_o19, Nn_o19, H_o19, G_o19⟩ := id V16
      have hin18 : ¬ ((7 : Int32) < 0 ∨ cl_o19.slots.size ≤ ((7 : Int32)).toNatClampNeg) := inb_of S_o19 ⟨by decide, by decide⟩
      obtain ⟨T18, h18, X18, e18, W18, st18⟩ := stI X16 hx hZ e16 Ar_o19 (j := (7 : Int32)) hin18 (g := (mkF m 87 #[.val (.int p1), .val (.int p2), .unset, .val (.int (p2 &&& (3 : Int32))), .unset, .unset] [(.int (131070 : Int32)), (.int (7 : Int32)), (.ref b3), (.ref b3)])) rfl rfl (hb hby at_87)
      have V18 : Arv Z h18 b3 k3 .int (21 : Int32) [(.int (160 : Int32)), (.int (55296 : Int32)), (.int (63744 : Int32)), (.int (64976 : Int32)), (.int (65008 : Int32)), (.int (65520 : Int32)), (.int (65536 : Int32)), (.int (131070 : Int32)), (.int (0 : Int32)), (.int (0 : Int32)), (.int (0 : Int32)), (.int (0 : Int32)), (.int (0 : Int32)), (.int (0 : Int32)), (.int (0 : Int32)), (.int (0 : Int32)), (.int (0 : Int32)), (.int (0 : Int32)), (.int (0 : Int32)), (.int (0 : Int32)), (.int (0 : Int32))] (.int (0 : Int32)) := Arv.set Ar_o19 q_o19 S_o19 Nn_o19 H_o19 G_o19 rfl W18 7 rfl (Nat.le_of_ble_eq_true rfl)
      have N18 := Fr.snoc X18 N16 g_b3
      refine Done.of (g' := (mkF m 88 #[.val (.int p1), .val (.int p2), .unset, .val (.int (p2 &&& (3 : Int32))), .unset, .unset] [(.ref b3)])) st18 ?_
      refine Done.of (T' := T18) (g' := (mkF m 93 #[.val (.int p1), .val (.int p2), .unset, .val (.int (p2 &&& (3 : Int32))), .unset, .unset] [(.int (131072 : Int32)), (.int (8 : Int32)), (.ref b3), (.ref b3)])) (fun t k => ?_) ?_
      · show Steps p.tables e below (T18.setTop (mkF m 88 #[.val (.int p1), .val (.int p2), .unset, .val (.int (p2 &&& (3 : Int32))), .unset, .unset] [(.ref b3)])) t
        refine XS.dup X18.here hx rfl (hb hby at_88) rfl rfl ?_
        show Steps p.tables e below (T18.setTop (mkF m 89 #[.val (.int p1), .val (.int p2), .unset, .val (.int (p2 &&& (3 : Int32))), .unset, .unset] [(.ref b3), (.ref b3)])) t
        refine XS.bipush X18.here hx rfl (hb hby at_89) ?_
        show Steps p.tables e below (T18.setTop (mkF m 91 #[.val (.int p1), .val (.int p2), .unset, .val (.int (p2 &&& (3 : Int32))), .unset, .unset] [(.int (8 : Int32)), (.ref b3), (.ref b3)])) t
        refine X18.ldcInt hx hown (mvT hZ (hw _ (List.mem_of_getElem? (i := 8) rfl))) (g := (mkF m 91 #[.val (.int p1), .val (.int p2), .unset, .val (.int (p2 &&& (3 : Int32))), .unset, .unset] [(.int (8 : Int32)), (.ref b3), (.ref b3)])) rfl (hb hby at_91) _ ?_
        exact k
      obtain ⟨cl_o21, Ar_o21, q_o21, S_o21, Nn_o21, H_o21, G_o21⟩ := id V18
      have hin20 : ¬ ((8 : Int32) < 0 ∨ cl_o21.slots.size ≤ ((8 : Int32)).toNatClampNeg) := inb_of S_o21 ⟨by decide, by decide⟩
      obtain ⟨T20, h20, X20, e20, W20, st20⟩ := stI X18 hx hZ e18 Ar_o21 (j := (8 : Int32)) hin20 (g := (mkF m 93 #[.val (.int p1), .val (.int p2), .unset, .val (.int (p2 &&& (3 : Int32))), .unset, .unset] [(.int (131072 : Int32)), (.int (8 : Int32)), (.ref b3), (.ref b3)])) rfl rfl (hb hby at_93)
      have V20 : Arv Z h20 b3 k3 .int (21 : Int32) [(.int (160 : Int32)), (.int (55296 : Int32)), (.int (63744 : Int32)), (.int (64976 : Int32)), (.int (65008 : Int32)), (.int (65520 : Int32)), (.int (65536 : Int32)), (.int (131070 : Int32)), (.int (131072 : Int32)), (.int (0 : Int32)), (.int (0 : Int32)), (.int (0 : Int32)), (.int (0 : Int32)), (.int (0 : Int32)), (.int (0 : Int32)), (.int (0 : Int32)), (.int (0 : Int32)), (.int (0 : Int32)), (.int (0 : Int32)), (.int (0 : Int32)), (.int (0 : Int32))] (.int (0 : Int32)) := Arv.set Ar_o21 q_o21 S_o21 Nn_o21 H_o21 G_o21 rfl W20 8 rfl (Nat.le_of_ble_eq_true rfl)
      have N20 := Fr.snoc X20 N18 g_b3
      refine Done.of (g' := (mkF m 94 #[.val (.int p1), .val (.int p2), .unset, .val (.int (p2 &&& (3 : Int32))), .unset, .unset] [(.ref b3)])) st20 ?_
      refine Done.of (T' := T20) (g' := (mkF m 99 #[.val (.int p1), .val (.int p2), .unset, .val (.int (p2 &&& (3 : Int32))), .unset, .unset] [(.int (196606 : Int32)), (.int (9 : Int32)), (.ref b3), (.ref b3)])) (fun t k => ?_) ?_
      · show Steps p.tables e below (T20.setTop (mkF m 94 #[.val (.int p1), .val (.int p2), .unset, .val (.int (p2 &&& (3 : Int32))), .unset, .unset] [(.ref b3)])) t
        refine XS.dup X20.here hx rfl (hb hby at_94) rfl rfl ?_
        show Steps p.tables e below (T20.setTop (mkF m 95 #[.val (.int p1), .val (.int p2), .unset, .val (.int (p2 &&& (3 : Int32))), .unset, .unset] [(.ref b3), (.ref b3)])) t
        refine XS.bipush X20.here hx rfl (hb hby at_95) ?_
        show Steps p.tables e below (T20.setTop (mkF m 97 #[.val (.int p1), .val (.int p2), .unset, .val (.int (p2 &&& (3 : Int32))), .unset, .unset] [(.int (9 : Int32)), (.ref b3), (.ref b3)])) t
        refine X20.ldcInt hx hown (mvT hZ (hw _ (List.mem_of_getElem? (i := 9) rfl))) (g := (mkF m 97 #[.val (.int p1), .val (.int p2), .unset, .val (.int (p2 &&& (3 : Int32))), .unset, .unset] [(.int (9 : Int32)), (.ref b3), (.ref b3)])) rfl (hb hby at_97) _ ?_
        exact k
      obtain ⟨cl_o23, Ar_o23, q_o23, S_o23, Nn_o23, H_o23, G_o23⟩ := id V20
      have hin22 : ¬ ((9 : Int32) < 0 ∨ cl_o23.slots.size ≤ ((9 : Int32)).toNatClampNeg) := inb_of S_o23 ⟨by decide, by decide⟩
      obtain ⟨T22, h22, X22, e22, W22, st22⟩ := stI X20 hx hZ e20 Ar_o23 (j := (9 : Int32)) hin22 (g := (mkF m 99 #[.val (.int p1), .val (.int p2), .unset, .val (.int (p2 &&& (3 : Int32))), .unset, .unset] [(.int (196606 : Int32)), (.int (9 : Int32)), (.ref b3), (.ref b3)])) rfl rfl (hb hby at_99)
      have V22 : Arv Z h22 b3 k3 .int (21 : Int32) [(.int (160 : Int32)), (.int (55296 : Int32)), (.int (63744 : Int32)), (.int (64976 : Int32)), (.int (65008 : Int32)), (.int (65520 : Int32)), (.int (65536 : Int32)), (.int (131070 : Int32)), (.int (131072 : Int32)), (.int (196606 : Int32)), (.int (0 : Int32)), (.int (0 : Int32)), (.int (0 : Int32)), (.int (0 : Int32)), (.int (0 : Int32)), (.int (0 : Int32)), (.int (0 : Int32)), (.int (0 : Int32)), (.int (0 : Int32)), (.int (0 : Int32)), (.int (0 : Int32))] (.int (0 : Int32)) := Arv.set Ar_o23 q_o23 S_o23 Nn_o23 H_o23 G_o23 rfl W22 9 rfl (Nat.le_of_ble_eq_true rfl)
      have N22 := Fr.snoc X22 N20 g_b3
      refine Done.of (g' := (mkF m 100 #[.val (.int p1), .val (.int p2), .unset, .val (.int (p2 &&& (3 : Int32))), .unset, .unset] [(.ref b3)])) st22 ?_
      refine Done.of (T' := T22) (g' := (mkF m 105 #[.val (.int p1), .val (.int p2), .unset, .val (.int (p2 &&& (3 : Int32))), .unset, .unset] [(.int (196608 : Int32)), (.int (10 : Int32)), (.ref b3), (.ref b3)])) (fun t k => ?_) ?_
      · show Steps p.tables e below (T22.setTop (mkF m 100 #[.val (.int p1), .val (.int p2), .unset, .val (.int (p2 &&& (3 : Int32))), .unset, .unset] [(.ref b3)])) t
        refine XS.dup X22.here hx rfl (hb hby at_100) rfl rfl ?_
        show Steps p.tables e below (T22.setTop (mkF m 101 #[.val (.int p1), .val (.int p2), .unset, .val (.int (p2 &&& (3 : Int32))), .unset, .unset] [(.ref b3), (.ref b3)])) t
        refine XS.bipush X22.here hx rfl (hb hby at_101) ?_
        show Steps p.tables e below (T22.setTop (mkF m 103 #[.val (.int p1), .val (.int p2), .unset, .val (.int (p2 &&& (3 : Int32))), .unset, .unset] [(.int (10 : Int32)), (.ref b3), (.ref b3)])) t
        refine X22.ldcInt hx hown (mvT hZ (hw _ (List.mem_of_getElem? (i := 10) rfl))) (g := (mkF m 103 #[.val (.int p1), .val (.int p2), .unset, .val (.int (p2 &&& (3 : Int32))), .unset, .unset] [(.int (10 : Int32)), (.ref b3), (.ref b3)])) rfl (hb hby at_103) _ ?_
        exact k
      obtain ⟨cl_o25, Ar_o25, q_o25, S_o25, Nn_o25, H_o25, G_o25⟩ := id V22
      have hin24 : ¬ ((10 : Int32) < 0 ∨ cl_o25.slots.size ≤ ((10 : Int32)).toNatClampNeg) := inb_of S_o25 ⟨by decide, by decide⟩
      obtain ⟨T24, h24, X24, e24, W24, st24⟩ := stI X22 hx hZ e22 Ar_o25 (j := (10 : Int32)) hin24 (g := (mkF m 105 #[.val (.int p1), .val (.int p2), .unset, .val (.int (p2 &&& (3 : Int32))), .unset, .unset] [(.int (196608 : Int32)), (.int (10 : Int32)), (.ref b3), (.ref b3)])) rfl rfl (hb hby at_105)
      have V24 : Arv Z h24 b3 k3 .int (21 : Int32) [(.int (160 : Int32)), (.int (55296 : Int32)), (.int (63744 : Int32)), (.int (64976 : Int32)), (.int (65008 : Int32)), (.int (65520 : Int32)), (.int (65536 : Int32)), (.int (131070 : Int32)), (.int (131072 : Int32)), (.int (196606 : Int32)), (.int (196608 : Int32)), (.int (0 : Int32)), (.int (0 : Int32)), (.int (0 : Int32)), (.int (0 : Int32)), (.int (0 : Int32)), (.int (0 : Int32)), (.int (0 : Int32)), (.int (0 : Int32)), (.int (0 : Int32)), (.int (0 : Int32))] (.int (0 : Int32)) := Arv.set Ar_o25 q_o25 S_o25 Nn_o25 H_o25 G_o25 rfl W24 10 rfl (Nat.le_of_ble_eq_true rfl)
      have N24 := Fr.snoc X24 N22 g_b3
      refine Done.of (g' := (mkF m 106 #[.val (.int p1), .val (.int p2), .unset, .val (.int (p2 &&& (3 : Int32))), .unset, .unset] [(.ref b3)])) st24 ?_
      refine Done.of (T' := T24) (g' := (mkF m 111 #[.val (.int p1), .val (.int p2), .unset, .val (.int (p2 &&& (3 : Int32))), .unset, .unset] [(.int (524286 : Int32)), (.int (11 : Int32)), (.ref b3), (.ref b3)])) (fun t k => ?_) ?_
      · show Steps p.tables e below (T24.setTop (mkF m 106 #[.val (.int p1), .val (.int p2), .unset, .val (.int (p2 &&& (3 : Int32))), .unset, .unset] [(.ref b3)])) t
        refine XS.dup X24.here hx rfl (hb hby at_106) rfl rfl ?_
        show Steps p.tables e below (T24.setTop (mkF m 107 #[.val (.int p1), .val (.int p2), .unset, .val (.int (p2 &&& (3 : Int32))), .unset, .unset] [(.ref b3), (.ref b3)])) t
        refine XS.bipush X24.here hx rfl (hb hby at_107) ?_
        show Steps p.tables e below (T24.setTop (mkF m 109 #[.val (.int p1), .val (.int p2), .unset, .val (.int (p2 &&& (3 : Int32))), .unset, .unset] [(.int (11 : Int32)), (.ref b3), (.ref b3)])) t
        refine X24.ldcInt hx hown (mvT hZ (hw _ (List.mem_of_getElem? (i := 11) rfl))) (g := (mkF m 109 #[.val (.int p1), .val (.int p2), .unset, .val (.int (p2 &&& (3 : Int32))), .unset, .unset] [(.int (11 : Int32)), (.ref b3), (.ref b3)])) rfl (hb hby at_109) _ ?_
        exact k
      obtain ⟨cl_o27, Ar_o27, q_o27, S_o27, Nn_o27, H_o27, G_o27⟩ := id V24
      have hin26 : ¬ ((11 : Int32) < 0 ∨ cl_o27.slots.size ≤ ((11 : Int32)).toNatClampNeg) := inb_of S_o27 ⟨by decide, by decide⟩
      obtain ⟨T26, h26, X26, e26, W26, st26⟩ := stI X24 hx hZ e24 Ar_o27 (j := (11 : Int32)) hin26 (g := (mkF m 111 #[.val (.int p1), .val (.int p2), .unset, .val (.int (p2 &&& (3 : Int32))), .unset, .unset] [(.int (524286 : Int32)), (.int (11 : Int32)), (.ref b3), (.ref b3)])) rfl rfl (hb hby at_111)
      have V26 : Arv Z h26 b3 k3 .int (21 : Int32) [(.int (160 : Int32)), (.int (55296 : Int32)), (.int (63744 : Int32)), (.int (64976 : Int32)), (.int (65008 : Int32)), (.int (65520 : Int32)), (.int (65536 : Int32)), (.int (131070 : Int32)), (.int (131072 : Int32)), (.int (196606 : Int32)), (.int (196608 : Int32)), (.int (524286 : Int32)), (.int (0 : Int32)), (.int (0 : Int32)), (.int (0 : Int32)), (.int (0 : Int32)), (.int (0 : Int32)), (.int (0 : Int32)), (.int (0 : Int32)), (.int (0 : Int32)), (.int (0 : Int32))] (.int (0 : Int32)) := Arv.set Ar_o27 q_o27 S_o27 Nn_o27 H_o27 G_o27 rfl W26 11 rfl (Nat.le_of_ble_eq_true rfl)
      have N26 := Fr.snoc X26 N24 g_b3
      refine Done.of (g' := (mkF m 112 #[.val (.int p1), .val (.int p2), .unset, .val (.int (p2 &&& (3 : Int32))), .unset, .unset] [(.ref b3)])) st26 ?_
      refine Done.of (T' := T26) (g' := (mkF m 117 #[.val (.int p1), .val (.int p2), .unset, .val (.int (p2 &&& (3 : Int32))), .unset, .unset] [(.int (917502 : Int32)), (.int (12 : Int32)), (.ref b3), (.ref b3)])) (fun t k => ?_) ?_
      · show Steps p.tables e below (T26.setTop (mkF m 112 #[.val (.int p1), .val (.int p2), .unset, .val (.int (p2 &&& (3 : Int32))), .unset, .unset] [(.ref b3)])) t
        refine XS.dup X26.here hx rfl (hb hby at_112) rfl rfl ?_
        show Steps p.tables e below (T26.setTop (mkF m 113 #[.val (.int p1), .val (.int p2), .unset, .val (.int (p2 &&& (3 : Int32))), .unset, .unset] [(.ref b3), (.ref b3)])) t
        refine XS.bipush X26.here hx rfl (hb hby at_113) ?_
        show Steps p.tables e below (T26.setTop (mkF m 115 #[.val (.int p1), .val (.int p2), .unset, .val (.int (p2 &&& (3 : Int32))), .unset, .unset] [(.int (12 : Int32)), (.ref b3), (.ref b3)])) t
        refine X26.ldcInt hx hown (mvT hZ (hw _ (List.mem_of_getElem? (i := 12) rfl))) (g := (mkF m 115 #[.val (.int p1), .val (.int p2), .unset, .val (.int (p2 &&& (3 : Int32))), .unset, .unset] [(.int (12 : Int32)), (.ref b3), (.ref b3)])) rfl (hb hby at_115) _ ?_
        exact k
      obtain ⟨cl_o29, Ar_o29, q_o29, S_o29, Nn_o29, H_o29, G_o29⟩ := id V26
      have hin28 : ¬ ((12 : Int32) < 0 ∨ cl_o29.slots.size ≤ ((12 : Int32)).toNatClampNeg) := inb_of S_o29 ⟨by decide, by decide⟩
      obtain ⟨T28, h28, X28, e28, W28, st28⟩ := stI X26 hx hZ e26 Ar_o29 (j := (12 : Int32)) hin28 (g := (mkF m 117 #[.val (.int p1), .val (.int p2), .unset, .val (.int (p2 &&& (3 : Int32))), .unset, .unset] [(.int (917502 : Int32)), (.int (12 : Int32)), (.ref b3), (.ref b3)])) rfl rfl (hb hby at_117)
      have V28 : Arv Z h28 b3 k3 .int (21 : Int32) [(.int (160 : Int32)), (.int (55296 : Int32)), (.int (63744 : Int32)), (.int (64976 : Int32)), (.int (65008 : Int32)), (.int (65520 : Int32)), (.int (65536 : Int32)), (.int (131070 : Int32)), (.int (131072 : Int32)), (.int (196606 : Int32)), (.int (196608 : Int32)), (.int (524286 : Int32)), (.int (917502 : Int32)), (.int (0 : Int32)), (.int (0 : Int32)), (.int (0 : Int32)), (.int (0 : Int32)), (.int (0 : Int32)), (.int (0 : Int32)), (.int (0 : Int32)), (.int (0 : Int32))] (.int (0 : Int32)) := Arv.set Ar_o29 q_o29 S_o29 Nn_o29 H_o29 G_o29 rfl W28 12 rfl (Nat.le_of_ble_eq_true rfl)
      have N28 := Fr.snoc X28 N26 g_b3
      refine Done.of (g' := (mkF m 118 #[.val (.int p1), .val (.int p2), .unset, .val (.int (p2 &&& (3 : Int32))), .unset, .unset] [(.ref b3)])) st28 ?_
      refine Done.of (T' := T28) (g' := (mkF m 123 #[.val (.int p1), .val (.int p2), .unset, .val (.int (p2 &&& (3 : Int32))), .unset, .unset] [(.int (917504 : Int32)), (.int (13 : Int32)), (.ref b3), (.ref b3)])) (fun t k => ?_) ?_
      · show Steps p.tables e below (T28.setTop (mkF m 118 #[.val (.int p1), .val (.int p2), .unset, .val (.int (p2 &&& (3 : Int32))), .unset, .unset] [(.ref b3)])) t
        refine XS.dup X28.here hx rfl (hb hby at_118) rfl rfl ?_
        show Steps p.tables e below (T28.setTop (mkF m 119 #[.val (.int p1), .val (.int p2), .unset, .val (.int (p2 &&& (3 : Int32))), .unset, .unset] [(.ref b3), (.ref b3)])) t
        refine XS.bipush X28.here hx rfl (hb hby at_119) ?_
        show Steps p.tables e below (T28.setTop (mkF m 121 #[.val (.int p1), .val (.int p2), .unset, .val (.int (p2 &&& (3 : Int32))), .unset, .unset] [(.int (13 : Int32)), (.ref b3), (.ref b3)])) t
        refine X28.ldcInt hx hown (mvT hZ (hw _ (List.mem_of_getElem? (i := 13) rfl))) (g := (mkF m 121 #[.val (.int p1), .val (.int p2), .unset, .val (.int (p2 &&& (3 : Int32))), .unset, .unset] [(.int (13 : Int32)), (.ref b3), (.ref b3)])) rfl (hb hby at_121) _ ?_
        exact k
      obtain ⟨cl_o31, Ar_o31, q_o31, S_o31, Nn_o31, H_o31, G_o31⟩ := id V28
      have hin30 : ¬ ((13 : Int32) < 0 ∨ cl_o31.slots.size ≤ ((13 : Int32)).toNatClampNeg) := inb_of S_o31 ⟨by decide, by decide⟩
      obtain ⟨T30, h30, X30, e30, W30, st30⟩ := stI X28 hx hZ e28 Ar_o31 (j := (13 : Int32)) hin30 (g := (mkF m 123 #[.val (.int p1), .val (.int p2), .unset, .val (.int (p2 &&& (3 : Int32))), .unset, .unset] [(.int (917504 : Int32)), (.int (13 : Int32)), (.ref b3), (.ref b3)])) rfl rfl (hb hby at_123)
      have V30 : Arv Z h30 b3 k3 .int (21 : Int32) [(.int (160 : Int32)), (.int (55296 : Int32)), (.int (63744 : Int32)), (.int (64976 : Int32)), (.int (65008 : Int32)), (.int (65520 : Int32)), (.int (65536 : Int32)), (.int (131070 : Int32)), (.int (131072 : Int32)), (.int (196606 : Int32)), (.int (196608 : Int32)), (.int (524286 : Int32)), (.int (917502 : Int32)), (.int (917504 : Int32)), (.int (0 : Int32)), (.int (0 : Int32)), (.int (0 : Int32)), (.int (0 : Int32)), (.int (0 : Int32)), (.int (0 : Int32)), (.int (0 : Int32))] (.int (0 : Int32)) := Arv.set Ar_o31 q_o31 S_o31 Nn_o31 H_o31 G_o31 rfl W30 13 rfl (Nat.le_of_ble_eq_true rfl)
      have N30 := Fr.snoc X30 N28 g_b3
      refine Done.of (g' := (mkF m 124 #[.val (.int p1), .val (.int p2), .unset, .val (.int (p2 &&& (3 : Int32))), .unset, .unset] [(.ref b3)])) st30 ?_
      refine Done.of (T' := T30) (g' := (mkF m 129 #[.val (.int p1), .val (.int p2), .unset, .val (.int (p2 &&& (3 : Int32))), .unset, .unset] [(.int (921600 : Int32)), (.int (14 : Int32)), (.ref b3), (.ref b3)])) (fun t k => ?_) ?_
      · show Steps p.tables e below (T30.setTop (mkF m 124 #[.val (.int p1), .val (.int p2), .unset, .val (.int (p2 &&& (3 : Int32))), .unset, .unset] [(.ref b3)])) t
        refine XS.dup X30.here hx rfl (hb hby at_124) rfl rfl ?_
        show Steps p.tables e below (T30.setTop (mkF m 125 #[.val (.int p1), .val (.int p2), .unset, .val (.int (p2 &&& (3 : Int32))), .unset, .unset] [(.ref b3), (.ref b3)])) t
        refine XS.bipush X30.here hx rfl (hb hby at_125) ?_
        show Steps p.tables e below (T30.setTop (mkF m 127 #[.val (.int p1), .val (.int p2), .unset, .val (.int (p2 &&& (3 : Int32))), .unset, .unset] [(.int (14 : Int32)), (.ref b3), (.ref b3)])) t
        refine X30.ldcInt hx hown (mvT hZ (hw _ (List.mem_of_getElem? (i := 14) rfl))) (g := (mkF m 127 #[.val (.int p1), .val (.int p2), .unset, .val (.int (p2 &&& (3 : Int32))), .unset, .unset] [(.int (14 : Int32)), (.ref b3), (.ref b3)])) rfl (hb hby at_127) _ ?_
        exact k
      obtain ⟨cl_o33, Ar_o33, q_o33, S_o33, Nn_o33, H_o33, G_o33⟩ := id V30
      have hin32 : ¬ ((14 : Int32) < 0 ∨ cl_o33.slots.size ≤ ((14 : Int32)).toNatClampNeg) := inb_of S_o33 ⟨by decide, by decide⟩
      obtain ⟨T32, h32, X32, e32, W32, st32⟩ := stI X30 hx hZ e30 Ar_o33 (j := (14 : Int32)) hin32 (g := (mkF m 129 #[.val (.int p1), .val (.int p2), .unset, .val (.int (p2 &&& (3 : Int32))), .unset, .unset] [(.int (921600 : Int32)), (.int (14 : Int32)), (.ref b3), (.ref b3)])) rfl rfl (hb hby at_129)
      have V32 : Arv Z h32 b3 k3 .int (21 : Int32) [(.int (160 : Int32)), (.int (55296 : Int32)), (.int (63744 : Int32)), (.int (64976 : Int32)), (.int (65008 : Int32)), (.int (65520 : Int32)), (.int (65536 : Int32)), (.int (131070 : Int32)), (.int (131072 : Int32)), (.int (196606 : Int32)), (.int (196608 : Int32)), (.int (524286 : Int32)), (.int (917502 : Int32)), (.int (917504 : Int32)), (.int (921600 : Int32)), (.int (0 : Int32)), (.int (0 : Int32)), (.int (0 : Int32)), (.int (0 : Int32)), (.int (0 : Int32)), (.int (0 : Int32))] (.int (0 : Int32)) := Arv.set Ar_o33 q_o33 S_o33 Nn_o33 H_o33 G_o33 rfl W32 14 rfl (Nat.le_of_ble_eq_true rfl)
      have N32 := Fr.snoc X32 N30 g_b3
      refine Done.of (g' := (mkF m 130 #[.val (.int p1), .val (.int p2), .unset, .val (.int (p2 &&& (3 : Int32))), .unset, .unset] [(.ref b3)])) st32 ?_
      refine Done.of (T' := T32) (g' := (mkF m 135 #[.val (.int p1), .val (.int p2), .unset, .val (.int (p2 &&& (3 : Int32))), .unset, .unset] [(.int (983038 : Int32)), (.int (15 : Int32)), (.ref b3), (.ref b3)])) (fun t k => ?_) ?_
      · show Steps p.tables e below (T32.setTop (mkF m 130 #[.val (.int p1), .val (.int p2), .unset, .val (.int (p2 &&& (3 : Int32))), .unset, .unset] [(.ref b3)])) t
        refine XS.dup X32.here hx rfl (hb hby at_130) rfl rfl ?_
        show Steps p.tables e below (T32.setTop (mkF m 131 #[.val (.int p1), .val (.int p2), .unset, .val (.int (p2 &&& (3 : Int32))), .unset, .unset] [(.ref b3), (.ref b3)])) t
        refine XS.bipush X32.here hx rfl (hb hby at_131) ?_
        show Steps p.tables e below (T32.setTop (mkF m 133 #[.val (.int p1), .val (.int p2), .unset, .val (.int (p2 &&& (3 : Int32))), .unset, .unset] [(.int (15 : Int32)), (.ref b3), (.ref b3)])) t
        refine X32.ldcInt hx hown (mvT hZ (hw _ (List.mem_of_getElem? (i := 15) rfl))) (g := (mkF m 133 #[.val (.int p1), .val (.int p2), .unset, .val (.int (p2 &&& (3 : Int32))), .unset, .unset] [(.int (15 : Int32)), (.ref b3), (.ref b3)])) rfl (hb hby at_133) _ ?_
        exact k
      obtain ⟨cl_o35, Ar_o35, q_o35, S_o35, Nn_o35, H_o35, G_o35⟩ := id V32
      have hin34 : ¬ ((15 : Int32) < 0 ∨ cl_o35.slots.size ≤ ((15 : Int32)).toNatClampNeg) := inb_of S_o35 ⟨by decide, by decide⟩
      obtain ⟨T34, h34, X34, e34, W34, st34⟩ := stI X32 hx hZ e32 Ar_o35 (j := (15 : Int32)) hin34 (g := (mkF m 135 #[.val (.int p1), .val (.int p2), .unset, .val (.int (p2 &&& (3 : Int32))), .unset, .unset] [(.int (983038 : Int32)), (.int (15 : Int32)), (.ref b3), (.ref b3)])) rfl rfl (hb hby at_135)
      have V34 : Arv Z h34 b3 k3 .int (21 : Int32) [(.int (160 : Int32)), (.int (55296 : Int32)), (.int (63744 : Int32)), (.int (64976 : Int32)), (.int (65008 : Int32)), (.int (65520 : Int32)), (.int (65536 : Int32)), (.int (131070 : Int32)), (.int (131072 : Int32)), (.int (196606 : Int32)), (.int (196608 : Int32)), (.int (524286 : Int32)), (.int (917502 : Int32)), (.int (917504 : Int32)), (.int (921600 : Int32)), (.int (983038 : Int32)), (.int (0 : Int32)), (.int (0 : Int32)), (.int (0 : Int32)), (.int (0 : Int32)), (.int (0 : Int32))] (.int (0 : Int32)) := Arv.set Ar_o35 q_o35 S_o35 Nn_o35 H_o35 G_o35 rfl W34 15 rfl (Nat.le_of_ble_eq_true rfl)
      have N34 := Fr.snoc X34 N32 g_b3
      refine Done.of (g' := (mkF m 136 #[.val (.int p1), .val (.int p2), .unset, .val (.int (p2 &&& (3 : Int32))), .unset, .unset] [(.ref b3)])) st34 ?_
      refine Done.of (T' := T34) (g' := (mkF m 141 #[.val (.int p1), .val (.int p2), .unset, .val (.int (p2 &&& (3 : Int32))), .unset, .unset] [(.int (983040 : Int32)), (.int (16 : Int32)), (.ref b3), (.ref b3)])) (fun t k => ?_) ?_
      · show Steps p.tables e below (T34.setTop (mkF m 136 #[.val (.int p1), .val (.int p2), .unset, .val (.int (p2 &&& (3 : Int32))), .unset, .unset] [(.ref b3)])) t
        refine XS.dup X34.here hx rfl (hb hby at_136) rfl rfl ?_
        show Steps p.tables e below (T34.setTop (mkF m 137 #[.val (.int p1), .val (.int p2), .unset, .val (.int (p2 &&& (3 : Int32))), .unset, .unset] [(.ref b3), (.ref b3)])) t
        refine XS.bipush X34.here hx rfl (hb hby at_137) ?_
        show Steps p.tables e below (T34.setTop (mkF m 139 #[.val (.int p1), .val (.int p2), .unset, .val (.int (p2 &&& (3 : Int32))), .unset, .unset] [(.int (16 : Int32)), (.ref b3), (.ref b3)])) t
        refine X34.ldcInt hx hown (mvT hZ (hw _ (List.mem_of_getElem? (i := 16) rfl))) (g := (mkF m 139 #[.val (.int p1), .val (.int p2), .unset, .val (.int (p2 &&& (3 : Int32))), .unset, .unset] [(.int (16 : Int32)), (.ref b3), (.ref b3)])) rfl (hb hby at_139) _ ?_
        exact k
      obtain ⟨cl_o37, Ar_o37, q_o37, S_o37, Nn_o37, H_o37, G_o37⟩ := id V34
      have hin36 : ¬ ((16 : Int32) < 0 ∨ cl_o37.slots.size ≤ ((16 : Int32)).toNatClampNeg) := inb_of S_o37 ⟨by decide, by decide⟩
      obtain ⟨T36, h36, X36, e36, W36, st36⟩ := stI X34 hx hZ e34 Ar_o37 (j := (16 : Int32)) hin36 (g := (mkF m 141 #[.val (.int p1), .val (.int p2), .unset, .val (.int (p2 &&& (3 : Int32))), .unset, .unset] [(.int (983040 : Int32)), (.int (16 : Int32)), (.ref b3), (.ref b3)])) rfl rfl (hb hby at_141)
      have V36 : Arv Z h36 b3 k3 .int (21 : Int32) [(.int (160 : Int32)), (.int (55296 : Int32)), (.int (63744 : Int32)), (.int (64976 : Int32)), (.int (65008 : Int32)), (.int (65520 : Int32)), (.int (65536 : Int32)), (.int (131070 : Int32)), (.int (131072 : Int32)), (.int (196606 : Int32)), (.int (196608 : Int32)), (.int (524286 : Int32)), (.int (917502 : Int32)), (.int (917504 : Int32)), (.int (921600 : Int32)), (.int (983038 : Int32)), (.int (983040 : Int32)), (.int (0 : Int32)), (.int (0 : Int32)), (.int (0 : Int32)), (.int (0 : Int32))] (.int (0 : Int32)) := Arv.set Ar_o37 q_o37 S_o37 Nn_o37 H_o37 G_o37 rfl W36 16 rfl (Nat.le_of_ble_eq_true rfl)
      have N36 := Fr.snoc X36 N34 g_b3
      refine Done.of (g' := (mkF m 142 #[.val (.int p1), .val (.int p2), .unset, .val (.int (p2 &&& (3 : Int32))), .unset, .unset] [(.ref b3)])) st36 ?_
      refine Done.of (T' := T36) (g' := (mkF m 147 #[.val (.int p1), .val (.int p2), .unset, .val (.int (p2 &&& (3 : Int32))), .unset, .unset] [(.int (1114110 : Int32)), (.int (17 : Int32)), (.ref b3), (.ref b3)])) (fun t k => ?_) ?_
      · show Steps p.tables e below (T36.setTop (mkF m 142 #[.val (.int p1), .val (.int p2), .unset, .val (.int (p2 &&& (3 : Int32))), .unset, .unset] [(.ref b3)])) t
        refine XS.dup X36.here hx rfl (hb hby at_142) rfl rfl ?_
        show Steps p.tables e below (T36.setTop (mkF m 143 #[.val (.int p1), .val (.int p2), .unset, .val (.int (p2 &&& (3 : Int32))), .unset, .unset] [(.ref b3), (.ref b3)])) t
        refine XS.bipush X36.here hx rfl (hb hby at_143) ?_
        show Steps p.tables e below (T36.setTop (mkF m 145 #[.val (.int p1), .val (.int p2), .unset, .val (.int (p2 &&& (3 : Int32))), .unset, .unset] [(.int (17 : Int32)), (.ref b3), (.ref b3)])) t
        refine X36.ldcInt hx hown (mvT hZ (hw _ (List.mem_of_getElem? (i := 17) rfl))) (g := (mkF m 145 #[.val (.int p1), .val (.int p2), .unset, .val (.int (p2 &&& (3 : Int32))), .unset, .unset] [(.int (17 : Int32)), (.ref b3), (.ref b3)])) rfl (hb hby at_145) _ ?_
        exact k
      obtain ⟨cl_o39, Ar_o39, q_o39, S_o39, Nn_o39, H_o39, G_o39⟩ := id V36
      have hin38 : ¬ ((17 : Int32) < 0 ∨ cl_o39.slots.size ≤ ((17 : Int32)).toNatClampNeg) := inb_of S_o39 ⟨by decide, by decide⟩
      obtain ⟨T38, h38, X38, e38, W38, st38⟩ := stI X36 hx hZ e36 Ar_o39 (j := (17 : Int32)) hin38 (g := (mkF m 147 #[.val (.int p1), .val (.int p2), .unset, .val (.int (p2 &&& (3 : Int32))), .unset, .unset] [(.int (1114110 : Int32)), (.int (17 : Int32)), (.ref b3), (.ref b3)])) rfl rfl (hb hby at_147)
      have V38 : Arv Z h38 b3 k3 .int (21 : Int32) [(.int (160 : Int32)), (.int (55296 : Int32)), (.int (63744 : Int32)), (.int (64976 : Int32)), (.int (65008 : Int32)), (.int (65520 : Int32)), (.int (65536 : Int32)), (.int (131070 : Int32)), (.int (131072 : Int32)), (.int (196606 : Int32)), (.int (196608 : Int32)), (.int (524286 : Int32)), (.int (917502 : Int32)), (.int (917504 : Int32)), (.int (921600 : Int32)), (.int (983038 : Int32)), (.int (983040 : Int32)), (.int (1114110 : Int32)), (.int (0 : Int32)), (.int (0 : Int32)), (.int (0 : Int32))] (.int (0 : Int32)) := Arv.set Ar_o39 q_o39 S_o39 Nn_o39 H_o39 G_o39 rfl W38 17 rfl (Nat.le_of_ble_eq_true rfl)
      have N38 := Fr.snoc X38 N36 g_b3
      refine Done.of (g' := (mkF m 148 #[.val (.int p1), .val (.int p2), .unset, .val (.int (p2 &&& (3 : Int32))), .unset, .unset] [(.ref b3)])) st38 ?_
      refine Done.of (T' := T38) (g' := (mkF m 153 #[.val (.int p1), .val (.int p2), .unset, .val (.int (p2 &&& (3 : Int32))), .unset, .unset] [(.int (1114112 : Int32)), (.int (18 : Int32)), (.ref b3), (.ref b3)])) (fun t k => ?_) ?_
      · show Steps p.tables e below (T38.setTop (mkF m 148 #[.val (.int p1), .val (.int p2), .unset, .val (.int (p2 &&& (3 : Int32))), .unset, .unset] [(.ref b3)])) t
        refine XS.dup X38.here hx rfl (hb hby at_148) rfl rfl ?_
        show Steps p.tables e below (T38.setTop (mkF m 149 #[.val (.int p1), .val (.int p2), .unset, .val (.int (p2 &&& (3 : Int32))), .unset, .unset] [(.ref b3), (.ref b3)])) t
        refine XS.bipush X38.here hx rfl (hb hby at_149) ?_
        show Steps p.tables e below (T38.setTop (mkF m 151 #[.val (.int p1), .val (.int p2), .unset, .val (.int (p2 &&& (3 : Int32))), .unset, .unset] [(.int (18 : Int32)), (.ref b3), (.ref b3)])) t
        refine X38.ldcInt hx hown (mvT hZ (hw _ (List.mem_of_getElem? (i := 18) rfl))) (g := (mkF m 151 #[.val (.int p1), .val (.int p2), .unset, .val (.int (p2 &&& (3 : Int32))), .unset, .unset] [(.int (18 : Int32)), (.ref b3), (.ref b3)])) rfl (hb hby at_151) _ ?_
        exact k
      obtain ⟨cl_o41, Ar_o41, q_o41, S_o41, Nn_o41, H_o41, G_o41⟩ := id V38
      have hin40 : ¬ ((18 : Int32) < 0 ∨ cl_o41.slots.size ≤ ((18 : Int32)).toNatClampNeg) := inb_of S_o41 ⟨by decide, by decide⟩
      obtain ⟨T40, h40, X40, e40, W40, st40⟩ := stI X38 hx hZ e38 Ar_o41 (j := (18 : Int32)) hin40 (g := (mkF m 153 #[.val (.int p1), .val (.int p2), .unset, .val (.int (p2 &&& (3 : Int32))), .unset, .unset] [(.int (1114112 : Int32)), (.int (18 : Int32)), (.ref b3), (.ref b3)])) rfl rfl (hb hby at_153)
      have V40 : Arv Z h40 b3 k3 .int (21 : Int32) [(.int (160 : Int32)), (.int (55296 : Int32)), (.int (63744 : Int32)), (.int (64976 : Int32)), (.int (65008 : Int32)), (.int (65520 : Int32)), (.int (65536 : Int32)), (.int (131070 : Int32)), (.int (131072 : Int32)), (.int (196606 : Int32)), (.int (196608 : Int32)), (.int (524286 : Int32)), (.int (917502 : Int32)), (.int (917504 : Int32)), (.int (921600 : Int32)), (.int (983038 : Int32)), (.int (983040 : Int32)), (.int (1114110 : Int32)), (.int (1114112 : Int32)), (.int (0 : Int32)), (.int (0 : Int32))] (.int (0 : Int32)) := Arv.set Ar_o41 q_o41 S_o41 Nn_o41 H_o41 G_o41 rfl W40 18 rfl (Nat.le_of_ble_eq_true rfl)
      have N40 := Fr.snoc X40 N38 g_b3
      refine Done.of (g' := (mkF m 154 #[.val (.int p1), .val (.int p2), .unset, .val (.int (p2 &&& (3 : Int32))), .unset, .unset] [(.ref b3)])) st40 ?_
      refine Done.of (T' := T40) (g' := (mkF m 158 #[.val (.int p1), .val (.int p2), .unset, .val (.int (p2 &&& (3 : Int32))), .unset, .unset] [(.int (0 : Int32)), (.int (19 : Int32)), (.ref b3), (.ref b3)])) (fun t k => ?_) ?_
      · show Steps p.tables e below (T40.setTop (mkF m 154 #[.val (.int p1), .val (.int p2), .unset, .val (.int (p2 &&& (3 : Int32))), .unset, .unset] [(.ref b3)])) t
        refine XS.dup X40.here hx rfl (hb hby at_154) rfl rfl ?_
        show Steps p.tables e below (T40.setTop (mkF m 155 #[.val (.int p1), .val (.int p2), .unset, .val (.int (p2 &&& (3 : Int32))), .unset, .unset] [(.ref b3), (.ref b3)])) t
        refine XS.bipush X40.here hx rfl (hb hby at_155) ?_
        show Steps p.tables e below (T40.setTop (mkF m 157 #[.val (.int p1), .val (.int p2), .unset, .val (.int (p2 &&& (3 : Int32))), .unset, .unset] [(.int (19 : Int32)), (.ref b3), (.ref b3)])) t
        refine XS.iconst X40.here hx rfl (hb hby at_157) ?_
        exact k
      obtain ⟨cl_o43, Ar_o43, q_o43, S_o43, Nn_o43, H_o43, G_o43⟩ := id V40
      have hin42 : ¬ ((19 : Int32) < 0 ∨ cl_o43.slots.size ≤ ((19 : Int32)).toNatClampNeg) := inb_of S_o43 ⟨by decide, by decide⟩
      obtain ⟨T42, h42, X42, e42, W42, st42⟩ := stI X40 hx hZ e40 Ar_o43 (j := (19 : Int32)) hin42 (g := (mkF m 158 #[.val (.int p1), .val (.int p2), .unset, .val (.int (p2 &&& (3 : Int32))), .unset, .unset] [(.int (0 : Int32)), (.int (19 : Int32)), (.ref b3), (.ref b3)])) rfl rfl (hb hby at_158)
      have V42 : Arv Z h42 b3 k3 .int (21 : Int32) [(.int (160 : Int32)), (.int (55296 : Int32)), (.int (63744 : Int32)), (.int (64976 : Int32)), (.int (65008 : Int32)), (.int (65520 : Int32)), (.int (65536 : Int32)), (.int (131070 : Int32)), (.int (131072 : Int32)), (.int (196606 : Int32)), (.int (196608 : Int32)), (.int (524286 : Int32)), (.int (917502 : Int32)), (.int (917504 : Int32)), (.int (921600 : Int32)), (.int (983038 : Int32)), (.int (983040 : Int32)), (.int (1114110 : Int32)), (.int (1114112 : Int32)), (.int (0 : Int32)), (.int (0 : Int32))] (.int (0 : Int32)) := Arv.set Ar_o43 q_o43 S_o43 Nn_o43 H_o43 G_o43 rfl W42 19 rfl (Nat.le_of_ble_eq_true rfl)
      have N42 := Fr.snoc X42 N40 g_b3
      refine Done.of (g' := (mkF m 159 #[.val (.int p1), .val (.int p2), .unset, .val (.int (p2 &&& (3 : Int32))), .unset, .unset] [(.ref b3)])) st42 ?_
      refine Done.of (T' := T42) (g' := (mkF m 164 #[.val (.int p1), .val (.int p2), .unset, .val (.int (p2 &&& (3 : Int32))), .unset, .unset] [(.int (2147483647 : Int32)), (.int (20 : Int32)), (.ref b3), (.ref b3)])) (fun t k => ?_) ?_
      · show Steps p.tables e below (T42.setTop (mkF m 159 #[.val (.int p1), .val (.int p2), .unset, .val (.int (p2 &&& (3 : Int32))), .unset, .unset] [(.ref b3)])) t
        refine XS.dup X42.here hx rfl (hb hby at_159) rfl rfl ?_
        show Steps p.tables e below (T42.setTop (mkF m 160 #[.val (.int p1), .val (.int p2), .unset, .val (.int (p2 &&& (3 : Int32))), .unset, .unset] [(.ref b3), (.ref b3)])) t
        refine XS.bipush X42.here hx rfl (hb hby at_160) ?_
        show Steps p.tables e below (T42.setTop (mkF m 162 #[.val (.int p1), .val (.int p2), .unset, .val (.int (p2 &&& (3 : Int32))), .unset, .unset] [(.int (20 : Int32)), (.ref b3), (.ref b3)])) t
        refine X42.ldcInt hx hown (mvT hZ (hw _ (List.mem_of_getElem? (i := 19) rfl))) (g := (mkF m 162 #[.val (.int p1), .val (.int p2), .unset, .val (.int (p2 &&& (3 : Int32))), .unset, .unset] [(.int (20 : Int32)), (.ref b3), (.ref b3)])) rfl (hb hby at_162) _ ?_
        exact k
      obtain ⟨cl_o45, Ar_o45, q_o45, S_o45, Nn_o45, H_o45, G_o45⟩ := id V42
      have hin44 : ¬ ((20 : Int32) < 0 ∨ cl_o45.slots.size ≤ ((20 : Int32)).toNatClampNeg) := inb_of S_o45 ⟨by decide, by decide⟩
      obtain ⟨T44, h44, X44, e44, W44, st44⟩ := stI X42 hx hZ e42 Ar_o45 (j := (20 : Int32)) hin44 (g := (mkF m 164 #[.val (.int p1), .val (.int p2), .unset, .val (.int (p2 &&& (3 : Int32))), .unset, .unset] [(.int (2147483647 : Int32)), (.int (20 : Int32)), (.ref b3), (.ref b3)])) rfl rfl (hb hby at_164)
      have V44 : Arv Z h44 b3 k3 .int (21 : Int32) [(.int (160 : Int32)), (.int (55296 : Int32)), (.int (63744 : Int32)), (.int (64976 : Int32)), (.int (65008 : Int32)), (.int (65520 : Int32)), (.int (65536 : Int32)), (.int (131070 : Int32)), (.int (131072 : Int32)), (.int (196606 : Int32)), (.int (196608 : Int32)), (.int (524286 : Int32)), (.int (917502 : Int32)), (.int (917504 : Int32)), (.int (921600 : Int32)), (.int (983038 : Int32)), (.int (983040 : Int32)), (.int (1114110 : Int32)), (.int (1114112 : Int32)), (.int (0 : Int32)), (.int (2147483647 : Int32))] (.int (0 : Int32)) := Arv.set Ar_o45 q_o45 S_o45 Nn_o45 H_o45 G_o45 rfl W44 20 rfl (Nat.le_of_ble_eq_true rfl)
      have N44 := Fr.snoc X44 N42 g_b3
      refine Done.of (g' := (mkF m 165 #[.val (.int p1), .val (.int p2), .unset, .val (.int (p2 &&& (3 : Int32))), .unset, .unset] [(.ref b3)])) st44 ?_
      refine Done.of (T' := T44) (g' := (mkF m 175 #[.val (.int p1), .val (.int p2), .unset, .val (.int (p2 &&& (3 : Int32))), .val (.ref b3), .unset] [(.ref b3), (.int (((p2.toUInt32 >>> ((2 : Int32) &&& 31).toUInt32).toInt32) &&& (2147483647 : Int32)))])) (fun t k => ?_) ?_
      · show Steps p.tables e below (T44.setTop (mkF m 165 #[.val (.int p1), .val (.int p2), .unset, .val (.int (p2 &&& (3 : Int32))), .unset, .unset] [(.ref b3)])) t
        refine XS.astore X44.here hx rfl (hb hby at_165) rfl rfl (l' := #[.val (.int p1), .val (.int p2), .unset, .val (.int (p2 &&& (3 : Int32))), .val (.ref b3), .unset]) rfl ?_
        show Steps p.tables e below (T44.setTop (mkF m 167 #[.val (.int p1), .val (.int p2), .unset, .val (.int (p2 &&& (3 : Int32))), .val (.ref b3), .unset] [])) t
        refine XS.iloadN X44.here hx rfl (hb hby at_167) rfl ?_
        show Steps p.tables e below (T44.setTop (mkF m 168 #[.val (.int p1), .val (.int p2), .unset, .val (.int (p2 &&& (3 : Int32))), .val (.ref b3), .unset] [(.int p2)])) t
        refine XS.iconst X44.here hx rfl (hb hby at_168) ?_
        show Steps p.tables e below (T44.setTop (mkF m 169 #[.val (.int p1), .val (.int p2), .unset, .val (.int (p2 &&& (3 : Int32))), .val (.ref b3), .unset] [(.int (2 : Int32)), (.int p2)])) t
        refine XS.iushr X44.here hx rfl (hb hby at_169) rfl ?_
        show Steps p.tables e below (T44.setTop (mkF m 170 #[.val (.int p1), .val (.int p2), .unset, .val (.int (p2 &&& (3 : Int32))), .val (.ref b3), .unset] [(.int ((p2.toUInt32 >>> ((2 : Int32) &&& 31).toUInt32).toInt32))])) t
        refine X44.ldcInt hx hown (mvT hZ (hw _ (List.mem_of_getElem? (i := 19) rfl))) (g := (mkF m 170 #[.val (.int p1), .val (.int p2), .unset, .val (.int (p2 &&& (3 : Int32))), .val (.ref b3), .unset] [(.int ((p2.toUInt32 >>> ((2 : Int32) &&& 31).toUInt32).toInt32))])) rfl (hb hby at_170) _ ?_
        show Steps p.tables e below (T44.setTop (mkF m 172 #[.val (.int p1), .val (.int p2), .unset, .val (.int (p2 &&& (3 : Int32))), .val (.ref b3), .unset] [(.int (2147483647 : Int32)), (.int ((p2.toUInt32 >>> ((2 : Int32) &&& 31).toUInt32).toInt32))])) t
        refine XS.iand X44.here hx rfl (hb hby at_172) rfl ?_
        show Steps p.tables e below (T44.setTop (mkF m 173 #[.val (.int p1), .val (.int p2), .unset, .val (.int (p2 &&& (3 : Int32))), .val (.ref b3), .unset] [(.int (((p2.toUInt32 >>> ((2 : Int32) &&& 31).toUInt32).toInt32) &&& (2147483647 : Int32)))])) t
        refine XS.aload X44.here hx rfl (hb hby at_173) rfl rfl ?_
        exact k
      obtain ⟨cl_o46, Ar_o46, q_o46, S_o46, Nn_o46, H_o46, G_o46⟩ := id V44
      refine Done.of (T' := T44) (g' := (mkF m 183 #[.val (.int p1), .val (.int p2), .unset, .val (.int (p2 &&& (3 : Int32))), .val (.ref b3), .val (.int ((((p2.toUInt32 >>> ((2 : Int32) &&& 31).toUInt32).toInt32) &&& (2147483647 : Int32)) % (21 : Int32)))] [(.int ((((p2.toUInt32 >>> ((2 : Int32) &&& 31).toUInt32).toInt32) &&& (2147483647 : Int32)) % (21 : Int32))), (.ref b3)])) (fun t k => ?_) ?_
      · show Steps p.tables e below (T44.setTop (mkF m 175 #[.val (.int p1), .val (.int p2), .unset, .val (.int (p2 &&& (3 : Int32))), .val (.ref b3), .unset] [(.ref b3), (.int (((p2.toUInt32 >>> ((2 : Int32) &&& 31).toUInt32).toInt32) &&& (2147483647 : Int32)))])) t
        refine X44.arraylength hx (by rw [e44]; exact Ar_o46.1) (State.isArrayOf_alike hZ.alike Ar_o46.2.1) (g := (mkF m 175 #[.val (.int p1), .val (.int p2), .unset, .val (.int (p2 &&& (3 : Int32))), .val (.ref b3), .unset] [(.ref b3), (.int (((p2.toUInt32 >>> ((2 : Int32) &&& 31).toUInt32).toInt32) &&& (2147483647 : Int32)))])) rfl rfl (hb hby at_175) _ ?_
        rw [len_of S_o46 Nn_o46]
        show Steps p.tables e below (T44.setTop (mkF m 176 #[.val (.int p1), .val (.int p2), .unset, .val (.int (p2 &&& (3 : Int32))), .val (.ref b3), .unset] [(.int (21 : Int32)), (.int (((p2.toUInt32 >>> ((2 : Int32) &&& 31).toUInt32).toInt32) &&& (2147483647 : Int32)))])) t
        refine iremM X44 hx rfl (hb hby at_176) rfl (by decide) ?_
        show Steps p.tables e below (T44.setTop (mkF m 177 #[.val (.int p1), .val (.int p2), .unset, .val (.int (p2 &&& (3 : Int32))), .val (.ref b3), .unset] [(.int ((((p2.toUInt32 >>> ((2 : Int32) &&& 31).toUInt32).toInt32) &&& (2147483647 : Int32)) % (21 : Int32)))])) t
        refine XS.istore X44.here hx rfl (hb hby at_177) rfl (l' := #[.val (.int p1), .val (.int p2), .unset, .val (.int (p2 &&& (3 : Int32))), .val (.ref b3), .val (.int ((((p2.toUInt32 >>> ((2 : Int32) &&& 31).toUInt32).toInt32) &&& (2147483647 : Int32)) % (21 : Int32)))]) rfl ?_
        show Steps p.tables e below (T44.setTop (mkF m 179 #[.val (.int p1), .val (.int p2), .unset, .val (.int (p2 &&& (3 : Int32))), .val (.ref b3), .val (.int ((((p2.toUInt32 >>> ((2 : Int32) &&& 31).toUInt32).toInt32) &&& (2147483647 : Int32)) % (21 : Int32)))] [])) t
        refine XS.aload X44.here hx rfl (hb hby at_179) rfl rfl ?_
        show Steps p.tables e below (T44.setTop (mkF m 181 #[.val (.int p1), .val (.int p2), .unset, .val (.int (p2 &&& (3 : Int32))), .val (.ref b3), .val (.int ((((p2.toUInt32 >>> ((2 : Int32) &&& 31).toUInt32).toInt32) &&& (2147483647 : Int32)) % (21 : Int32)))] [(.ref b3)])) t
        refine XS.iload X44.here hx rfl (hb hby at_181) rfl ?_
        exact k
      obtain ⟨cl_o48, Ar_o48, q_o48, S_o48, Nn_o48, H_o48, G_o48⟩ := id V44
      have hin47 : ¬ (((((p2.toUInt32 >>> ((2 : Int32) &&& 31).toUInt32).toInt32) &&& (2147483647 : Int32)) % (21 : Int32)) < 0 ∨ cl_o48.slots.size ≤ (((((p2.toUInt32 >>> ((2 : Int32) &&& 31).toUInt32).toInt32) &&& (2147483647 : Int32)) % (21 : Int32))).toNatClampNeg) := inb_of S_o48 (own_in p2)
      have hat47 : cl_o48.slots[(((((p2.toUInt32 >>> ((2 : Int32) &&& 31).toUInt32).toInt32) &&& (2147483647 : Int32)) % (21 : Int32))).toNatClampNeg]? = some (.int (own_tab.getD (((((p2.toUInt32 >>> ((2 : Int32) &&& 31).toUInt32).toInt32) &&& (2147483647 : Int32)) % (21 : Int32))).toNatClampNeg 0)) := own_hat (vs := own_tab) H_o48 hin47
      refine Done.of (g' := (mkF m 184 #[.val (.int p1), .val (.int p2), .unset, .val (.int (p2 &&& (3 : Int32))), .val (.ref b3), .val (.int ((((p2.toUInt32 >>> ((2 : Int32) &&& 31).toUInt32).toInt32) &&& (2147483647 : Int32)) % (21 : Int32)))] [(.int (own_tab.getD (((((p2.toUInt32 >>> ((2 : Int32) &&& 31).toUInt32).toInt32) &&& (2147483647 : Int32)) % (21 : Int32))).toNatClampNeg 0))])) (X44.iaload hx (j := ((((p2.toUInt32 >>> ((2 : Int32) &&& 31).toUInt32).toInt32) &&& (2147483647 : Int32)) % (21 : Int32))) (v := (.int (own_tab.getD (((((p2.toUInt32 >>> ((2 : Int32) &&& 31).toUInt32).toInt32) &&& (2147483647 : Int32)) % (21 : Int32))).toNatClampNeg 0))) (by rw [e44]; exact Ar_o48.1) (State.isArrayOf_alike hZ.alike Ar_o48.2.1) Ar_o48.2.2 hin47 hat47 (g := (mkF m 183 #[.val (.int p1), .val (.int p2), .unset, .val (.int (p2 &&& (3 : Int32))), .val (.ref b3), .val (.int ((((p2.toUInt32 >>> ((2 : Int32) &&& 31).toUInt32).toInt32) &&& (2147483647 : Int32)) % (21 : Int32)))] [(.int ((((p2.toUInt32 >>> ((2 : Int32) &&& 31).toUInt32).toInt32) &&& (2147483647 : Int32)) % (21 : Int32))), (.ref b3)])) rfl rfl (hb hby at_183)) ?_
      refine Done.of (T' := T44) (g' := (mkF m 189 #[.val (.int p1), .val (.int p2), .val (.int ((own_tab.getD (((((p2.toUInt32 >>> ((2 : Int32) &&& 31).toUInt32).toInt32) &&& (2147483647 : Int32)) % (21 : Int32))).toNatClampNeg 0) + (p1 % (3 : Int32)))), .val (.int (p2 &&& (3 : Int32))), .val (.ref b3), .val (.int ((((p2.toUInt32 >>> ((2 : Int32) &&& 31).toUInt32).toInt32) &&& (2147483647 : Int32)) % (21 : Int32)))] [])) (fun t k => ?_) ?_
      · show Steps p.tables e below (T44.setTop (mkF m 184 #[.val (.int p1), .val (.int p2), .unset, .val (.int (p2 &&& (3 : Int32))), .val (.ref b3), .val (.int ((((p2.toUInt32 >>> ((2 : Int32) &&& 31).toUInt32).toInt32) &&& (2147483647 : Int32)) % (21 : Int32)))] [(.int (own_tab.getD (((((p2.toUInt32 >>> ((2 : Int32) &&& 31).toUInt32).toInt32) &&& (2147483647 : Int32)) % (21 : Int32))).toNatClampNeg 0))])) t
        refine XS.iloadN X44.here hx rfl (hb hby at_184) rfl ?_
        show Steps p.tables e below (T44.setTop (mkF m 185 #[.val (.int p1), .val (.int p2), .unset, .val (.int (p2 &&& (3 : Int32))), .val (.ref b3), .val (.int ((((p2.toUInt32 >>> ((2 : Int32) &&& 31).toUInt32).toInt32) &&& (2147483647 : Int32)) % (21 : Int32)))] [(.int p1), (.int (own_tab.getD (((((p2.toUInt32 >>> ((2 : Int32) &&& 31).toUInt32).toInt32) &&& (2147483647 : Int32)) % (21 : Int32))).toNatClampNeg 0))])) t
        refine XS.iconst X44.here hx rfl (hb hby at_185) ?_
        show Steps p.tables e below (T44.setTop (mkF m 186 #[.val (.int p1), .val (.int p2), .unset, .val (.int (p2 &&& (3 : Int32))), .val (.ref b3), .val (.int ((((p2.toUInt32 >>> ((2 : Int32) &&& 31).toUInt32).toInt32) &&& (2147483647 : Int32)) % (21 : Int32)))] [(.int (3 : Int32)), (.int p1), (.int (own_tab.getD (((((p2.toUInt32 >>> ((2 : Int32) &&& 31).toUInt32).toInt32) &&& (2147483647 : Int32)) % (21 : Int32))).toNatClampNeg 0))])) t
        refine iremM X44 hx rfl (hb hby at_186) rfl (by decide) ?_
        show Steps p.tables e below (T44.setTop (mkF m 187 #[.val (.int p1), .val (.int p2), .unset, .val (.int (p2 &&& (3 : Int32))), .val (.ref b3), .val (.int ((((p2.toUInt32 >>> ((2 : Int32) &&& 31).toUInt32).toInt32) &&& (2147483647 : Int32)) % (21 : Int32)))] [(.int (p1 % (3 : Int32))), (.int (own_tab.getD (((((p2.toUInt32 >>> ((2 : Int32) &&& 31).toUInt32).toInt32) &&& (2147483647 : Int32)) % (21 : Int32))).toNatClampNeg 0))])) t
        refine XS.iadd X44.here hx rfl (hb hby at_187) rfl ?_
        show Steps p.tables e below (T44.setTop (mkF m 188 #[.val (.int p1), .val (.int p2), .unset, .val (.int (p2 &&& (3 : Int32))), .val (.ref b3), .val (.int ((((p2.toUInt32 >>> ((2 : Int32) &&& 31).toUInt32).toInt32) &&& (2147483647 : Int32)) % (21 : Int32)))] [(.int ((own_tab.getD (((((p2.toUInt32 >>> ((2 : Int32) &&& 31).toUInt32).toInt32) &&& (2147483647 : Int32)) % (21 : Int32))).toNatClampNeg 0) + (p1 % (3 : Int32))))])) t
        refine XS.istoreN X44.here hx rfl (hb hby at_188) rfl (l' := #[.val (.int p1), .val (.int p2), .val (.int ((own_tab.getD (((((p2.toUInt32 >>> ((2 : Int32) &&& 31).toUInt32).toInt32) &&& (2147483647 : Int32)) % (21 : Int32))).toNatClampNeg 0) + (p1 % (3 : Int32)))), .val (.int (p2 &&& (3 : Int32))), .val (.ref b3), .val (.int ((((p2.toUInt32 >>> ((2 : Int32) &&& 31).toUInt32).toInt32) &&& (2147483647 : Int32)) % (21 : Int32)))]) rfl ?_
        exact k
      exact bk0_189 hx hZ hw hby hml hown hnm hret hlk X44 N44 e44 p1 p2 ((own_tab.getD (((((p2.toUInt32 >>> ((2 : Int32) &&& 31).toUInt32).toInt32) &&& (2147483647 : Int32)) % (21 : Int32))).toNatClampNeg 0) + (p1 % (3 : Int32))) (p2 &&& (3 : Int32)) (.val (.ref b3)) (.val (.int ((((p2.toUInt32 >>> ((2 : Int32) &&& 31).toUInt32).toInt32) &&& (2147483647 : Int32)) % (21 : Int32)))) (One.val rfl) (One.val rfl) (Nat.le_trans (Nat.le_trans (Nat.le_trans (Nat.le_trans (Nat.le_trans (Nat.le_trans (Nat.le_trans (Nat.le_trans (Nat.le_trans (Nat.le_trans (Nat.le_trans (Nat.le_trans (Nat.le_trans (Nat.le_trans (Nat.le_trans (Nat.le_trans (Nat.le_trans (Nat.le_trans (Nat.le_trans (Nat.le_trans (Nat.le_trans (Nat.le_trans Z0 E3.1) (Keep.of_wr W4).1) (Keep.of_wr W6).1) (Keep.of_wr W8).1) (Keep.of_wr W10).1) (Keep.of_wr W12).1) (Keep.of_wr W14).1) (Keep.of_wr W16).1) (Keep.of_wr W18).1) (Keep.of_wr W20).1) (Keep.of_wr W22).1) (Keep.of_wr W24).1) (Keep.of_wr W26).1) (Keep.of_wr W28).1) (Keep.of_wr W30).1) (Keep.of_wr W32).1) (Keep.of_wr W34).1) (Keep.of_wr W36).1) (Keep.of_wr W38).1) (Keep.of_wr W40).1) (Keep.of_wr W42).1) (Keep.of_wr W44).1)
theorem own_rv (c A B f v : Int32) {a b : Int} (hA : A.toInt = a) (hB : B.toInt = b) : (if c < A then f else (if B < c then f else v)) = if (a ≤ c.toInt ∧ c.toInt ≤ b) then v else f := by
  simp only [Int32.lt_iff_toInt_lt]
  repeat' split
  all_goals first | rfl | (exfalso; omega)
theorem own_ei (c A f v : Int32) {a : Int} (hA : A.toInt = a) : (if c = A then f else v) = if c.toInt = a then f else v := by
  rw [← hA]; by_cases h : c = A
  · rw [if_pos h, if_pos (by rw [h])]
  · rw [if_neg h, if_neg (fun q => h (Int32.toInt_inj.mp q))]
theorem own_li (c A f v : Int32) {a : Int} (hA : A.toInt = a) : (if c < A then f else v) = if c.toInt < a then f else v := by
  simp only [Int32.lt_iff_toInt_lt, hA]
theorem own_gi (c A f v : Int32) {a : Int} (hA : A.toInt = a) : (if A < c then f else v) = if a < c.toInt then f else v := by
  simp only [Int32.lt_iff_toInt_lt, hA]
theorem own_gm (c A f v : Int32) {a : Int} (hA : A.toInt = a) : (if A < (c &&& (65535 : Int32)) then f else v) = if a < c.toInt % 65536 then f else v := by
  have m := c_mask c 65535 16 (by decide) (by decide)
  have e : ((2 ^ 16 : Nat) : Int) = 65536 := rfl
  simp only [Int32.lt_iff_toInt_lt, hA, m, e]
theorem own_R1_43 (i0 : Int32) : F1_43 i0 = (1 : Int32) := by
  unfold F1_43; rfl
theorem own_R1_31 (i0 : Int32) : F1_31 i0 = (if (65008 ≤ i0.toInt ∧ i0.toInt ≤ 65519) then (F1_43 i0) else (0 : Int32)) := by
  unfold F1_31; rw [own_rv i0 (65008 : Int32) (65519 : Int32) _ _ (a := 65008) (b := 65519) rfl rfl]
theorem own_R1_19 (i0 : Int32) : F1_19 i0 = (if (63744 ≤ i0.toInt ∧ i0.toInt ≤ 64975) then (F1_43 i0) else (F1_31 i0)) := by
  unfold F1_19; rw [own_rv i0 (63744 : Int32) (64975 : Int32) _ _ (a := 63744) (b := 64975) rfl rfl]
theorem own_R1_0 (p1 : Int32) : F1_0 p1 = (if p1.toInt < 65536 then (if (160 ≤ p1.toInt ∧ p1.toInt ≤ 55295) then (F1_43 p1) else (F1_19 p1)) else (if p1.toInt < 983040 then (if 65533 < p1.toInt % 65536 then (0 : Int32) else (if p1.toInt < 917504 then (1 : Int32) else (if p1.toInt < 921600 then (0 : Int32) else (1 : Int32)))) else (0 : Int32))) := by
  unfold F1_0; rw [own_li p1 (65536 : Int32) _ _ (a := 65536) rfl, own_rv p1 (160 : Int32) (55295 : Int32) _ _ (a := 160) (b := 55295) rfl rfl, own_li p1 (983040 : Int32) _ _ (a := 983040) rfl, own_gm p1 (65533 : Int32) _ _ (a := 65533) rfl, own_li p1 (917504 : Int32) _ _ (a := 917504) rfl, own_li p1 (921600 : Int32) _ _ (a := 921600) rfl]
theorem own_R2_225 (i0 : Int32) : F2_225 i0 = (if (921600 ≤ i0.toInt ∧ i0.toInt ≤ 983037) then (1 : Int32) else (0 : Int32)) := by
  unfold F2_225; rw [own_rv i0 (921600 : Int32) (983037 : Int32) _ _ (a := 921600) (b := 983037) rfl rfl]
theorem own_R2_211 (i0 : Int32) : F2_211 i0 = (if (851968 ≤ i0.toInt ∧ i0.toInt ≤ 917501) then (1 : Int32) else (F2_225 i0)) := by
  unfold F2_211; rw [own_rv i0 (851968 : Int32) (917501 : Int32) _ _ (a := 851968) (b := 917501) rfl rfl]
theorem own_R2_197 (i0 : Int32) : F2_197 i0 = (if (786432 ≤ i0.toInt ∧ i0.toInt ≤ 851965) then (1 : Int32) else (F2_211 i0)) := by
  unfold F2_197; rw [own_rv i0 (786432 : Int32) (851965 : Int32) _ _ (a := 786432) (b := 851965) rfl rfl]
theorem own_R2_183 (i0 : Int32) : F2_183 i0 = (if (720896 ≤ i0.toInt ∧ i0.toInt ≤ 786429) then (1 : Int32) else (F2_197 i0)) := by
  unfold F2_183; rw [own_rv i0 (720896 : Int32) (786429 : Int32) _ _ (a := 720896) (b := 786429) rfl rfl]
theorem own_R2_169 (i0 : Int32) : F2_169 i0 = (if (655360 ≤ i0.toInt ∧ i0.toInt ≤ 720893) then (1 : Int32) else (F2_183 i0)) := by
  unfold F2_169; rw [own_rv i0 (655360 : Int32) (720893 : Int32) _ _ (a := 655360) (b := 720893) rfl rfl]
theorem own_R2_155 (i0 : Int32) : F2_155 i0 = (if (589824 ≤ i0.toInt ∧ i0.toInt ≤ 655357) then (1 : Int32) else (F2_169 i0)) := by
  unfold F2_155; rw [own_rv i0 (589824 : Int32) (655357 : Int32) _ _ (a := 589824) (b := 655357) rfl rfl]
theorem own_R2_141 (i0 : Int32) : F2_141 i0 = (if (524288 ≤ i0.toInt ∧ i0.toInt ≤ 589821) then (1 : Int32) else (F2_155 i0)) := by
  unfold F2_141; rw [own_rv i0 (524288 : Int32) (589821 : Int32) _ _ (a := 524288) (b := 589821) rfl rfl]
theorem own_R2_127 (i0 : Int32) : F2_127 i0 = (if (458752 ≤ i0.toInt ∧ i0.toInt ≤ 524285) then (1 : Int32) else (F2_141 i0)) := by
  unfold F2_127; rw [own_rv i0 (458752 : Int32) (524285 : Int32) _ _ (a := 458752) (b := 524285) rfl rfl]
theorem own_R2_113 (i0 : Int32) : F2_113 i0 = (if (393216 ≤ i0.toInt ∧ i0.toInt ≤ 458749) then (1 : Int32) else (F2_127 i0)) := by
  unfold F2_113; rw [own_rv i0 (393216 : Int32) (458749 : Int32) _ _ (a := 393216) (b := 458749) rfl rfl]
theorem own_R2_99 (i0 : Int32) : F2_99 i0 = (if (327680 ≤ i0.toInt ∧ i0.toInt ≤ 393213) then (1 : Int32) else (F2_113 i0)) := by
  unfold F2_99; rw [own_rv i0 (327680 : Int32) (393213 : Int32) _ _ (a := 327680) (b := 393213) rfl rfl]
theorem own_R2_85 (i0 : Int32) : F2_85 i0 = (if (262144 ≤ i0.toInt ∧ i0.toInt ≤ 327677) then (1 : Int32) else (F2_99 i0)) := by
  unfold F2_85; rw [own_rv i0 (262144 : Int32) (327677 : Int32) _ _ (a := 262144) (b := 327677) rfl rfl]
theorem own_R2_71 (i0 : Int32) : F2_71 i0 = (if (196608 ≤ i0.toInt ∧ i0.toInt ≤ 262141) then (1 : Int32) else (F2_85 i0)) := by
  unfold F2_71; rw [own_rv i0 (196608 : Int32) (262141 : Int32) _ _ (a := 196608) (b := 262141) rfl rfl]
theorem own_R2_57 (i0 : Int32) : F2_57 i0 = (if (131072 ≤ i0.toInt ∧ i0.toInt ≤ 196605) then (1 : Int32) else (F2_71 i0)) := by
  unfold F2_57; rw [own_rv i0 (131072 : Int32) (196605 : Int32) _ _ (a := 131072) (b := 196605) rfl rfl]
theorem own_R2_43 (i0 : Int32) : F2_43 i0 = (if (65536 ≤ i0.toInt ∧ i0.toInt ≤ 131069) then (1 : Int32) else (F2_57 i0)) := by
  unfold F2_43; rw [own_rv i0 (65536 : Int32) (131069 : Int32) _ _ (a := 65536) (b := 131069) rfl rfl]
theorem own_R2_29 (i0 : Int32) : F2_29 i0 = (if (65008 ≤ i0.toInt ∧ i0.toInt ≤ 65519) then (1 : Int32) else (F2_43 i0)) := by
  unfold F2_29; rw [own_rv i0 (65008 : Int32) (65519 : Int32) _ _ (a := 65008) (b := 65519) rfl rfl]
theorem own_R2_15 (i0 : Int32) : F2_15 i0 = (if (63744 ≤ i0.toInt ∧ i0.toInt ≤ 64975) then (1 : Int32) else (F2_29 i0)) := by
  unfold F2_15; rw [own_rv i0 (63744 : Int32) (64975 : Int32) _ _ (a := 63744) (b := 64975) rfl rfl]
theorem own_R2_0 (p1 : Int32) : F2_0 p1 = (if (160 ≤ p1.toInt ∧ p1.toInt ≤ 55295) then (1 : Int32) else (F2_15 p1)) := by
  unfold F2_0; rw [own_rv p1 (160 : Int32) (55295 : Int32) _ _ (a := 160) (b := 55295) rfl rfl]
theorem own_eq_0 (c : Int32) (h2 : c.toInt ≤ 159) : F1_0 c = F2_0 c := by
  rw [own_R1_0, if_pos (by omega), if_neg (by omega), own_R1_19, if_neg (by omega), own_R1_31, if_neg (by omega)]
  rw [own_R2_0, if_neg (by omega), own_R2_15, if_neg (by omega), own_R2_29, if_neg (by omega), own_R2_43, if_neg (by omega), own_R2_57, if_neg (by omega), own_R2_71, if_neg (by omega), own_R2_85, if_neg (by omega), own_R2_99, if_neg (by omega), own_R2_113, if_neg (by omega), own_R2_127, if_neg (by omega), own_R2_141, if_neg (by omega), own_R2_155, if_neg (by omega), own_R2_169, if_neg (by omega), own_R2_183, if_neg (by omega), own_R2_197, if_neg (by omega), own_R2_211, if_neg (by omega), own_R2_225, if_neg (by omega)]
theorem own_eq_1 (c : Int32) (h1 : 160 ≤ c.toInt) (h2 : c.toInt ≤ 55295) : F1_0 c = F2_0 c := by
  rw [own_R1_0, if_pos (by omega), if_pos (by omega), own_R1_43]
  rw [own_R2_0, if_pos (by omega)]
theorem own_eq_2 (c : Int32) (h1 : 55296 ≤ c.toInt) (h2 : c.toInt ≤ 63743) : F1_0 c = F2_0 c := by
  rw [own_R1_0, if_pos (by omega), if_neg (by omega), own_R1_19, if_neg (by omega), own_R1_31, if_neg (by omega)]
  rw [own_R2_0, if_neg (by omega), own_R2_15, if_neg (by omega), own_R2_29, if_neg (by omega), own_R2_43, if_neg (by omega), own_R2_57, if_neg (by omega), own_R2_71, if_neg (by omega), own_R2_85, if_neg (by omega), own_R2_99, if_neg (by omega), own_R2_113, if_neg (by omega), own_R2_127, if_neg (by omega), own_R2_141, if_neg (by omega), own_R2_155, if_neg (by omega), own_R2_169, if_neg (by omega), own_R2_183, if_neg (by omega), own_R2_197, if_neg (by omega), own_R2_211, if_neg (by omega), own_R2_225, if_neg (by omega)]
theorem own_eq_3 (c : Int32) (h1 : 63744 ≤ c.toInt) (h2 : c.toInt ≤ 64975) : F1_0 c = F2_0 c := by
  rw [own_R1_0, if_pos (by omega), if_neg (by omega), own_R1_19, if_pos (by omega), own_R1_43]
  rw [own_R2_0, if_neg (by omega), own_R2_15, if_pos (by omega)]
theorem own_eq_4 (c : Int32) (h1 : 64976 ≤ c.toInt) (h2 : c.toInt ≤ 65007) : F1_0 c = F2_0 c := by
  rw [own_R1_0, if_pos (by omega), if_neg (by omega), own_R1_19, if_neg (by omega), own_R1_31, if_neg (by omega)]
  rw [own_R2_0, if_neg (by omega), own_R2_15, if_neg (by omega), own_R2_29, if_neg (by omega), own_R2_43, if_neg (by omega), own_R2_57, if_neg (by omega), own_R2_71, if_neg (by omega), own_R2_85, if_neg (by omega), own_R2_99, if_neg (by omega), own_R2_113, if_neg (by omega), own_R2_127, if_neg (by omega), own_R2_141, if_neg (by omega), own_R2_155, if_neg (by omega), own_R2_169, if_neg (by omega), own_R2_183, if_neg (by omega), own_R2_197, if_neg (by omega), own_R2_211, if_neg (by omega), own_R2_225, if_neg (by omega)]
theorem own_eq_5 (c : Int32) (h1 : 65008 ≤ c.toInt) (h2 : c.toInt ≤ 65519) : F1_0 c = F2_0 c := by
  rw [own_R1_0, if_pos (by omega), if_neg (by omega), own_R1_19, if_neg (by omega), own_R1_31, if_pos (by omega), own_R1_43]
  rw [own_R2_0, if_neg (by omega), own_R2_15, if_neg (by omega), own_R2_29, if_pos (by omega)]
theorem own_eq_6 (c : Int32) (h1 : 65520 ≤ c.toInt) (h2 : c.toInt ≤ 65535) : F1_0 c = F2_0 c := by
  rw [own_R1_0, if_pos (by omega), if_neg (by omega), own_R1_19, if_neg (by omega), own_R1_31, if_neg (by omega)]
  rw [own_R2_0, if_neg (by omega), own_R2_15, if_neg (by omega), own_R2_29, if_neg (by omega), own_R2_43, if_neg (by omega), own_R2_57, if_neg (by omega), own_R2_71, if_neg (by omega), own_R2_85, if_neg (by omega), own_R2_99, if_neg (by omega), own_R2_113, if_neg (by omega), own_R2_127, if_neg (by omega), own_R2_141, if_neg (by omega), own_R2_155, if_neg (by omega), own_R2_169, if_neg (by omega), own_R2_183, if_neg (by omega), own_R2_197, if_neg (by omega), own_R2_211, if_neg (by omega), own_R2_225, if_neg (by omega)]
theorem own_eq_7 (c : Int32) (h1 : 65536 ≤ c.toInt) (h2 : c.toInt ≤ 131069) : F1_0 c = F2_0 c := by
  rw [own_R1_0, if_neg (by omega), if_pos (by omega), if_neg (by omega), if_pos (by omega)]
  rw [own_R2_0, if_neg (by omega), own_R2_15, if_neg (by omega), own_R2_29, if_neg (by omega), own_R2_43, if_pos (by omega)]
theorem own_eq_8 (c : Int32) (h1 : 131070 ≤ c.toInt) (h2 : c.toInt ≤ 131071) : F1_0 c = F2_0 c := by
  rw [own_R1_0, if_neg (by omega), if_pos (by omega), if_pos (by omega)]
  rw [own_R2_0, if_neg (by omega), own_R2_15, if_neg (by omega), own_R2_29, if_neg (by omega), own_R2_43, if_neg (by omega), own_R2_57, if_neg (by omega), own_R2_71, if_neg (by omega), own_R2_85, if_neg (by omega), own_R2_99, if_neg (by omega), own_R2_113, if_neg (by omega), own_R2_127, if_neg (by omega), own_R2_141, if_neg (by omega), own_R2_155, if_neg (by omega), own_R2_169, if_neg (by omega), own_R2_183, if_neg (by omega), own_R2_197, if_neg (by omega), own_R2_211, if_neg (by omega), own_R2_225, if_neg (by omega)]
theorem own_eq_9 (c : Int32) (h1 : 131072 ≤ c.toInt) (h2 : c.toInt ≤ 196605) : F1_0 c = F2_0 c := by
  rw [own_R1_0, if_neg (by omega), if_pos (by omega), if_neg (by omega), if_pos (by omega)]
  rw [own_R2_0, if_neg (by omega), own_R2_15, if_neg (by omega), own_R2_29, if_neg (by omega), own_R2_43, if_neg (by omega), own_R2_57, if_pos (by omega)]
theorem own_eq_10 (c : Int32) (h1 : 196606 ≤ c.toInt) (h2 : c.toInt ≤ 196607) : F1_0 c = F2_0 c := by
  rw [own_R1_0, if_neg (by omega), if_pos (by omega), if_pos (by omega)]
  rw [own_R2_0, if_neg (by omega), own_R2_15, if_neg (by omega), own_R2_29, if_neg (by omega), own_R2_43, if_neg (by omega), own_R2_57, if_neg (by omega), own_R2_71, if_neg (by omega), own_R2_85, if_neg (by omega), own_R2_99, if_neg (by omega), own_R2_113, if_neg (by omega), own_R2_127, if_neg (by omega), own_R2_141, if_neg (by omega), own_R2_155, if_neg (by omega), own_R2_169, if_neg (by omega), own_R2_183, if_neg (by omega), own_R2_197, if_neg (by omega), own_R2_211, if_neg (by omega), own_R2_225, if_neg (by omega)]
theorem own_eq_11 (c : Int32) (h1 : 196608 ≤ c.toInt) (h2 : c.toInt ≤ 262141) : F1_0 c = F2_0 c := by
  rw [own_R1_0, if_neg (by omega), if_pos (by omega), if_neg (by omega), if_pos (by omega)]
  rw [own_R2_0, if_neg (by omega), own_R2_15, if_neg (by omega), own_R2_29, if_neg (by omega), own_R2_43, if_neg (by omega), own_R2_57, if_neg (by omega), own_R2_71, if_pos (by omega)]
theorem own_eq_12 (c : Int32) (h1 : 262142 ≤ c.toInt) (h2 : c.toInt ≤ 262143) : F1_0 c = F2_0 c := by
  rw [own_R1_0, if_neg (by omega), if_pos (by omega), if_pos (by omega)]
  rw [own_R2_0, if_neg (by omega), own_R2_15, if_neg (by omega), own_R2_29, if_neg (by omega), own_R2_43, if_neg (by omega), own_R2_57, if_neg (by omega), own_R2_71, if_neg (by omega), own_R2_85, if_neg (by omega), own_R2_99, if_neg (by omega), own_R2_113, if_neg (by omega), own_R2_127, if_neg (by omega), own_R2_141, if_neg (by omega), own_R2_155, if_neg (by omega), own_R2_169, if_neg (by omega), own_R2_183, if_neg (by omega), own_R2_197, if_neg (by omega), own_R2_211, if_neg (by omega), own_R2_225, if_neg (by omega)]
theorem own_eq_13 (c : Int32) (h1 : 262144 ≤ c.toInt) (h2 : c.toInt ≤ 327677) : F1_0 c = F2_0 c := by
  rw [own_R1_0, if_neg (by omega), if_pos (by omega), if_neg (by omega), if_pos (by omega)]
  rw [own_R2_0, if_neg (by omega), own_R2_15, if_neg (by omega), own_R2_29, if_neg (by omega), own_R2_43, if_neg (by omega), own_R2_57, if_neg (by omega), own_R2_71, if_neg (by omega), own_R2_85, if_pos (by omega)]
theorem own_eq_14 (c : Int32) (h1 : 327678 ≤ c.toInt) (h2 : c.toInt ≤ 327679) : F1_0 c = F2_0 c := by
  rw [own_R1_0, if_neg (by omega), if_pos (by omega), if_pos (by omega)]
  rw [own_R2_0, if_neg (by omega), own_R2_15, if_neg (by omega), own_R2_29, if_neg (by omega), own_R2_43, if_neg (by omega), own_R2_57, if_neg (by omega), own_R2_71, if_neg (by omega), own_R2_85, if_neg (by omega), own_R2_99, if_neg (by omega), own_R2_113, if_neg (by omega), own_R2_127, if_neg (by omega), own_R2_141, if_neg (by omega), own_R2_155, if_neg (by omega), own_R2_169, if_neg (by omega), own_R2_183, if_neg (by omega), own_R2_197, if_neg (by omega), own_R2_211, if_neg (by omega), own_R2_225, if_neg (by omega)]
theorem own_eq_15 (c : Int32) (h1 : 327680 ≤ c.toInt) (h2 : c.toInt ≤ 393213) : F1_0 c = F2_0 c := by
  rw [own_R1_0, if_neg (by omega), if_pos (by omega), if_neg (by omega), if_pos (by omega)]
  rw [own_R2_0, if_neg (by omega), own_R2_15, if_neg (by omega), own_R2_29, if_neg (by omega), own_R2_43, if_neg (by omega), own_R2_57, if_neg (by omega), own_R2_71, if_neg (by omega), own_R2_85, if_neg (by omega), own_R2_99, if_pos (by omega)]
theorem own_eq_16 (c : Int32) (h1 : 393214 ≤ c.toInt) (h2 : c.toInt ≤ 393215) : F1_0 c = F2_0 c := by
  rw [own_R1_0, if_neg (by omega), if_pos (by omega), if_pos (by omega)]
  rw [own_R2_0, if_neg (by omega), own_R2_15, if_neg (by omega), own_R2_29, if_neg (by omega), own_R2_43, if_neg (by omega), own_R2_57, if_neg (by omega), own_R2_71, if_neg (by omega), own_R2_85, if_neg (by omega), own_R2_99, if_neg (by omega), own_R2_113, if_neg (by omega), own_R2_127, if_neg (by omega), own_R2_141, if_neg (by omega), own_R2_155, if_neg (by omega), own_R2_169, if_neg (by omega), own_R2_183, if_neg (by omega), own_R2_197, if_neg (by omega), own_R2_211, if_neg (by omega), own_R2_225, if_neg (by omega)]
theorem own_eq_17 (c : Int32) (h1 : 393216 ≤ c.toInt) (h2 : c.toInt ≤ 458749) : F1_0 c = F2_0 c := by
  rw [own_R1_0, if_neg (by omega), if_pos (by omega), if_neg (by omega), if_pos (by omega)]
  rw [own_R2_0, if_neg (by omega), own_R2_15, if_neg (by omega), own_R2_29, if_neg (by omega), own_R2_43, if_neg (by omega), own_R2_57, if_neg (by omega), own_R2_71, if_neg (by omega), own_R2_85, if_neg (by omega), own_R2_99, if_neg (by omega), own_R2_113, if_pos (by omega)]
theorem own_eq_18 (c : Int32) (h1 : 458750 ≤ c.toInt) (h2 : c.toInt ≤ 458751) : F1_0 c = F2_0 c := by
  rw [own_R1_0, if_neg (by omega), if_pos (by omega), if_pos (by omega)]
  rw [own_R2_0, if_neg (by omega), own_R2_15, if_neg (by omega), own_R2_29, if_neg (by omega), own_R2_43, if_neg (by omega), own_R2_57, if_neg (by omega), own_R2_71, if_neg (by omega), own_R2_85, if_neg (by omega), own_R2_99, if_neg (by omega), own_R2_113, if_neg (by omega), own_R2_127, if_neg (by omega), own_R2_141, if_neg (by omega), own_R2_155, if_neg (by omega), own_R2_169, if_neg (by omega), own_R2_183, if_neg (by omega), own_R2_197, if_neg (by omega), own_R2_211, if_neg (by omega), own_R2_225, if_neg (by omega)]
theorem own_eq_19 (c : Int32) (h1 : 458752 ≤ c.toInt) (h2 : c.toInt ≤ 524285) : F1_0 c = F2_0 c := by
  rw [own_R1_0, if_neg (by omega), if_pos (by omega), if_neg (by omega), if_pos (by omega)]
  rw [own_R2_0, if_neg (by omega), own_R2_15, if_neg (by omega), own_R2_29, if_neg (by omega), own_R2_43, if_neg (by omega), own_R2_57, if_neg (by omega), own_R2_71, if_neg (by omega), own_R2_85, if_neg (by omega), own_R2_99, if_neg (by omega), own_R2_113, if_neg (by omega), own_R2_127, if_pos (by omega)]
theorem own_eq_20 (c : Int32) (h1 : 524286 ≤ c.toInt) (h2 : c.toInt ≤ 524287) : F1_0 c = F2_0 c := by
  rw [own_R1_0, if_neg (by omega), if_pos (by omega), if_pos (by omega)]
  rw [own_R2_0, if_neg (by omega), own_R2_15, if_neg (by omega), own_R2_29, if_neg (by omega), own_R2_43, if_neg (by omega), own_R2_57, if_neg (by omega), own_R2_71, if_neg (by omega), own_R2_85, if_neg (by omega), own_R2_99, if_neg (by omega), own_R2_113, if_neg (by omega), own_R2_127, if_neg (by omega), own_R2_141, if_neg (by omega), own_R2_155, if_neg (by omega), own_R2_169, if_neg (by omega), own_R2_183, if_neg (by omega), own_R2_197, if_neg (by omega), own_R2_211, if_neg (by omega), own_R2_225, if_neg (by omega)]
theorem own_eq_21 (c : Int32) (h1 : 524288 ≤ c.toInt) (h2 : c.toInt ≤ 589821) : F1_0 c = F2_0 c := by
  rw [own_R1_0, if_neg (by omega), if_pos (by omega), if_neg (by omega), if_pos (by omega)]
  rw [own_R2_0, if_neg (by omega), own_R2_15, if_neg (by omega), own_R2_29, if_neg (by omega), own_R2_43, if_neg (by omega), own_R2_57, if_neg (by omega), own_R2_71, if_neg (by omega), own_R2_85, if_neg (by omega), own_R2_99, if_neg (by omega), own_R2_113, if_neg (by omega), own_R2_127, if_neg (by omega), own_R2_141, if_pos (by omega)]
theorem own_eq_22 (c : Int32) (h1 : 589822 ≤ c.toInt) (h2 : c.toInt ≤ 589823) : F1_0 c = F2_0 c := by
  rw [own_R1_0, if_neg (by omega), if_pos (by omega), if_pos (by omega)]
  rw [own_R2_0, if_neg (by omega), own_R2_15, if_neg (by omega), own_R2_29, if_neg (by omega), own_R2_43, if_neg (by omega), own_R2_57, if_neg (by omega), own_R2_71, if_neg (by omega), own_R2_85, if_neg (by omega), own_R2_99, if_neg (by omega), own_R2_113, if_neg (by omega), own_R2_127, if_neg (by omega), own_R2_141, if_neg (by omega), own_R2_155, if_neg (by omega), own_R2_169, if_neg (by omega), own_R2_183, if_neg (by omega), own_R2_197, if_neg (by omega), own_R2_211, if_neg (by omega), own_R2_225, if_neg (by omega)]
theorem own_eq_23 (c : Int32) (h1 : 589824 ≤ c.toInt) (h2 : c.toInt ≤ 655357) : F1_0 c = F2_0 c := by
  rw [own_R1_0, if_neg (by omega), if_pos (by omega), if_neg (by omega), if_pos (by omega)]
  rw [own_R2_0, if_neg (by omega), own_R2_15, if_neg (by omega), own_R2_29, if_neg (by omega), own_R2_43, if_neg (by omega), own_R2_57, if_neg (by omega), own_R2_71, if_neg (by omega), own_R2_85, if_neg (by omega), own_R2_99, if_neg (by omega), own_R2_113, if_neg (by omega), own_R2_127, if_neg (by omega), own_R2_141, if_neg (by omega), own_R2_155, if_pos (by omega)]
theorem own_eq_24 (c : Int32) (h1 : 655358 ≤ c.toInt) (h2 : c.toInt ≤ 655359) : F1_0 c = F2_0 c := by
  rw [own_R1_0, if_neg (by omega), if_pos (by omega), if_pos (by omega)]
  rw [own_R2_0, if_neg (by omega), own_R2_15, if_neg (by omega), own_R2_29, if_neg (by omega), own_R2_43, if_neg (by omega), own_R2_57, if_neg (by omega), own_R2_71, if_neg (by omega), own_R2_85, if_neg (by omega), own_R2_99, if_neg (by omega), own_R2_113, if_neg (by omega), own_R2_127, if_neg (by omega), own_R2_141, if_neg (by omega), own_R2_155, if_neg (by omega), own_R2_169, if_neg (by omega), own_R2_183, if_neg (by omega), own_R2_197, if_neg (by omega), own_R2_211, if_neg (by omega), own_R2_225, if_neg (by omega)]
theorem own_eq_25 (c : Int32) (h1 : 655360 ≤ c.toInt) (h2 : c.toInt ≤ 720893) : F1_0 c = F2_0 c := by
  rw [own_R1_0, if_neg (by omega), if_pos (by omega), if_neg (by omega), if_pos (by omega)]
  rw [own_R2_0, if_neg (by omega), own_R2_15, if_neg (by omega), own_R2_29, if_neg (by omega), own_R2_43, if_neg (by omega), own_R2_57, if_neg (by omega), own_R2_71, if_neg (by omega), own_R2_85, if_neg (by omega), own_R2_99, if_neg (by omega), own_R2_113, if_neg (by omega), own_R2_127, if_neg (by omega), own_R2_141, if_neg (by omega), own_R2_155, if_neg (by omega), own_R2_169, if_pos (by omega)]
theorem own_eq_26 (c : Int32) (h1 : 720894 ≤ c.toInt) (h2 : c.toInt ≤ 720895) : F1_0 c = F2_0 c := by
  rw [own_R1_0, if_neg (by omega), if_pos (by omega), if_pos (by omega)]
  rw [own_R2_0, if_neg (by omega), own_R2_15, if_neg (by omega), own_R2_29, if_neg (by omega), own_R2_43, if_neg (by omega), own_R2_57, if_neg (by omega), own_R2_71, if_neg (by omega), own_R2_85, if_neg (by omega), own_R2_99, if_neg (by omega), own_R2_113, if_neg (by omega), own_R2_127, if_neg (by omega), own_R2_141, if_neg (by omega), own_R2_155, if_neg (by omega), own_R2_169, if_neg (by omega), own_R2_183, if_neg (by omega), own_R2_197, if_neg (by omega), own_R2_211, if_neg (by omega), own_R2_225, if_neg (by omega)]
theorem own_eq_27 (c : Int32) (h1 : 720896 ≤ c.toInt) (h2 : c.toInt ≤ 786429) : F1_0 c = F2_0 c := by
  rw [own_R1_0, if_neg (by omega), if_pos (by omega), if_neg (by omega), if_pos (by omega)]
  rw [own_R2_0, if_neg (by omega), own_R2_15, if_neg (by omega), own_R2_29, if_neg (by omega), own_R2_43, if_neg (by omega), own_R2_57, if_neg (by omega), own_R2_71, if_neg (by omega), own_R2_85, if_neg (by omega), own_R2_99, if_neg (by omega), own_R2_113, if_neg (by omega), own_R2_127, if_neg (by omega), own_R2_141, if_neg (by omega), own_R2_155, if_neg (by omega), own_R2_169, if_neg (by omega), own_R2_183, if_pos (by omega)]
theorem own_eq_28 (c : Int32) (h1 : 786430 ≤ c.toInt) (h2 : c.toInt ≤ 786431) : F1_0 c = F2_0 c := by
  rw [own_R1_0, if_neg (by omega), if_pos (by omega), if_pos (by omega)]
  rw [own_R2_0, if_neg (by omega), own_R2_15, if_neg (by omega), own_R2_29, if_neg (by omega), own_R2_43, if_neg (by omega), own_R2_57, if_neg (by omega), own_R2_71, if_neg (by omega), own_R2_85, if_neg (by omega), own_R2_99, if_neg (by omega), own_R2_113, if_neg (by omega), own_R2_127, if_neg (by omega), own_R2_141, if_neg (by omega), own_R2_155, if_neg (by omega), own_R2_169, if_neg (by omega), own_R2_183, if_neg (by omega), own_R2_197, if_neg (by omega), own_R2_211, if_neg (by omega), own_R2_225, if_neg (by omega)]
theorem own_eq_29 (c : Int32) (h1 : 786432 ≤ c.toInt) (h2 : c.toInt ≤ 851965) : F1_0 c = F2_0 c := by
  rw [own_R1_0, if_neg (by omega), if_pos (by omega), if_neg (by omega), if_pos (by omega)]
  rw [own_R2_0, if_neg (by omega), own_R2_15, if_neg (by omega), own_R2_29, if_neg (by omega), own_R2_43, if_neg (by omega), own_R2_57, if_neg (by omega), own_R2_71, if_neg (by omega), own_R2_85, if_neg (by omega), own_R2_99, if_neg (by omega), own_R2_113, if_neg (by omega), own_R2_127, if_neg (by omega), own_R2_141, if_neg (by omega), own_R2_155, if_neg (by omega), own_R2_169, if_neg (by omega), own_R2_183, if_neg (by omega), own_R2_197, if_pos (by omega)]
theorem own_eq_30 (c : Int32) (h1 : 851966 ≤ c.toInt) (h2 : c.toInt ≤ 851967) : F1_0 c = F2_0 c := by
  rw [own_R1_0, if_neg (by omega), if_pos (by omega), if_pos (by omega)]
  rw [own_R2_0, if_neg (by omega), own_R2_15, if_neg (by omega), own_R2_29, if_neg (by omega), own_R2_43, if_neg (by omega), own_R2_57, if_neg (by omega), own_R2_71, if_neg (by omega), own_R2_85, if_neg (by omega), own_R2_99, if_neg (by omega), own_R2_113, if_neg (by omega), own_R2_127, if_neg (by omega), own_R2_141, if_neg (by omega), own_R2_155, if_neg (by omega), own_R2_169, if_neg (by omega), own_R2_183, if_neg (by omega), own_R2_197, if_neg (by omega), own_R2_211, if_neg (by omega), own_R2_225, if_neg (by omega)]
theorem own_eq_31 (c : Int32) (h1 : 851968 ≤ c.toInt) (h2 : c.toInt ≤ 917501) : F1_0 c = F2_0 c := by
  rw [own_R1_0, if_neg (by omega), if_pos (by omega), if_neg (by omega), if_pos (by omega)]
  rw [own_R2_0, if_neg (by omega), own_R2_15, if_neg (by omega), own_R2_29, if_neg (by omega), own_R2_43, if_neg (by omega), own_R2_57, if_neg (by omega), own_R2_71, if_neg (by omega), own_R2_85, if_neg (by omega), own_R2_99, if_neg (by omega), own_R2_113, if_neg (by omega), own_R2_127, if_neg (by omega), own_R2_141, if_neg (by omega), own_R2_155, if_neg (by omega), own_R2_169, if_neg (by omega), own_R2_183, if_neg (by omega), own_R2_197, if_neg (by omega), own_R2_211, if_pos (by omega)]
theorem own_eq_32 (c : Int32) (h1 : 917502 ≤ c.toInt) (h2 : c.toInt ≤ 917503) : F1_0 c = F2_0 c := by
  rw [own_R1_0, if_neg (by omega), if_pos (by omega), if_pos (by omega)]
  rw [own_R2_0, if_neg (by omega), own_R2_15, if_neg (by omega), own_R2_29, if_neg (by omega), own_R2_43, if_neg (by omega), own_R2_57, if_neg (by omega), own_R2_71, if_neg (by omega), own_R2_85, if_neg (by omega), own_R2_99, if_neg (by omega), own_R2_113, if_neg (by omega), own_R2_127, if_neg (by omega), own_R2_141, if_neg (by omega), own_R2_155, if_neg (by omega), own_R2_169, if_neg (by omega), own_R2_183, if_neg (by omega), own_R2_197, if_neg (by omega), own_R2_211, if_neg (by omega), own_R2_225, if_neg (by omega)]
theorem own_eq_33 (c : Int32) (h1 : 917504 ≤ c.toInt) (h2 : c.toInt ≤ 921599) : F1_0 c = F2_0 c := by
  rw [own_R1_0, if_neg (by omega), if_pos (by omega), if_neg (by omega), if_neg (by omega), if_pos (by omega)]
  rw [own_R2_0, if_neg (by omega), own_R2_15, if_neg (by omega), own_R2_29, if_neg (by omega), own_R2_43, if_neg (by omega), own_R2_57, if_neg (by omega), own_R2_71, if_neg (by omega), own_R2_85, if_neg (by omega), own_R2_99, if_neg (by omega), own_R2_113, if_neg (by omega), own_R2_127, if_neg (by omega), own_R2_141, if_neg (by omega), own_R2_155, if_neg (by omega), own_R2_169, if_neg (by omega), own_R2_183, if_neg (by omega), own_R2_197, if_neg (by omega), own_R2_211, if_neg (by omega), own_R2_225, if_neg (by omega)]
theorem own_eq_34 (c : Int32) (h1 : 921600 ≤ c.toInt) (h2 : c.toInt ≤ 983037) : F1_0 c = F2_0 c := by
  rw [own_R1_0, if_neg (by omega), if_pos (by omega), if_neg (by omega), if_neg (by omega), if_neg (by omega)]
  rw [own_R2_0, if_neg (by omega), own_R2_15, if_neg (by omega), own_R2_29, if_neg (by omega), own_R2_43, if_neg (by omega), own_R2_57, if_neg (by omega), own_R2_71, if_neg (by omega), own_R2_85, if_neg (by omega), own_R2_99, if_neg (by omega), own_R2_113, if_neg (by omega), own_R2_127, if_neg (by omega), own_R2_141, if_neg (by omega), own_R2_155, if_neg (by omega), own_R2_169, if_neg (by omega), own_R2_183, if_neg (by omega), own_R2_197, if_neg (by omega), own_R2_211, if_neg (by omega), own_R2_225, if_pos (by omega)]
theorem own_eq_35 (c : Int32) (h1 : 983038 ≤ c.toInt) (h2 : c.toInt ≤ 983039) : F1_0 c = F2_0 c := by
  rw [own_R1_0, if_neg (by omega), if_pos (by omega), if_pos (by omega)]
  rw [own_R2_0, if_neg (by omega), own_R2_15, if_neg (by omega), own_R2_29, if_neg (by omega), own_R2_43, if_neg (by omega), own_R2_57, if_neg (by omega), own_R2_71, if_neg (by omega), own_R2_85, if_neg (by omega), own_R2_99, if_neg (by omega), own_R2_113, if_neg (by omega), own_R2_127, if_neg (by omega), own_R2_141, if_neg (by omega), own_R2_155, if_neg (by omega), own_R2_169, if_neg (by omega), own_R2_183, if_neg (by omega), own_R2_197, if_neg (by omega), own_R2_211, if_neg (by omega), own_R2_225, if_neg (by omega)]
theorem own_eq_36 (c : Int32) (h1 : 983040 ≤ c.toInt) (h2 : c.toInt ≤ 1048573) : F1_0 c = F2_0 c := by
  rw [own_R1_0, if_neg (by omega), if_neg (by omega)]
  rw [own_R2_0, if_neg (by omega), own_R2_15, if_neg (by omega), own_R2_29, if_neg (by omega), own_R2_43, if_neg (by omega), own_R2_57, if_neg (by omega), own_R2_71, if_neg (by omega), own_R2_85, if_neg (by omega), own_R2_99, if_neg (by omega), own_R2_113, if_neg (by omega), own_R2_127, if_neg (by omega), own_R2_141, if_neg (by omega), own_R2_155, if_neg (by omega), own_R2_169, if_neg (by omega), own_R2_183, if_neg (by omega), own_R2_197, if_neg (by omega), own_R2_211, if_neg (by omega), own_R2_225, if_neg (by omega)]
theorem own_eq_37 (c : Int32) (h1 : 1048574 ≤ c.toInt) (h2 : c.toInt ≤ 1048575) : F1_0 c = F2_0 c := by
  rw [own_R1_0, if_neg (by omega), if_neg (by omega)]
  rw [own_R2_0, if_neg (by omega), own_R2_15, if_neg (by omega), own_R2_29, if_neg (by omega), own_R2_43, if_neg (by omega), own_R2_57, if_neg (by omega), own_R2_71, if_neg (by omega), own_R2_85, if_neg (by omega), own_R2_99, if_neg (by omega), own_R2_113, if_neg (by omega), own_R2_127, if_neg (by omega), own_R2_141, if_neg (by omega), own_R2_155, if_neg (by omega), own_R2_169, if_neg (by omega), own_R2_183, if_neg (by omega), own_R2_197, if_neg (by omega), own_R2_211, if_neg (by omega), own_R2_225, if_neg (by omega)]
theorem own_eq_38 (c : Int32) (h1 : 1048576 ≤ c.toInt) : F1_0 c = F2_0 c := by
  rw [own_R1_0, if_neg (by omega), if_neg (by omega)]
  rw [own_R2_0, if_neg (by omega), own_R2_15, if_neg (by omega), own_R2_29, if_neg (by omega), own_R2_43, if_neg (by omega), own_R2_57, if_neg (by omega), own_R2_71, if_neg (by omega), own_R2_85, if_neg (by omega), own_R2_99, if_neg (by omega), own_R2_113, if_neg (by omega), own_R2_127, if_neg (by omega), own_R2_141, if_neg (by omega), own_R2_155, if_neg (by omega), own_R2_169, if_neg (by omega), own_R2_183, if_neg (by omega), own_R2_197, if_neg (by omega), own_R2_211, if_neg (by omega), own_R2_225, if_neg (by omega)]
theorem own_eq (c : Int32) : F1_0 c = F2_0 c := by
  by_cases g0 : c.toInt < 160
  · exact own_eq_0 c (by omega)
  by_cases g1 : c.toInt < 55296
  · exact own_eq_1 c (by omega) (by omega)
  by_cases g2 : c.toInt < 63744
  · exact own_eq_2 c (by omega) (by omega)
  by_cases g3 : c.toInt < 64976
  · exact own_eq_3 c (by omega) (by omega)
  by_cases g4 : c.toInt < 65008
  · exact own_eq_4 c (by omega) (by omega)
  by_cases g5 : c.toInt < 65520
  · exact own_eq_5 c (by omega) (by omega)
  by_cases g6 : c.toInt < 65536
  · exact own_eq_6 c (by omega) (by omega)
  by_cases g7 : c.toInt < 131070
  · exact own_eq_7 c (by omega) (by omega)
  by_cases g8 : c.toInt < 131072
  · exact own_eq_8 c (by omega) (by omega)
  by_cases g9 : c.toInt < 196606
  · exact own_eq_9 c (by omega) (by omega)
  by_cases g10 : c.toInt < 196608
  · exact own_eq_10 c (by omega) (by omega)
  by_cases g11 : c.toInt < 262142
  · exact own_eq_11 c (by omega) (by omega)
  by_cases g12 : c.toInt < 262144
  · exact own_eq_12 c (by omega) (by omega)
  by_cases g13 : c.toInt < 327678
  · exact own_eq_13 c (by omega) (by omega)
  by_cases g14 : c.toInt < 327680
  · exact own_eq_14 c (by omega) (by omega)
  by_cases g15 : c.toInt < 393214
  · exact own_eq_15 c (by omega) (by omega)
  by_cases g16 : c.toInt < 393216
  · exact own_eq_16 c (by omega) (by omega)
  by_cases g17 : c.toInt < 458750
  · exact own_eq_17 c (by omega) (by omega)
  by_cases g18 : c.toInt < 458752
  · exact own_eq_18 c (by omega) (by omega)
  by_cases g19 : c.toInt < 524286
  · exact own_eq_19 c (by omega) (by omega)
  by_cases g20 : c.toInt < 524288
  · exact own_eq_20 c (by omega) (by omega)
  by_cases g21 : c.toInt < 589822
  · exact own_eq_21 c (by omega) (by omega)
  by_cases g22 : c.toInt < 589824
  · exact own_eq_22 c (by omega) (by omega)
  by_cases g23 : c.toInt < 655358
  · exact own_eq_23 c (by omega) (by omega)
  by_cases g24 : c.toInt < 655360
  · exact own_eq_24 c (by omega) (by omega)
  by_cases g25 : c.toInt < 720894
  · exact own_eq_25 c (by omega) (by omega)
  by_cases g26 : c.toInt < 720896
  · exact own_eq_26 c (by omega) (by omega)
  by_cases g27 : c.toInt < 786430
  · exact own_eq_27 c (by omega) (by omega)
  by_cases g28 : c.toInt < 786432
  · exact own_eq_28 c (by omega) (by omega)
  by_cases g29 : c.toInt < 851966
  · exact own_eq_29 c (by omega) (by omega)
  by_cases g30 : c.toInt < 851968
  · exact own_eq_30 c (by omega) (by omega)
  by_cases g31 : c.toInt < 917502
  · exact own_eq_31 c (by omega) (by omega)
  by_cases g32 : c.toInt < 917504
  · exact own_eq_32 c (by omega) (by omega)
  by_cases g33 : c.toInt < 921600
  · exact own_eq_33 c (by omega) (by omega)
  by_cases g34 : c.toInt < 983038
  · exact own_eq_34 c (by omega) (by omega)
  by_cases g35 : c.toInt < 983040
  · exact own_eq_35 c (by omega) (by omega)
  by_cases g36 : c.toInt < 1048574
  · exact own_eq_36 c (by omega) (by omega)
  by_cases g37 : c.toInt < 1048576
  · exact own_eq_37 c (by omega) (by omega)
  exact own_eq_38 c (by omega)
theorem own_law (p1 p2 : Int32) : F0_0 p1 p2 = 1 := by
  unfold F0_0 F0_189
  rw [if_pos (own_eq _), if_pos (own_eq _), if_pos (own_eq _)]
  repeat' split
  all_goals rfl
theorem ef_0 (m : MethodId) (p1 : Int32) (p2 : Int32) : entryFrame m #[(.int p1), (.int p2)] maxLocals = mkF m 0 #[.val (.int p1), .val (.int p2), .unset, .unset, .unset, .unset] [] := by first | (simp [entryFrame, mkF, argsToLocals, Value.category, maxLocals]; done) | rfl
theorem pn_0 : plainName "com/example/pilotfish/pilotfish/formats/UriReferencesIsUcscharPinLaw" = true := by first | (simp [plainName, overriddenIn]; done) | decide +kernel
set_option maxRecDepth 65536 in
set_option maxHeartbeats 40000000 in
theorem rm0 (l : Launch) (Z : State) (a0 : Array Value) (hw : ∀ d ∈ tables_1, d.before a0 Z = true) (ws : List Jvm.Cond) (p1 : Int32) (p2 : Int32) (h0 : Heap) (n0 : Nat) (Z0 : n0 ≤ h0.size) :
    MetFree l x (head1 (Jvm.Cond.code x code maxLocals ret :: ws) room_1) (fun a U => a = #[(.int p1), (.int p2)] ∧ Z.Warmed39 U.vm ∧ U.heap = h0) (fun _ _ _ _ _ => True) (fun _ U o U' => ∃ v L, o = .returned v ∧ (Ql n0 (.int 1)) v U'.heap L ∧ FrameEnd U o U' L room_1.cells room_1.slots) := by
  refine MetFree.of_bodySF (plainFor_of_name pn_0) hisR ?_
  intro p e s m args below meth c s₁ Bd hml0 hP hK
  obtain ⟨rfl, hZ, hh⟩ := hP
  have hown : s.vm.findClass "com/example/pilotfish/pilotfish/formats/UriReferencesIsUcscharPinLaw" = some m.cls := findClass_of_methodNamed Bd.named
  have hnm := (name_of_methodNamed Bd.named Bd.method).1
  have X0 : Stand p l e room_1 s m #[(.int p1), (.int p2)] below meth c s₁ [] 0 0 := Stand.of_body Bd
  have e0 : s₁.heap = h0 := by rw [← hh, Bd.state]; rfl
  have d := bk0_0 (n0 := n0) Bd.exec hZ hw Bd.bytes hml0 hown hnm Bd.returns (BodyLoose.notSynchronized Bd) X0 (Fr.nil n0) e0 p1 p2 Z0
  rw [own_law p1 p2] at d
  have d2 : Done p e below s room_1 (Ql n0 (.int 1)) s₁ (entryFrame m #[(.int p1), (.int p2)] maxLocals) := by rw [ef_0]; exact d
  exact d2
set_option maxRecDepth 65536 in
set_option maxHeartbeats 40000000 in
theorem comes_1 {Post : Tables → Env → Array Value → State → Outcome → State → Prop} (hpost : ∀ tb e args s v u, (limb_1_1.after args s (.returned v) u = true ∧ limb_1_2.after args s (.returned v) u = true ∧ True) → FrameEnd s (.returned v) u (Jvm.fieldLocs frame_1_writes args s ++ Jvm.arrayLocs frame_1_arrays args s ++ Jvm.staticLocs frame_1_statics s) 16 128 → Post tb e args s (.returned v) u) :
    ArmFor flags0 classFile x code maxLocals ret World_1 tables_1 room_1 Calls_1 rest_1 Pre_1 Post := by
  intro l hfl _ _ p e ha hc hk s m args below hf hA hF happ hP
  obtain ⟨hcalls, hrest, hpre⟩ := hP
  obtain ⟨-, -, -, hnamed, -, -, -, hat⟩ := (Spec.applies_iff hf).mp happ
  obtain ⟨hg, hn⟩ := and_e (Cond.before_iff.mp (show (Jvm.Cond.and given_1 narrow_1).before args s = true from hpre))
  obtain ⟨g0, r0⟩ := and_e hg
  obtain ⟨v0, r1⟩ := and_e r0
  obtain ⟨w0, w1, rfl⟩ : ∃ w0 w1 : Value, args = #[w0, w1] := by
    have hs : args.size = 2 := by simpa [Cond.value, given_1] using g0
    obtain ⟨L⟩ := args
    match L, hs with
    | [w0, w1], _ => exact ⟨w0, w1, rfl⟩
  have hw := fun d (hd : d ∈ tables_1) => atoms_spec (ws := Jvm.Cond.code x code maxLocals ret :: tables_1) hat d (List.mem_cons_of_mem _ hd)
  obtain ⟨i0, ei0⟩ := is_v v0
  obtain rfl : w0 = (.int i0) := Option.some.inj ei0
  obtain ⟨i1, ei1⟩ := is_v r1
  obtain rfl : w1 = (.int i1) := Option.some.inj ei1
  obtain ⟨n, o, h1, h2, h3, _, L, rfl, ⟨rfl, N⟩, hq⟩ := rm0 l s _ hw tables_1 i0 i1 s.heap s.heap.size (Nat.le_refl _) p e ha hc hk s m _ below hf ((Spec.applies_iff_loose hf).mp happ).1 ⟨rfl, State.Warmed39.refl s, rfl⟩ trivial
  refine ⟨n, _, h1, h2, h3, hpost _ _ _ _ _ _ ⟨Cond.after_iff.mpr rfl, Cond.after_iff.mpr (eq_i res_at (Term.int_eval (1)) rfl), trivial⟩ ⟨hq.1, hq.2.1, (hq.2.2.sift fun y hy => Or.inr (N y hy)).mono (by decide) (by decide)⟩⟩
theorem main_1_1 : Claimed_1_1 := comes_1 fun _ _ _ _ _ _ h hF => ⟨h.1, hF⟩
theorem main_1_2 : Claimed_1_2 := comes_1 fun _ _ _ _ _ _ h hF => ⟨h.2.1, hF⟩
end Jvm.Pilot.@@N@@
namespace Jvm.Pilot.@@N@@
open Jvm Jvm.ClassFile Sem Op Lib Jvm.Free Jvm.Stand Jvm.Pilot.@@N@@.Jvm.D
/-! MADE BY PROGRAM (witnessworld.py) out of the Statement's table words and the real class files: 9 classes; the members and pool entries that the words name. The judged class is class 1, her method 1. -/
namespace start1
open Jvm.ClassFile
def u (s : String) : CpInfo := .utf8 (stringToUtf16 s)
/-- a pool by its gaps: so many unusable entries, then the entry; so many at the end -/
def gap : Nat → List CpInfo → List CpInfo
  | 0, r => r
  | n + 1, r => .unusable :: gap n r
def poolList (es : List (Nat × CpInfo)) (last : Nat) : List CpInfo := es.foldr (fun e r => gap e.1 (e.2 :: r)) (gap last [])
def pool (es : List (Nat × CpInfo)) (last : Nat) : Array CpInfo := ⟨poolList es last⟩
def fileOf (pool : Array CpInfo) (this : Nat) (attrs : Array Attribute := #[]) (ms : Array MethodInfo := #[]) (fl : Nat := 33) (sup : Nat := 0) (ifs : Array Nat := #[]) (fds : Array FieldInfo := #[]) : ClassFile where
  minorVersion := 0
  majorVersion := 65
  constantPool := pool
  accessFlags := fl
  thisClass := this
  superClass := sup
  interfaces := ifs
  fields := fds
  methods := ms
  attributes := attrs
def plain (name : String) (sup : Option ClassId) : Class where
  name := name
  kind := .ordinary
  loader := none
  accessFlags := 33
  super := sup
  interfaces := #[]
  cf := none
  fields := #[]
  methods := #[]
  instanceTypes := #[]
  staticTypes := #[]
  resolved := #[]
  callSites := []
  init := .initialized
  statics := none
  mirror := none

def pool0 : Array CpInfo := pool [(5, u "<init>"), (0, u "()V"), (1, .class_ 10), (1, u "java/lang/Object")] 113

def k0m0 : Method := { name := "<init>", desc := "()V", sig := { parameters := [], returnType := none }, accessFlags := 1, code := none }
/-- java/lang/Object -/
def k0 : Class := { plain "java/lang/Object" none with
  accessFlags := 33
  interfaces := #[]
  cf := some (fileOf pool0 8 #[] #[{ accessFlags := 1, nameIndex := 5, descriptorIndex := 6, attributes := #[] }] 33 0 #[] #[])
  fields := #[]
  methods := #[k0m0]
  instanceTypes := #[]
  staticTypes := #[]
  resolved := Array.replicate 124 none
  statics := none }

def pool1 : Array CpInfo := pool [(2, .class_ 4), (1, u "java/lang/Object"), (0, u "<init>"), (0, u "()V"), (0, .integer 65535), (0, .integer 55296), (0, .integer 63744), (0, .integer 64976), (0, .integer 65008), (0, .integer 65520), (0, .integer 65536), (0, .integer 131070), (0, .integer 131072), (0, .integer 196606), (0, .integer 196608), (0, .integer 524286), (0, .integer 917502), (0, .integer 917504), (0, .integer 921600), (0, .integer 983038), (0, .integer 983040), (0, .integer 1114110), (0, .integer 1114112), (0, .integer 2147483647), (0, .methodref 28 29), (0, .class_ 30), (0, .nameAndType 31 32), (0, u "com/example/pilotfish/pilotfish/formats/UriReferences"), (0, u "isUcschar"), (0, u "(I)Z"), (0, .methodref 34 35), (0, .class_ 36), (0, .nameAndType 37 32), (0, u "com/example/pilotfish/pilotfish/formats/UriReferencesIsUcscharPinLaw"), (0, u "ref"), (0, .integer 55295), (0, .integer 64975), (0, .integer 65519), (0, .integer 131069), (0, .integer 196605), (0, .integer 262141), (0, .integer 262144), (0, .integer 327677), (0, .integer 327680), (0, .integer 393213), (0, .integer 393216), (0, .integer 458749), (0, .integer 458752), (0, .integer 524285), (0, .integer 524288), (0, .integer 589821), (0, .integer 589824), (0, .integer 655357), (0, .integer 655360), (0, .integer 720893), (0, .integer 720896), (0, .integer 786429), (0, .integer 786432), (0, .integer 851965), (0, .integer 851968), (0, .integer 917501), (0, .integer 983037), (2, u "law"), (0, u "(II)Z")] 3

def k1m0 : Method := { name := "<init>", desc := "()V", sig := { parameters := [], returnType := none }, accessFlags := 2, code := none }
def k1c1 : Code := { maxStack := 4, maxLocals := 6, code := code, exceptionTable := #[], attributes := #[] }
def k1m1 : Method := { name := "law", desc := "(II)Z", sig := { parameters := [.int, .int], returnType := some .boolean }, accessFlags := 9, code := some k1c1 }
def k1c2 : Code := { maxStack := 2, maxLocals := 1, code := method_3_code, exceptionTable := #[], attributes := #[] }
def k1m2 : Method := { name := "ref", desc := "(I)Z", sig := { parameters := [.int], returnType := some .boolean }, accessFlags := 10, code := some k1c2 }
/-- com/example/pilotfish/pilotfish/formats/UriReferencesIsUcscharPinLaw -/
def k1 : Class := { plain "com/example/pilotfish/pilotfish/formats/UriReferencesIsUcscharPinLaw" (some 0) with
  accessFlags := 49
  interfaces := #[]
  cf := some (fileOf pool1 34 #[] #[{ accessFlags := 2, nameIndex := 5, descriptorIndex := 6, attributes := #[] }, { accessFlags := 9, nameIndex := 67, descriptorIndex := 68, attributes := #[] }, { accessFlags := 10, nameIndex := 37, descriptorIndex := 32, attributes := #[] }] 49 2 #[] #[])
  fields := #[]
  methods := #[k1m0, k1m1, k1m2]
  instanceTypes := #[]
  staticTypes := #[]
  resolved := Array.replicate 72 none
  statics := none }

def pool2 : Array CpInfo := pool [(2, .class_ 4), (1, u "java/lang/Object"), (0, u "<init>"), (0, u "()V"), (1, .class_ 10), (1, u "com/example/pilotfish/pilotfish/formats/UriReferences"), (5, .integer 65536), (0, .integer 55295), (0, .integer 63744), (0, .integer 64975), (0, .integer 65008), (0, .integer 65519), (0, .integer 983040), (0, .integer 65535), (0, .integer 65533), (0, .integer 917504), (0, .integer 921600), (18, u "(I)Z"), (8, .class_ 55), (0, u "com/example/pilotfish/pilotfish/formats/UriReferences$Reader"), (42, u "isUcschar"), (2, u "SUB_DELIMITERS"), (0, u "Ljava/lang/String;"), (14, .class_ 118), (0, u "com/example/pilotfish/pilotfish/formats/UriReferences$Part")] 3

def k2m0 : Method := { name := "<init>", desc := "()V", sig := { parameters := [], returnType := none }, accessFlags := 2, code := none }
def k2c1 : Code := { maxStack := 2, maxLocals := 2, code := prog_20_method_6_code, exceptionTable := #[], attributes := #[] }
def k2m1 : Method := { name := "isUcschar", desc := "(I)Z", sig := { parameters := [.int], returnType := some .boolean }, accessFlags := 8, code := some k2c1 }
/-- com/example/pilotfish/pilotfish/formats/UriReferences -/
def k2 : Class := { plain "com/example/pilotfish/pilotfish/formats/UriReferences" (some 0) with
  accessFlags := 48
  interfaces := #[]
  cf := some (fileOf pool2 8 #[.nestMembers #[54, 117]] #[{ accessFlags := 2, nameIndex := 5, descriptorIndex := 6, attributes := #[] }, { accessFlags := 8, nameIndex := 98, descriptorIndex := 45, attributes := #[] }] 48 2 #[] #[{ accessFlags := 26, nameIndex := 101, descriptorIndex := 102, attributes := #[] }])
  fields := #[{ name := "SUB_DELIMITERS", type := (.object "java/lang/String"), accessFlags := 26, slot := 0, constantValue := 0 }]
  methods := #[k2m0, k2m1]
  instanceTypes := #[]
  staticTypes := #[(.object "java/lang/String")]
  resolved := Array.replicate 122 none
  statics := none }

def pool3 : Array CpInfo := pool [(1, u "java/lang/Cloneable"), (0, .class_ 1), (0, u "java/lang/Object"), (0, .class_ 3)] 3

/-- java/lang/Cloneable -/
def k3 : Class := { plain "java/lang/Cloneable" (some 0) with
  accessFlags := 1537
  interfaces := #[]
  cf := some (fileOf pool3 2 #[] #[] 1537 4 #[] #[])
  fields := #[]
  methods := #[]
  instanceTypes := #[]
  staticTypes := #[]
  resolved := Array.replicate 8 none
  statics := none }

def pool4 : Array CpInfo := pool [(1, u "java/io/Serializable"), (0, .class_ 1), (0, u "java/lang/Object"), (0, .class_ 3)] 3

/-- java/io/Serializable -/
def k4 : Class := { plain "java/io/Serializable" (some 0) with
  accessFlags := 1537
  interfaces := #[]
  cf := some (fileOf pool4 2 #[] #[] 1537 4 #[] #[])
  fields := #[]
  methods := #[]
  instanceTypes := #[]
  staticTypes := #[]
  resolved := Array.replicate 8 none
  statics := none }

/-- the primitive byte -/
def k5 : Class := { plain "byte" none with kind := .primitive 'B', accessFlags := 0x411 }
/-- [B -/
def k6 : Class := { plain "[B" (some 0) with kind := .array 5 .byte, interfaces := #[3, 4], accessFlags := 1041 }

/-- the primitive int -/
def k7 : Class := { plain "int" none with kind := .primitive 'I', accessFlags := 0x411 }
/-- [I -/
def k8 : Class := { plain "[I" (some 0) with kind := .array 7 .int, interfaces := #[3, 4], accessFlags := 1041 }

def heap : Heap := #[]
def classes : Array Class := #[k0, k1, k2, k3, k4, k5, k6, k7, k8]
def interned : List (Array UInt16 × Addr) := []
def slotsUsed : Nat := 0
def theMethod : MethodId := ⟨1, 1⟩
def args0 : Array Value := #[.int 5, .int 5]
def aboutOver (below : List Frame) : State where
  vm := { classes := classes, interned := interned.toArray }
  heap := heap
  slotsUsed := slotsUsed
  threads := #[{ frames := .invoking theMethod args0 :: below }]
def below0 : List Frame := [.native { method := ⟨0, 0⟩, args := #[] }]
def about1 : State := aboutOver below0
def p0 : Program := .bare "" "" ""
def e0 : Env := launch0.env 0 0 0
theorem w_frames : about1.frames = Frame.invoking theMethod args0 :: below0 := rfl
set_option maxRecDepth 65536 in
theorem w_args : argsFit about1.vm theMethod args0 = true := by decide +kernel
set_option maxRecDepth 65536 in
theorem w_heap : heapFits about1 = true := by decide +kernel
set_option maxRecDepth 65536 in
theorem w_runnable : about1.curStatus? = some .runnable := by decide +kernel
set_option maxRecDepth 65536 in
theorem w_alone : about1.alone = true := by decide +kernel
set_option maxRecDepth 65536 in
theorem w_named : about1.methodNamed? x = some theMethod := by decide +kernel
set_option maxRecDepth 65536 in
theorem w_hears : about1.hears theMethod below0 = true := by decide +kernel
set_option maxRecDepth 65536 in
theorem w_ripe : about1.ripe theMethod args0 below0 = true := by decide +kernel
theorem w_running : about1.status = .running := rfl
set_option maxRecDepth 65536 in
theorem w_room : about1.hasRoom e0.platform room_1 = true :=
  launch0.hasRoom_least _ room_1 (by decide +kernel) (by decide +kernel) (by decide +kernel) (by decide +kernel) (by decide +kernel) (by decide +kernel)
theorem allAtoms_all (ts : List Jvm.Cond) (a : Array Jvm.Value) (st : Jvm.State) : (allAtoms ts).before a st = ts.all (fun c => c.before a st) := by
  induction ts with
  | nil => rfl
  | cons c t ih =>
    show (Jvm.Cond.and c (allAtoms t)).before a st = _
    rw [Jvm.Cond.before_and, ih, List.all_cons]
def words1 : List Jvm.Cond := Jvm.Cond.code x code maxLocals ret :: tables_1
/-- a 'code' word, met by the world's own term for the bytes: nothing is compared byte by byte -/
theorem code_word {y : MethodName} {bytes : ByteArray} {mx : Nat} {rt : Option FieldType} {a : Array Value} {s : State} {m : MethodId} {meth : Method} {c : Code} (h1 : s.methodNamed? y = some m) (h2 : s.vm.method? m = some meth) (h3 : meth.code = some c) (h4 : c.code = bytes)
    (h5 : (c.maxLocals == mx && c.exceptionTable.isEmpty && decide (c.maxStack ≤ mostOperands) && decide (meth.sig.returnType = rt) && !meth.locks && decide (parseMethodDescriptor y.desc = some meth.sig)) = true) : (Jvm.Cond.code y bytes mx rt).before a s = true := by
  simp only [Bool.and_eq_true, beq_iff_eq, Bool.not_eq_true', decide_eq_true_eq] at h5
  obtain ⟨⟨⟨⟨⟨g1, g2⟩, g3⟩, g4⟩, g5⟩, g6⟩ := h5
  simp [Cond.before, Cond.holds, Cond.value, h1, h2, h3, h4, g1, g2, g3, g4, g5, g6]
def isCode : Jvm.Cond → Bool
  | .code _ _ _ _ => true
  | _ => false
theorem all_split {L : List Jvm.Cond} {P : Jvm.Cond → Bool} (h1 : L.all (fun c => isCode c || P c) = true) (h2 : ∀ c ∈ L.filter isCode, P c = true) : L.all P = true := by
  refine List.all_eq_true.mpr fun c hc => ?_
  have h := List.all_eq_true.mp h1 c hc
  rcases Bool.eq_false_or_eq_true (isCode c) with hi | hi
  · exact h2 c (List.mem_filter.mpr ⟨hc, hi⟩)
  · simpa [hi] using h
set_option maxRecDepth 65536 in
theorem w_c0 : (Jvm.Cond.code x code maxLocals ret).before args0 about1 = true := code_word (m := ⟨1, 1⟩) (meth := k1m1) (c := k1c1) (by decide +kernel) rfl rfl rfl (by decide +kernel)
set_option maxRecDepth 65536 in
theorem w_c1 : (Jvm.Cond.code ({ cls := "com/example/pilotfish/pilotfish/formats/UriReferences", name := "isUcschar", desc := "(I)Z" } : Jvm.MethodName) prog_20_method_6_code (2 : Nat) (Option.some Jvm.ClassFile.FieldType.boolean)).before args0 about1 = true := code_word (m := ⟨2, 1⟩) (meth := k2m1) (c := k2c1) (by decide +kernel) rfl rfl rfl (by decide +kernel)
set_option maxRecDepth 65536 in
theorem w_c2 : (Jvm.Cond.code ({ cls := "com/example/pilotfish/pilotfish/formats/UriReferencesIsUcscharPinLaw", name := "ref", desc := "(I)Z" } : Jvm.MethodName) method_3_code (1 : Nat) (Option.some Jvm.ClassFile.FieldType.boolean)).before args0 about1 = true := code_word (m := ⟨1, 2⟩) (meth := k1m2) (c := k1c2) (by decide +kernel) rfl rfl rfl (by decide +kernel)
def codes1 : List Jvm.Cond := [Jvm.Cond.code x code maxLocals ret, Jvm.Cond.code ({ cls := "com/example/pilotfish/pilotfish/formats/UriReferences", name := "isUcschar", desc := "(I)Z" } : Jvm.MethodName) prog_20_method_6_code (2 : Nat) (Option.some Jvm.ClassFile.FieldType.boolean), Jvm.Cond.code ({ cls := "com/example/pilotfish/pilotfish/formats/UriReferencesIsUcscharPinLaw", name := "ref", desc := "(I)Z" } : Jvm.MethodName) method_3_code (1 : Nat) (Option.some Jvm.ClassFile.FieldType.boolean)]
set_option maxRecDepth 65536 in
theorem codes_eq : words1.filter isCode = codes1 := rfl
theorem w_codes : ∀ c ∈ words1.filter isCode, c.before args0 about1 = true := by
  rw [codes_eq]
  intro c hc
  simp only [codes1, List.mem_cons, List.not_mem_nil, or_false] at hc
  rcases hc with rfl | rfl | rfl
  · exact w_c0
  · exact w_c1
  · exact w_c2
set_option maxRecDepth 65536 in
theorem w_t1 : (words1.take 24).all (fun c => isCode c || c.before args0 about1) = true := by decide +kernel
set_option maxRecDepth 65536 in
theorem w_t2 : ((words1.drop 24).take 24).all (fun c => isCode c || c.before args0 about1) = true := by decide +kernel
set_option maxRecDepth 65536 in
theorem w_t3 : ((words1.drop 24).drop 24).all (fun c => isCode c || c.before args0 about1) = true := by decide +kernel
theorem w_tables : (allAtoms (Jvm.Cond.code x code maxLocals ret :: tables_1)).before args0 about1 = true := by
  rw [allAtoms_all]
  show words1.all (fun c => c.before args0 about1) = true
  refine all_split ?_ w_codes
  rw [← List.take_append_drop 24 words1, List.all_append, w_t1, ← List.take_append_drop 24 (words1.drop 24), List.all_append, w_t2, w_t3]
  rfl
set_option maxRecDepth 65536 in
theorem w_case : (Jvm.Cond.and given_1 narrow_1).before args0 about1 = true := by decide +kernel
theorem w_applies : (headSpec (Jvm.Cond.code x code maxLocals ret :: tables_1) room_1).applies x e0.platform about1 = true :=
  (Spec.applies_iff w_frames).mpr ⟨w_running, w_runnable, w_alone, w_named, w_hears, w_ripe, w_room, w_tables⟩
theorem atStart : AtStart classFile x code maxLocals ret World_1 tables_1 room_1 Calls_1 rest_1 Pre_1 launch0 p0 e0 about1 theMethod args0 below0 :=
  ⟨lists_1, trivial, launch0.admits_env _ _ _, launch0.least_env, fairChoices_fair.cas, fairChoices_fair.clock, w_frames, w_args, w_heap, w_applies, trivial, trivial, w_case⟩
end start1
theorem witness_1 : WitnessClaimed_1 := ⟨start1.p0, start1.e0, start1.about1, start1.theMethod, start1.args0, start1.below0, start1.atStart⟩
end Jvm.Pilot.@@N@@
