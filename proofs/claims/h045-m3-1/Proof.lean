import JvmDerived
import JvmDerived.Pilot.@@N@@Statement
import JvmDerived.Pilot.@@N@@Code
set_option linter.unusedVariables false
set_option linter.unusedSimpArgs false
namespace Jvm.RoadKit
open Sem ClassFile Op Lib Jvm.Stand Jvm.Free Jvm.LawKit
section New
variable {p : Program} {l : Launch} {e : Env} {R : Room} {s : State} {m : MethodId} {args : Array Value} {below : List Frame} {meth : Method} {c : Code} {T : State} {locs : List Loc} {cells slots : Nat}
theorem retI (X : Stand p l e R s m args below meth c T locs cells slots) (hx : p.tables.exec = Jvm.exec) {pc : Nat} {Ls : Array Slot} {z : Int32} {rest : List Value} (hret : meth.sig.returnType = some .int) (hd : decode c.code pc = .ok (.ireturn, 1)) {fs : List Frame}
    (hl : ∀ (f : JFrame) (acts : List Action), f.method = m → f.locked = none → f.entered = [] → (doReturn e (T.setTop f) acts (some (.int z))).1 = T.setFrames fs) : Steps p.tables e below (T.setTop (mkF m pc Ls (.int z :: rest))) (T.setFrames fs) := by
  have hm' : T.vm.method? m = some meth := X.method'
  have hn : narrow .int (.int z) = .int z := rfl
  show Steps p.tables e below (T.setTop { method := m, pc := pc, locals := Ls, stack := _ :: rest, locked := none }) _
  jvm_step X.here [X.here.top, hx, hd, hm', hret, hn]
  first | (intro acts; rw [hl _ acts rfl rfl rfl]) | rw [hl _ _ rfl rfl rfl]
  exact Steps.refl _
theorem retA (X : Stand p l e R s m args below meth c T locs cells slots) (hx : p.tables.exec = Jvm.exec) {pc : Nat} {Ls : Array Slot} {z : Addr} {rest : List Value} {t : FieldType} (hret : meth.sig.returnType = some t) (ht : t.isReference = true) (hd : decode c.code pc = .ok (.areturn, 1)) {fs : List Frame}
    (hl : ∀ (f : JFrame) (acts : List Action), f.method = m → f.locked = none → f.entered = [] → (doReturn e (T.setTop f) acts (some (.ref z))).1 = T.setFrames fs) : Steps p.tables e below (T.setTop (mkF m pc Ls (.ref z :: rest))) (T.setFrames fs) := by
  have hm' : T.vm.method? m = some meth := X.method'
  show Steps p.tables e below (T.setTop { method := m, pc := pc, locals := Ls, stack := _ :: rest, locked := none }) _
  jvm_step X.here [X.here.top, hx, hd, hm', hret, ht, Value.isRef]
  first | (intro acts; rw [hl _ acts rfl rfl rfl]) | rw [hl _ _ rfl rfl rfl]
  exact Steps.refl _
theorem retJ (X : Stand p l e R s m args below meth c T locs cells slots) (hx : p.tables.exec = Jvm.exec) {pc : Nat} {Ls : Array Slot} {z : Int64} {rest : List Value} (hret : meth.sig.returnType = some .long) (hd : decode c.code pc = .ok (.lreturn, 1)) {fs : List Frame}
    (hl : ∀ (f : JFrame) (acts : List Action), f.method = m → f.locked = none → f.entered = [] → (doReturn e (T.setTop f) acts (some (.long z))).1 = T.setFrames fs) : Steps p.tables e below (T.setTop (mkF m pc Ls (.long z :: rest))) (T.setFrames fs) := by
  have hm' : T.vm.method? m = some meth := X.method'
  show Steps p.tables e below (T.setTop { method := m, pc := pc, locals := Ls, stack := _ :: rest, locked := none }) _
  jvm_step X.here [X.here.top, hx, hd, hm', hret]
  first | (intro acts; rw [hl _ acts rfl rfl rfl]) | rw [hl _ _ rfl rfl rfl]
  exact Steps.refl _
end New
end Jvm.RoadKit
namespace Jvm.Pilot.@@N@@
open Jvm Jvm.ClassFile Sem Op Lib Jvm.Free Jvm.Stand Jvm.LawKit Jvm.RoadKit Bundle Jvm.Pilot.@@N@@.Jvm.D
/-! My own frame of a walk: 'Done' says: from this frame the run ends, and Q holds of what came back, of the heap, and of the places written. -/
def Done (p : Program) (e : Env) (below : List Frame) (s : State) (R : Room) (Q : Option Value → Heap → List Loc → Prop) (T : State) (g : JFrame) : Prop :=
  ∃ s₂ o, Steps p.tables e below (T.setTop g) s₂ ∧ s₂.status = .running ∧ Ended s₂ below o ∧ ∃ v L, o = .returned v ∧ Q v s₂.heap L ∧ FrameEnd s o s₂ L R.cells R.slots
def Qp (h0 : Heap) (n0 : Nat) (z : Value) (v : Option Value) (h : Heap) (L : List Loc) : Prop := v = some z ∧ Fr n0 L ∧ h = h0
def Qv (h0 : Heap) (n0 : Nat) (v : Option Value) (h : Heap) (L : List Loc) : Prop := v = none ∧ Fr n0 L ∧ h = h0
def Ql (n0 : Nat) (z : Value) (v : Option Value) (h : Heap) (L : List Loc) : Prop := v = some z ∧ Fr n0 L
theorem Done.of {p : Program} {e : Env} {below : List Frame} {s : State} {R : Room} {Q : Option Value → Heap → List Loc → Prop} {T T' : State} {g g' : JFrame}
    (st : ∀ t, Steps p.tables e below (T'.setTop g') t → Steps p.tables e below (T.setTop g) t) (d : Done p e below s R Q T' g') : Done p e below s R Q T g := by
  obtain ⟨s₂, o, h1, h2⟩ := d
  exact ⟨s₂, o, st _ h1, h2⟩
section Ends
variable {p : Program} {l : Launch} {e : Env} {R : Room} {s : State} {m : MethodId} {args : Array Value} {below : List Frame} {meth : Method} {c : Code} {T : State} {locs : List Loc} {cells slots : Nat} {Q : Option Value → Heap → List Loc → Prop}
theorem doneI (X : Stand p l e R s m args below meth c T locs cells slots) (hx : p.tables.exec = Jvm.exec) {pc : Nat} {Ls : Array Slot} {z : Int32} {rest : List Value} (hret : meth.sig.returnType = some .int) (hlk : meth.locks = false) (hd : decode c.code pc = .ok (.ireturn, 1))
    (hQ : Q (some (.int z)) T.heap locs) (hc : cells ≤ R.cells) (hs : slots ≤ R.slots) : Done p e below s R Q T (mkF m pc Ls (.int z :: rest)) := by
  obtain ⟨fs, hr, hrun, hended, hW, hsame⟩ := X.leave (v := some (.int z)) (fun h => by rw [hret] at h; cases h) hlk
  exact ⟨_, _, retI X hx hret hd hr, hrun, hended, _, _, rfl, hQ, ⟨_, rfl⟩, hW, hsame.mono hc hs⟩
theorem doneN (t : FieldType) (X : Stand p l e R s m args below meth c T locs cells slots) (ht : t = .boolean ∨ t = .byte ∨ t = .char ∨ t = .short) (hx : p.tables.exec = Jvm.exec) {pc : Nat} {Ls : Array Slot} {z : Int32} {rest : List Value} (hret : meth.sig.returnType = some t) (hlk : meth.locks = false) (hd : decode c.code pc = .ok (.ireturn, 1))
    (hQ : Q (some (.int (nar t z))) T.heap locs) (hc : cells ≤ R.cells) (hs : slots ≤ R.slots) : Done p e below s R Q T (mkF m pc Ls (.int z :: rest)) := by
  obtain ⟨fs, hr, hrun, hended, hW, hsame⟩ := X.leave (v := some (.int (nar t z))) (fun h => by rw [hret] at h; cases h) hlk
  exact ⟨_, _, retN X hx hret ht hd hr, hrun, hended, _, _, rfl, hQ, ⟨_, rfl⟩, hW, hsame.mono hc hs⟩
theorem doneJ (X : Stand p l e R s m args below meth c T locs cells slots) (hx : p.tables.exec = Jvm.exec) {pc : Nat} {Ls : Array Slot} {z : Int64} {rest : List Value} (hret : meth.sig.returnType = some .long) (hlk : meth.locks = false) (hd : decode c.code pc = .ok (.lreturn, 1))
    (hQ : Q (some (.long z)) T.heap locs) (hc : cells ≤ R.cells) (hs : slots ≤ R.slots) : Done p e below s R Q T (mkF m pc Ls (.long z :: rest)) := by
  obtain ⟨fs, hr, hrun, hended, hW, hsame⟩ := X.leave (v := some (.long z)) (fun h => by rw [hret] at h; cases h) hlk
  exact ⟨_, _, retJ X hx hret hd hr, hrun, hended, _, _, rfl, hQ, ⟨_, rfl⟩, hW, hsame.mono hc hs⟩
theorem doneA (X : Stand p l e R s m args below meth c T locs cells slots) (hx : p.tables.exec = Jvm.exec) {pc : Nat} {Ls : Array Slot} {z : Addr} {rest : List Value} {t : FieldType} (hret : meth.sig.returnType = some t) (ht : t.isReference = true) (hlk : meth.locks = false) (hd : decode c.code pc = .ok (.areturn, 1))
    (hQ : Q (some (.ref z)) T.heap locs) (hc : cells ≤ R.cells) (hs : slots ≤ R.slots) : Done p e below s R Q T (mkF m pc Ls (.ref z :: rest)) := by
  obtain ⟨fs, hr, hrun, hended, hW, hsame⟩ := X.leave (v := some (.ref z)) (fun h => by rw [hret] at h; cases h) hlk
  exact ⟨_, _, retA X hx hret ht hd hr, hrun, hended, _, _, rfl, hQ, ⟨_, rfl⟩, hW, hsame.mono hc hs⟩
theorem doneV (X : Stand p l e R s m args below meth c T locs cells slots) (hx : p.tables.exec = Jvm.exec) {pc : Nat} {Ls : Array Slot} (hret : meth.sig.returnType = none) (hlk : meth.locks = false) (hd : decode c.code pc = .ok (.return_, 1))
    (hQ : Q none T.heap locs) (hc : cells ≤ R.cells) (hs : slots ≤ R.slots) : Done p e below s R Q T (mkF m pc Ls []) := by
  obtain ⟨fs, hr, hrun, hended, hW, hsame⟩ := X.leave (v := none) (fun _ => rfl) hlk
  exact ⟨_, _, X.returnOut hx hret hd hr, hrun, hended, _, _, rfl, hQ, ⟨_, rfl⟩, hW, hsame.mono hc hs⟩
end Ends
theorem lcLt_t {x y : Int64} (h : x < y) : ifCond.holds .lt (lcmpW x y) = true ∧ ifCond.holds .ge (lcmpW x y) = false := ⟨(if0 _ _).trans (tlt ((lw_lt x y).mpr h)).1, (if0 _ _).trans (tlt ((lw_lt x y).mpr h)).2.1⟩
theorem lcLt_f {x y : Int64} (h : ¬ x < y) : ifCond.holds .lt (lcmpW x y) = false ∧ ifCond.holds .ge (lcmpW x y) = true := ⟨(if0 _ _).trans (flt (fun q => h ((lw_lt x y).mp q))).1, (if0 _ _).trans (flt (fun q => h ((lw_lt x y).mp q))).2.1⟩
theorem lcGt_t {x y : Int64} (h : y < x) : ifCond.holds .gt (lcmpW x y) = true ∧ ifCond.holds .le (lcmpW x y) = false := ⟨(if0 _ _).trans (tlt ((lw_gt x y).mpr h)).2.2.1, (if0 _ _).trans (tlt ((lw_gt x y).mpr h)).2.2.2⟩
theorem lcGt_f {x y : Int64} (h : ¬ y < x) : ifCond.holds .gt (lcmpW x y) = false ∧ ifCond.holds .le (lcmpW x y) = true := ⟨(if0 _ _).trans (flt (fun q => h ((lw_gt x y).mp q))).2.2.1, (if0 _ _).trans (flt (fun q => h ((lw_gt x y).mp q))).2.2.2⟩
theorem lcEq_t {x y : Int64} (h : x = y) : ifCond.holds .eq (lcmpW x y) = true ∧ ifCond.holds .ne (lcmpW x y) = false := ⟨(if0 _ _).trans (teq ((lw_eq x y).mpr h)).1, (if0 _ _).trans (teq ((lw_eq x y).mpr h)).2⟩
theorem lcEq_f {x y : Int64} (h : ¬ x = y) : ifCond.holds .eq (lcmpW x y) = false ∧ ifCond.holds .ne (lcmpW x y) = true := ⟨(if0 _ _).trans (feq (fun q => h ((lw_eq x y).mp q))).1, (if0 _ _).trans (feq (fun q => h ((lw_eq x y).mp q))).2⟩
theorem own_selP {s : State} {args : Array Value} {y : MethodName} {n : Nat} (hins : (Cond.instantiable y.cls n).before args s = true) (hpriv : (Cond.privateMethod y).before args s = true) (hinst : (Cond.instanceMethod y).before args s = true) (hy : y.cls ≠ "java/lang/invoke/MethodHandle" ∧ y.cls ≠ "java/lang/invoke/VarHandle") :
    (Cond.selects y.cls y y).before args s = true := by
  obtain ⟨c, k, hc, hk, -, hniab, -, -⟩ := Cond.instantiable_spec hins
  exact selects_self_of_private hc hk (Bool.or_eq_false_iff.mp hniab).1 (Cond.privateMethod_at hpriv) hinst hy
theorem own_hat {c : Cell} {vs : List Int32} {j : Int32} (H : Has c (vs.map Value.int) (.int (0 : Int32))) (hin : ¬ (j < 0 ∨ c.slots.size ≤ j.toNatClampNeg)) : c.slots[j.toNatClampNeg]? = some (.int (vs.getD j.toNatClampNeg 0)) := by
  rw [H j.toNatClampNeg (Nat.lt_of_not_le fun q => hin (Or.inr q))]
  simp only [List.getD_eq_getElem?_getD, List.getElem?_map]
  cases vs[j.toNatClampNeg]? <;> rfl
theorem own_fin {n : Nat} (c : Int32) (h0 : 0 ≤ c.toInt) (h1 : c.toInt < n) : ∃ i : Fin n, c = Int32.ofInt (i.1 : Int) :=
  ⟨⟨c.toInt.toNat, by omega⟩, by show c = Int32.ofInt ((c.toInt.toNat : Nat) : Int); rw [Int.toNat_of_nonneg h0]; exact (Int32.ofInt_toInt c).symm⟩
theorem own_set (N i : Nat) (f : Nat → Int32) (v : Int32) : ((List.range N).map fun j => Value.int (f j)).set i (.int v) = (List.range N).map fun j => Value.int (if j = i then v else f j) := by
  apply List.ext_getElem
  · simp
  · intro k h1 h2
    rw [List.getElem_set]
    simp only [List.getElem_map, List.getElem_range]
    by_cases q : i = k
    · rw [if_pos q, if_pos q.symm]
    · rw [if_neg q, if_neg (Ne.symm q)]
theorem own_setA {Z : State} {h : Heap} {a : Addr} {k : ClassId} {ty : FieldType} {z : Int32} {N i : Nat} {f : Nat → Int32} {v : Int32} {dv : Value} (A : Arv Z h a k ty z (((List.range N).map fun j => Value.int (f j)).set i (.int v)) dv) :
    Arv Z h a k ty z ((List.range N).map fun j => Value.int (if j = i then v else f j)) dv := by rw [← own_set]; exact A
theorem own_hatF {c : Cell} {N : Nat} {f : Nat → Int32} {j : Int32} {d : Value} (H : Has c ((List.range N).map fun j => Value.int (f j)) d) (hN : c.slots.size = N) (hin : ¬ (j < 0 ∨ c.slots.size ≤ j.toNatClampNeg)) : c.slots[j.toNatClampNeg]? = some (.int (f j.toNatClampNeg)) := by
  have hl : j.toNatClampNeg < c.slots.size := Nat.lt_of_not_le fun q => hin (Or.inr q)
  rw [H j.toNatClampNeg hl, List.getD_eq_getElem?_getD, List.getElem?_map, List.getElem?_range (by omega)]
  rfl
theorem own_sz {c : Cell} {z : Int32} {N : Nat} (S : c.slots.size = z.toNatClampNeg) (h : z.toNatClampNeg = N := by decide) : c.slots.size = N := S.trans h
theorem own_len {c : Cell} {z j : Int32} {N : Nat} {f : Nat → Int32} (S : c.slots.size = z.toNatClampNeg) (hin : ¬ (j < 0 ∨ c.slots.size ≤ j.toNatClampNeg)) (h : z.toNatClampNeg = N := by decide) : j.toNatClampNeg < ((List.range N).map fun j => Value.int (f j)).length := by
  have : j.toNatClampNeg < c.slots.size := Nat.lt_of_not_le fun q => hin (Or.inr q)
  rw [List.length_map, List.length_range]; omega
theorem d2_0 : decode jdk_30_method_1_code 0 = .ok (.aload_n 0, 1) := by decide +kernel
theorem d2_1 : decode jdk_30_method_1_code 1 = .ok (.invokespecial 1, 3) := by decide +kernel
theorem d2_4 : decode jdk_30_method_1_code 4 = .ok (.return_, 1) := by decide +kernel
set_option maxRecDepth 65536 in
set_option maxHeartbeats 40000000 in
theorem bk2_0 {p : Program} {l : Launch} {e : Env} {s : State} {m : MethodId} {args : Array Value} {below : List Frame} {meth : Method} {c : Code} {T0 : State} {locs : List Loc} {Z : State} {a0 : Array Value} {h0 : Heap} {n0 : Nat}
    (hx : p.tables.exec = Jvm.exec) (hZ : Z.Warmed39 s.vm) (hw : ∀ d ∈ tables_1, d.before a0 Z = true) (hby : c.code = jdk_30_method_1_code) (hml : c.maxLocals = 1) (hown : s.vm.findClass "java/lang/Record" = some m.cls) (hnm : meth.name = "<init>") (hret : meth.sig.returnType = none) (hlk : meth.locks = false)
    (X0 : Stand p l e ({ frames := 1, cells := 0, slots := 0, locals := 12 } : Room) s m args below meth c T0 locs 0 0) (N0 : Fr n0 locs) (e0 : T0.heap = h0) (a1 : Addr) :
    Done p e below s ({ frames := 1, cells := 0, slots := 0, locals := 12 } : Room) (Qv h0 n0) T0 (mkF m 0 #[.val (.ref a1)] []) := by
  refine Done.of (T' := T0) (g' := (mkF m 1 #[.val (.ref a1)] [(.ref a1)])) (fun t k => ?_) ?_
  · show Steps p.tables e below (T0.setTop (mkF m 0 #[.val (.ref a1)] [])) t
    refine XS.aloadN X0.here hx rfl (hb hby d2_0) rfl rfl ?_
    exact k
  obtain ⟨T1, X1, e1, st1⟩ := initO X0 hx hZ hown (hw _ (List.mem_of_getElem? (i := 12) rfl)) (hw _ (List.mem_of_getElem? (i := 13) rfl)) (hw _ (List.mem_of_getElem? (i := 14) rfl)) e0 (g := (mkF m 1 #[.val (.ref a1)] [(.ref a1)])) rfl (by rw [hml]; rfl) rfl (hb hby d2_1) (by decide) (W := 0) (by show 2 * 0 + _ ≤ _; exact Nat.le_of_eq rfl) (by decide)
  refine Done.of (g' := (mkF m 4 #[.val (.ref a1)] [])) st1 ?_
  exact doneV X1 hx hret hlk (hb hby d2_4) ⟨rfl, N0, e1⟩ (by decide) (by decide)
theorem ef_2 (m : MethodId) (a1 : Addr) : entryFrame m #[(.ref a1)] 1 = mkF m 0 #[.val (.ref a1)] [] := by first | (simp [entryFrame, mkF, argsToLocals, Value.category, maxLocals]; done) | rfl
theorem pn_2 : plainFor (⟨"java/lang/Record", "<init>", "()V"⟩ : MethodName) = true := by decide +kernel
set_option maxRecDepth 65536 in
set_option maxHeartbeats 40000000 in
theorem rm2 (l : Launch) (Z : State) (a0 : Array Value) (hw : ∀ d ∈ tables_1, d.before a0 Z = true) (ws : List Jvm.Cond) (a1 : Addr) (h0 : Heap) (n0 : Nat) :
    MetFree l (⟨"java/lang/Record", "<init>", "()V"⟩ : MethodName) (head1 (Jvm.Cond.code (⟨"java/lang/Record", "<init>", "()V"⟩ : MethodName) jdk_30_method_1_code 1 none :: ws) ({ frames := 1, cells := 0, slots := 0, locals := 12 } : Room)) (fun a U => a = #[(.ref a1)] ∧ Z.Warmed39 U.vm ∧ U.heap = h0) (fun _ _ _ _ _ => True) (fun _ U o U' => ∃ v L, o = .returned v ∧ (Qv h0 n0) v U'.heap L ∧ FrameEnd U o U' L ({ frames := 1, cells := 0, slots := 0, locals := 12 } : Room).cells ({ frames := 1, cells := 0, slots := 0, locals := 12 } : Room).slots) := by
  refine MetFree.of_bodySF pn_2 hisR ?_
  intro p e s m args below meth c s₁ Bd hml0 hP hK
  obtain ⟨rfl, hZ, hh⟩ := hP
  have hown : s.vm.findClass "java/lang/Record" = some m.cls := findClass_of_methodNamed Bd.named
  have hnm := (name_of_methodNamed Bd.named Bd.method).1
  have X0 : Stand p l e ({ frames := 1, cells := 0, slots := 0, locals := 12 } : Room) s m #[(.ref a1)] below meth c s₁ [] 0 0 := Stand.of_body Bd
  have e0 : s₁.heap = h0 := by rw [← hh, Bd.state]; rfl
  have d := bk2_0 (n0 := n0) Bd.exec hZ hw Bd.bytes hml0 hown hnm Bd.returns (BodyLoose.notSynchronized Bd) X0 (Fr.nil n0) e0 a1
  have d2 : Done p e below s ({ frames := 1, cells := 0, slots := 0, locals := 12 } : Room) (Qv h0 n0) s₁ (entryFrame m #[(.ref a1)] 1) := by rw [ef_2]; exact d
  exact d2
theorem pd_0 : parseMethodDescriptor "()V" = some ⟨[], none⟩ := by decide +kernel
theorem d1_0 : decode prog_29_method_1_code 0 = .ok (.aload_n 0, 1) := by decide +kernel
theorem d1_1 : decode prog_29_method_1_code 1 = .ok (.invokespecial 1, 3) := by decide +kernel
theorem d1_4 : decode prog_29_method_1_code 4 = .ok (.lload_n 1, 1) := by decide +kernel
theorem d1_5 : decode prog_29_method_1_code 5 = .ok (.ldc2_w 9, 3) := by decide +kernel
theorem d1_8 : decode prog_29_method_1_code 8 = .ok (.land, 1) := by decide +kernel
theorem d1_9 : decode prog_29_method_1_code 9 = .ok (.lconst 0, 1) := by decide +kernel
theorem d1_10 : decode prog_29_method_1_code 10 = .ok (.lcmp, 1) := by decide +kernel
theorem d1_11 : decode prog_29_method_1_code 11 = .ok (.ifCond .eq 20, 3) := by decide +kernel
theorem d1_31 : decode prog_29_method_1_code 31 = .ok (.aload_n 0, 1) := by decide +kernel
theorem d1_32 : decode prog_29_method_1_code 32 = .ok (.lload_n 1, 1) := by decide +kernel
theorem d1_33 : decode prog_29_method_1_code 33 = .ok (.putfield 26, 3) := by decide +kernel
theorem d1_36 : decode prog_29_method_1_code 36 = .ok (.return_, 1) := by decide +kernel
set_option maxRecDepth 65536 in
set_option maxHeartbeats 40000000 in
theorem bk1_0 {p : Program} {l : Launch} {e : Env} {s : State} {m : MethodId} {args : Array Value} {below : List Frame} {meth : Method} {c : Code} {T0 : State} {locs : List Loc} {Z : State} {a0 : Array Value} {h0 : Heap} {n0 : Nat}
    (hx : p.tables.exec = Jvm.exec) (hZ : Z.Warmed39 s.vm) (hw : ∀ d ∈ tables_1, d.before a0 Z = true) (hby : c.code = prog_29_method_1_code) (hml : c.maxLocals = 3) (hown : s.vm.findClass "com/example/tetherd/tetherd/core/link/MacAddress" = some m.cls) (hnm : meth.name = "<init>") (hret : meth.sig.returnType = none) (hlk : meth.locks = false)
    (X0 : Stand p l e ({ frames := 2, cells := 0, slots := 0, locals := 24 } : Room) s m args below meth c T0 locs 0 0) (N0 : Fr n0 locs) (e0 : T0.heap = h0) (a1 : Addr) (q2 : Int64) (u_bits : Value) (E_a1 : Exa Z h0 a1 "com/example/tetherd/tetherd/core/link/MacAddress") (F_bits_a1 : Fld Z h0 a1 "com/example/tetherd/tetherd/core/link/MacAddress" "bits" "J" u_bits) (g_a1 : n0 ≤ a1) (hbits : (q2 &&& (-281474976710656 : Int64)) = (0 : Int64)) :
    Done p e below s ({ frames := 2, cells := 0, slots := 0, locals := 24 } : Room) (fun v h L => v = none ∧ Fr n0 L ∧ Keep h0 h [a1] ∧ Exa Z h a1 "com/example/tetherd/tetherd/core/link/MacAddress" ∧ Fld Z h a1 "com/example/tetherd/tetherd/core/link/MacAddress" "bits" "J" (.long q2)) T0 (mkF m 0 #[.val (.ref a1), .val (.long q2), .second] []) := by
  refine Done.of (T' := T0) (g' := (mkF m 1 #[.val (.ref a1), .val (.long q2), .second] [(.ref a1)])) (fun t k => ?_) ?_
  · show Steps p.tables e below (T0.setTop (mkF m 0 #[.val (.ref a1), .val (.long q2), .second] [])) t
    refine XS.aloadN X0.here hx rfl (hb hby d1_0) rfl rfl ?_
    exact k
  obtain ⟨_, _, ⟨T1, L1, k1, n1⟩, -, X1, ⟨Lc1, hQ1, l1, y1, z1⟩, st1⟩ := X0.specialBack hx (y := (⟨"java/lang/Record", "<init>", "()V"⟩ : MethodName)) rfl hown (mvT hZ (hw _ (List.mem_of_getElem? (i := 7) rfl))) (mvT hZ (hw _ (List.mem_of_getElem? (i := 8) rfl))) (mvT hZ (hw _ (List.mem_of_getElem? (i := 11) rfl))) (by decide) (backOf (W := 0) (rm2 l Z a0 hw [] a1 h0 n0) hZ (hw _ (List.mem_of_getElem? (i := 11) rfl)) (hw _ (List.mem_of_getElem? (i := 10) rfl)) (by decide) (by decide)) (g := (mkF m 1 #[.val (.ref a1), .val (.long q2), .second] [(.ref a1)])) rfl (by rw [hml]; rfl) (Steps.refl _) (a := a1) (argsL := []) (rest := []) (lenOf pd_0 rfl) rfl (by show 2 * 0 + _ ≤ _; exact Nat.le_of_eq rfl) (hb hby d1_1) (fun _ _ => ⟨rfl, e0, (by decide : 0 + 0 ≤ _), (by decide : 0 + 0 ≤ _)⟩)
  dsimp only [Pt.U, Pt.locs, Pt.cells, Pt.slots] at X1 l1 y1 z1 st1 hQ1
  subst l1 y1 z1
  obtain ⟨rfl, N1q, e1⟩ := hQ1
  have N1 := Fr.app N0 N1q
  replace X1 : Stand p l e ({ frames := 2, cells := 0, slots := 0, locals := 24 } : Room) s m args below meth c T1 _ 0 0 := X1
  refine Done.of (g' := (mkF m 4 #[.val (.ref a1), .val (.long q2), .second] [])) (fun t k => st1.trans k) ?_
  refine Done.of (T' := T1) (g' := (mkF m 33 #[.val (.ref a1), .val (.long q2), .second] [(.long q2), (.ref a1)])) (fun t k => ?_) ?_
  · show Steps p.tables e below (T1.setTop (mkF m 4 #[.val (.ref a1), .val (.long q2), .second] [])) t
    refine XS.lloadN X1.here hx rfl (hb hby d1_4) rfl ?_
    show Steps p.tables e below (T1.setTop (mkF m 5 #[.val (.ref a1), .val (.long q2), .second] [(.long q2)])) t
    refine X1.ldc2Long hx hown (mvT hZ (hw _ (List.mem_of_getElem? (i := 15) rfl))) (g := (mkF m 5 #[.val (.ref a1), .val (.long q2), .second] [(.long q2)])) rfl (hb hby d1_5) _ ?_
    show Steps p.tables e below (T1.setTop (mkF m 8 #[.val (.ref a1), .val (.long q2), .second] [(.long (-281474976710656 : Int64)), (.long q2)])) t
    refine XS.land X1.here hx rfl (hb hby d1_8) rfl ?_
    show Steps p.tables e below (T1.setTop (mkF m 9 #[.val (.ref a1), .val (.long q2), .second] [(.long (q2 &&& (-281474976710656 : Int64)))])) t
    refine XS.lconst X1.here hx rfl (hb hby d1_9) ?_
    show Steps p.tables e below (T1.setTop (mkF m 10 #[.val (.ref a1), .val (.long q2), .second] [(.long (0 : Int64)), (.long (q2 &&& (-281474976710656 : Int64)))])) t
    refine XS.lcmp X1.here hx rfl (hb hby d1_10) rfl ?_
    show Steps p.tables e below (T1.setTop (mkF m 11 #[.val (.ref a1), .val (.long q2), .second] [(.int (lcmpW (q2 &&& (-281474976710656 : Int64)) (0 : Int64)))])) t
    refine XS.ifYes X1.here hx rfl (pc0 := 11) (pc' := 31) rfl (hb hby d1_11) rfl (lcEq_t (show (q2 &&& (-281474976710656 : Int64)) = (0 : Int64) from hbits)).1 (by decide) (by decide) ?_
    show Steps p.tables e below (T1.setTop (mkF m 31 #[.val (.ref a1), .val (.long q2), .second] [])) t
    refine XS.aloadN X1.here hx rfl (hb hby d1_31) rfl rfl ?_
    show Steps p.tables e below (T1.setTop (mkF m 32 #[.val (.ref a1), .val (.long q2), .second] [(.ref a1)])) t
    refine XS.lloadN X1.here hx rfl (hb hby d1_32) rfl ?_
    exact k
  obtain ⟨T2, h2, X2, e2, W2, st2⟩ := putF X1 hx hZ hown (host := "") (Or.inl (hw _ (List.mem_of_getElem? (i := 16) rfl))) Via.refl e1 F_bits_a1 E_a1 (Or.inr ⟨(hw _ (List.mem_of_getElem? (i := 17) rfl)), rfl, hnm⟩) (hw _ (List.mem_of_getElem? (i := 2) rfl)) (ty := .long) (by decide) rfl rfl (g := (mkF m 33 #[.val (.ref a1), .val (.long q2), .second] [(.long q2), (.ref a1)])) rfl rfl (hb hby d1_33)
  have Fw2 := F_bits_a1.same W2
  have f1 := E_a1.wr W2
  have N2 := Fr.snoc X2 N1 g_a1
  have K2 : Keep h0 h2 [a1] := (Keep.refl h0 [a1]).wr W2 (Or.inl (List.mem_of_getElem? (i := 0) rfl))
  refine Done.of (g' := (mkF m 36 #[.val (.ref a1), .val (.long q2), .second] [])) st2 ?_
  exact doneV X2 hx hret hlk (hb hby d1_36) (by show _ ∧ _; rw [e2]; exact ⟨rfl, N2, K2, f1, Fw2⟩) (by decide) (by decide)
theorem ef_1 (m : MethodId) (a1 : Addr) (q2 : Int64) : entryFrame m #[(.ref a1), (.long q2)] 3 = mkF m 0 #[.val (.ref a1), .val (.long q2), .second] [] := by first | (simp [entryFrame, mkF, argsToLocals, Value.category, maxLocals]; done) | rfl
theorem pn_1 : plainName "com/example/tetherd/tetherd/core/link/MacAddress" = true := by first | (simp [plainName, overriddenIn]; done) | decide +kernel
def Q1 (Z : State) (a1 : Addr) (q2 : Int64) (h0 : Heap) (n0 : Nat) (u_bits : Value) (v : Option Value) (h : Heap) (L : List Loc) : Prop := v = none ∧ Fr n0 L ∧ Keep h0 h [a1] ∧ Exa Z h a1 "com/example/tetherd/tetherd/core/link/MacAddress" ∧ Fld Z h a1 "com/example/tetherd/tetherd/core/link/MacAddress" "bits" "J" (.long q2)
set_option maxRecDepth 65536 in
set_option maxHeartbeats 40000000 in
theorem rm1 (l : Launch) (Z : State) (a0 : Array Value) (hw : ∀ d ∈ tables_1, d.before a0 Z = true) (ws : List Jvm.Cond) (a1 : Addr) (q2 : Int64) (h0 : Heap) (n0 : Nat) (u_bits : Value) (E_a1 : Exa Z h0 a1 "com/example/tetherd/tetherd/core/link/MacAddress") (F_bits_a1 : Fld Z h0 a1 "com/example/tetherd/tetherd/core/link/MacAddress" "bits" "J" u_bits) (g_a1 : n0 ≤ a1) (hbits : (q2 &&& (-281474976710656 : Int64)) = (0 : Int64)) :
    MetFree l (⟨"com/example/tetherd/tetherd/core/link/MacAddress", "<init>", "(J)V"⟩ : MethodName) (head1 (Jvm.Cond.code (⟨"com/example/tetherd/tetherd/core/link/MacAddress", "<init>", "(J)V"⟩ : MethodName) prog_29_method_1_code 3 none :: ws) ({ frames := 2, cells := 0, slots := 0, locals := 24 } : Room)) (fun a U => a = #[(.ref a1), (.long q2)] ∧ Z.Warmed39 U.vm ∧ U.heap = h0) (fun _ _ _ _ _ => True) (fun _ U o U' => ∃ v L, o = .returned v ∧ (Q1 Z a1 q2 h0 n0 u_bits) v U'.heap L ∧ FrameEnd U o U' L ({ frames := 2, cells := 0, slots := 0, locals := 24 } : Room).cells ({ frames := 2, cells := 0, slots := 0, locals := 24 } : Room).slots) := by
  refine MetFree.of_bodySF (plainFor_of_name pn_1) hisR ?_
  intro p e s m args below meth c s₁ Bd hml0 hP hK
  obtain ⟨rfl, hZ, hh⟩ := hP
  have hown : s.vm.findClass "com/example/tetherd/tetherd/core/link/MacAddress" = some m.cls := findClass_of_methodNamed Bd.named
  have hnm := (name_of_methodNamed Bd.named Bd.method).1
  have X0 : Stand p l e ({ frames := 2, cells := 0, slots := 0, locals := 24 } : Room) s m #[(.ref a1), (.long q2)] below meth c s₁ [] 0 0 := Stand.of_body Bd
  have e0 : s₁.heap = h0 := by rw [← hh, Bd.state]; rfl
  have d := bk1_0 (n0 := n0) Bd.exec hZ hw Bd.bytes hml0 hown hnm Bd.returns (BodyLoose.notSynchronized Bd) X0 (Fr.nil n0) e0 a1 q2 u_bits E_a1 F_bits_a1 g_a1 hbits
  have d2 : Done p e below s ({ frames := 2, cells := 0, slots := 0, locals := 24 } : Room) (Q1 Z a1 q2 h0 n0 u_bits) s₁ (entryFrame m #[(.ref a1), (.long q2)] 3) := by rw [ef_1]; exact d
  exact d2
theorem d4_0 : decode prog_29_method_4_code 0 = .ok (.aload_n 0, 1) := by decide +kernel
theorem d4_1 : decode prog_29_method_4_code 1 = .ok (.getfield 26, 3) := by decide +kernel
theorem d4_4 : decode prog_29_method_4_code 4 = .ok (.ldc2_w 77, 3) := by decide +kernel
theorem d4_7 : decode prog_29_method_4_code 7 = .ok (.land, 1) := by decide +kernel
theorem d4_8 : decode prog_29_method_4_code 8 = .ok (.lconst 0, 1) := by decide +kernel
theorem d4_9 : decode prog_29_method_4_code 9 = .ok (.lcmp, 1) := by decide +kernel
theorem d4_10 : decode prog_29_method_4_code 10 = .ok (.ifCond .ne 16, 3) := by decide +kernel
theorem d4_13 : decode prog_29_method_4_code 13 = .ok (.aload_n 0, 1) := by decide +kernel
theorem d4_14 : decode prog_29_method_4_code 14 = .ok (.getfield 26, 3) := by decide +kernel
theorem d4_17 : decode prog_29_method_4_code 17 = .ok (.lconst 0, 1) := by decide +kernel
theorem d4_18 : decode prog_29_method_4_code 18 = .ok (.lcmp, 1) := by decide +kernel
theorem d4_19 : decode prog_29_method_4_code 19 = .ok (.ifCond .eq 7, 3) := by decide +kernel
theorem d4_22 : decode prog_29_method_4_code 22 = .ok (.iconst 1, 1) := by decide +kernel
theorem d4_23 : decode prog_29_method_4_code 23 = .ok (.goto 4, 3) := by decide +kernel
theorem d4_26 : decode prog_29_method_4_code 26 = .ok (.iconst 0, 1) := by decide +kernel
theorem d4_27 : decode prog_29_method_4_code 27 = .ok (.ireturn, 1) := by decide +kernel
def F4_0 (w : Int64) : Int32 := (if (w &&& (1099511627776 : Int64)) = (0 : Int64) then (if w = (0 : Int64) then (0 : Int32) else (1 : Int32)) else (0 : Int32))
set_option maxRecDepth 65536 in
set_option maxHeartbeats 40000000 in
theorem bk4_0 {p : Program} {l : Launch} {e : Env} {s : State} {m : MethodId} {args : Array Value} {below : List Frame} {meth : Method} {c : Code} {T0 : State} {locs : List Loc} {Z : State} {a0 : Array Value} {h0 : Heap} {n0 : Nat}
    (hx : p.tables.exec = Jvm.exec) (hZ : Z.Warmed39 s.vm) (hw : ∀ d ∈ tables_1, d.before a0 Z = true) (hby : c.code = prog_29_method_4_code) (hml : c.maxLocals = 1) (hown : s.vm.findClass "com/example/tetherd/tetherd/core/link/MacAddress" = some m.cls) (hnm : meth.name = "unicast") (hret : meth.sig.returnType = some .boolean) (hlk : meth.locks = false)
    (X0 : Stand p l e ({ frames := 0, cells := 0, slots := 0, locals := 0 } : Room) s m args below meth c T0 locs 0 0) (N0 : Fr n0 locs) (e0 : T0.heap = h0) (a1 : Addr) (w : Int64) (F_bits_a1 : Fld Z h0 a1 "com/example/tetherd/tetherd/core/link/MacAddress" "bits" "J" (.long w)) :
    Done p e below s ({ frames := 0, cells := 0, slots := 0, locals := 0 } : Room) (Qp h0 n0 (.int (F4_0 w))) T0 (mkF m 0 #[.val (.ref a1)] []) := by
  unfold F4_0
  refine Done.of (T' := T0) (g' := (mkF m 1 #[.val (.ref a1)] [(.ref a1)])) (fun t k => ?_) ?_
  · show Steps p.tables e below (T0.setTop (mkF m 0 #[.val (.ref a1)] [])) t
    refine XS.aloadN X0.here hx rfl (hb hby d4_0) rfl rfl ?_
    exact k
  obtain ⟨T1, X1, e1, st1⟩ := getF X0 hx hZ hown (host := "") (Or.inl (hw _ (List.mem_of_getElem? (i := 16) rfl))) Via.refl e0 F_bits_a1 (g := (mkF m 1 #[.val (.ref a1)] [(.ref a1)])) rfl rfl (hb hby d4_1)
  refine Done.of (g' := (mkF m 4 #[.val (.ref a1)] [(.long w)])) st1 ?_
  refine Done.of (T' := T1) (g' := (mkF m 10 #[.val (.ref a1)] [(.int (lcmpW (w &&& (1099511627776 : Int64)) (0 : Int64)))])) (fun t k => ?_) ?_
  · show Steps p.tables e below (T1.setTop (mkF m 4 #[.val (.ref a1)] [(.long w)])) t
    refine X1.ldc2Long hx hown (mvT hZ (hw _ (List.mem_of_getElem? (i := 24) rfl))) (g := (mkF m 4 #[.val (.ref a1)] [(.long w)])) rfl (hb hby d4_4) _ ?_
    show Steps p.tables e below (T1.setTop (mkF m 7 #[.val (.ref a1)] [(.long (1099511627776 : Int64)), (.long w)])) t
    refine XS.land X1.here hx rfl (hb hby d4_7) rfl ?_
    show Steps p.tables e below (T1.setTop (mkF m 8 #[.val (.ref a1)] [(.long (w &&& (1099511627776 : Int64)))])) t
    refine XS.lconst X1.here hx rfl (hb hby d4_8) ?_
    show Steps p.tables e below (T1.setTop (mkF m 9 #[.val (.ref a1)] [(.long (0 : Int64)), (.long (w &&& (1099511627776 : Int64)))])) t
    refine XS.lcmp X1.here hx rfl (hb hby d4_9) rfl ?_
    exact k
  by_cases hc10_1 : (w &&& (1099511627776 : Int64)) = (0 : Int64)
  · rw [if_pos hc10_1]
    refine Done.of (T' := T1) (g' := (mkF m 14 #[.val (.ref a1)] [(.ref a1)])) (fun t k => ?_) ?_
    · show Steps p.tables e below (T1.setTop (mkF m 10 #[.val (.ref a1)] [(.int (lcmpW (w &&& (1099511627776 : Int64)) (0 : Int64)))])) t
      refine XS.ifNo X1.here hx rfl (hb hby d4_10) rfl (lcEq_t hc10_1).2 ?_
      show Steps p.tables e below (T1.setTop (mkF m 13 #[.val (.ref a1)] [])) t
      refine XS.aloadN X1.here hx rfl (hb hby d4_13) rfl rfl ?_
      exact k
    obtain ⟨T3, X3, e3, st3⟩ := getF X1 hx hZ hown (host := "") (Or.inl (hw _ (List.mem_of_getElem? (i := 16) rfl))) Via.refl e1 F_bits_a1 (g := (mkF m 14 #[.val (.ref a1)] [(.ref a1)])) rfl rfl (hb hby d4_14)
    refine Done.of (g' := (mkF m 17 #[.val (.ref a1)] [(.long w)])) st3 ?_
    refine Done.of (T' := T3) (g' := (mkF m 19 #[.val (.ref a1)] [(.int (lcmpW w (0 : Int64)))])) (fun t k => ?_) ?_
    · show Steps p.tables e below (T3.setTop (mkF m 17 #[.val (.ref a1)] [(.long w)])) t
      refine XS.lconst X3.here hx rfl (hb hby d4_17) ?_
      show Steps p.tables e below (T3.setTop (mkF m 18 #[.val (.ref a1)] [(.long (0 : Int64)), (.long w)])) t
      refine XS.lcmp X3.here hx rfl (hb hby d4_18) rfl ?_
      exact k
    by_cases hc19_3 : w = (0 : Int64)
    · rw [if_pos hc19_3]
      refine Done.of (T' := T3) (g' := (mkF m 27 #[.val (.ref a1)] [(.int (0 : Int32))])) (fun t k => ?_) ?_
      · show Steps p.tables e below (T3.setTop (mkF m 19 #[.val (.ref a1)] [(.int (lcmpW w (0 : Int64)))])) t
        refine XS.ifYes X3.here hx rfl (pc0 := 19) (pc' := 26) rfl (hb hby d4_19) rfl (lcEq_t hc19_3).1 (by decide) (by decide) ?_
        show Steps p.tables e below (T3.setTop (mkF m 26 #[.val (.ref a1)] [])) t
        refine XS.iconst X3.here hx rfl (hb hby d4_26) ?_
        exact k
      exact doneN (t := .boolean) X3 (by simp) hx hret hlk (hb hby d4_27) ⟨rfl, N0, e3⟩ (by decide) (by decide)
    · rw [if_neg hc19_3]
      refine Done.of (T' := T3) (g' := (mkF m 27 #[.val (.ref a1)] [(.int (1 : Int32))])) (fun t k => ?_) ?_
      · show Steps p.tables e below (T3.setTop (mkF m 19 #[.val (.ref a1)] [(.int (lcmpW w (0 : Int64)))])) t
        refine XS.ifNo X3.here hx rfl (hb hby d4_19) rfl (lcEq_f hc19_3).1 ?_
        show Steps p.tables e below (T3.setTop (mkF m 22 #[.val (.ref a1)] [])) t
        refine XS.iconst X3.here hx rfl (hb hby d4_22) ?_
        show Steps p.tables e below (T3.setTop (mkF m 23 #[.val (.ref a1)] [(.int (1 : Int32))])) t
        refine XS.goto X3.here hx rfl (pc0 := 23) (pc' := 27) rfl (hb hby d4_23) (by decide) (by decide) ?_
        exact k
      exact doneN (t := .boolean) X3 (by simp) hx hret hlk (hb hby d4_27) ⟨rfl, N0, e3⟩ (by decide) (by decide)
  · rw [if_neg hc10_1]
    refine Done.of (T' := T1) (g' := (mkF m 27 #[.val (.ref a1)] [(.int (0 : Int32))])) (fun t k => ?_) ?_
    · show Steps p.tables e below (T1.setTop (mkF m 10 #[.val (.ref a1)] [(.int (lcmpW (w &&& (1099511627776 : Int64)) (0 : Int64)))])) t
      refine XS.ifYes X1.here hx rfl (pc0 := 10) (pc' := 26) rfl (hb hby d4_10) rfl (lcEq_f hc10_1).2 (by decide) (by decide) ?_
      show Steps p.tables e below (T1.setTop (mkF m 26 #[.val (.ref a1)] [])) t
      refine XS.iconst X1.here hx rfl (hb hby d4_26) ?_
      exact k
    exact doneN (t := .boolean) X1 (by simp) hx hret hlk (hb hby d4_27) ⟨rfl, N0, e1⟩ (by decide) (by decide)
theorem ef_4 (m : MethodId) (a1 : Addr) : entryFrame m #[(.ref a1)] 1 = mkF m 0 #[.val (.ref a1)] [] := by first | (simp [entryFrame, mkF, argsToLocals, Value.category, maxLocals]; done) | rfl
theorem pn_4 : plainName "com/example/tetherd/tetherd/core/link/MacAddress" = true := by first | (simp [plainName, overriddenIn]; done) | decide +kernel
set_option maxRecDepth 65536 in
set_option maxHeartbeats 40000000 in
theorem rm4 (l : Launch) (Z : State) (a0 : Array Value) (hw : ∀ d ∈ tables_1, d.before a0 Z = true) (ws : List Jvm.Cond) (a1 : Addr) (h0 : Heap) (n0 : Nat) (w : Int64) (F_bits_a1 : Fld Z h0 a1 "com/example/tetherd/tetherd/core/link/MacAddress" "bits" "J" (.long w)) :
    MetFree l (⟨"com/example/tetherd/tetherd/core/link/MacAddress", "unicast", "()Z"⟩ : MethodName) (head1 (Jvm.Cond.code (⟨"com/example/tetherd/tetherd/core/link/MacAddress", "unicast", "()Z"⟩ : MethodName) prog_29_method_4_code 1 (some .boolean) :: ws) ({ frames := 0, cells := 0, slots := 0, locals := 0 } : Room)) (fun a U => a = #[(.ref a1)] ∧ Z.Warmed39 U.vm ∧ U.heap = h0) (fun _ _ _ _ _ => True) (fun _ U o U' => ∃ v L, o = .returned v ∧ (Qp h0 n0 (.int (F4_0 w))) v U'.heap L ∧ FrameEnd U o U' L ({ frames := 0, cells := 0, slots := 0, locals := 0 } : Room).cells ({ frames := 0, cells := 0, slots := 0, locals := 0 } : Room).slots) := by
  refine MetFree.of_bodySF (plainFor_of_name pn_4) hisR ?_
  intro p e s m args below meth c s₁ Bd hml0 hP hK
  obtain ⟨rfl, hZ, hh⟩ := hP
  have hown : s.vm.findClass "com/example/tetherd/tetherd/core/link/MacAddress" = some m.cls := findClass_of_methodNamed Bd.named
  have hnm := (name_of_methodNamed Bd.named Bd.method).1
  have X0 : Stand p l e ({ frames := 0, cells := 0, slots := 0, locals := 0 } : Room) s m #[(.ref a1)] below meth c s₁ [] 0 0 := Stand.of_body Bd
  have e0 : s₁.heap = h0 := by rw [← hh, Bd.state]; rfl
  have d := bk4_0 (n0 := n0) Bd.exec hZ hw Bd.bytes hml0 hown hnm Bd.returns (BodyLoose.notSynchronized Bd) X0 (Fr.nil n0) e0 a1 w F_bits_a1
  have d2 : Done p e below s ({ frames := 0, cells := 0, slots := 0, locals := 0 } : Room) (Qp h0 n0 (.int (F4_0 w))) s₁ (entryFrame m #[(.ref a1)] 1) := by rw [ef_4]; exact d
  exact d2
theorem pd_1 : parseMethodDescriptor "(J)V" = some ⟨[.long], none⟩ := by decide +kernel
theorem pd_2 : parseMethodDescriptor "()Z" = some ⟨[], some .boolean⟩ := by decide +kernel
theorem own_and (q : Int64) {m : Int64} (h : (m &&& (-281474976710656 : Int64)) = 0) : ((q &&& m) &&& (-281474976710656 : Int64)) = (0 : Int64) := by
  rw [Int64.and_assoc, h, Int64.and_zero]
theorem own_shr (x : Int64) (h0 : 0 ≤ x.toInt) (h1 : x.toInt < 281474976710656) : (x &&& (-281474976710656 : Int64)) = (0 : Int64) := by
  have e : x = (x &&& (281474976710655 : Int64)) := by
    have := c_maskL x 281474976710655 48 (by decide) (by decide)
    rw [← Int64.toInt_inj, this]; omega
  rw [e]; exact own_and x (by decide)
theorem own_shl (q : Int64) : (((q &&& (255 : Int64)) <<< ((40 : Int32) &&& 0x3f).toInt64) &&& (-281474976710656 : Int64)) = (0 : Int64) := by
  have hm := c_maskL q 255 8 (by decide) (by decide)
  have hs := c_lshl (q &&& (255 : Int64)) 40 40 (by decide)
  have r := rng64 ((q &&& (255 : Int64)) <<< ((40 : Int32) &&& 0x3f).toInt64)
  exact own_shr _ (by omega) (by omega)
def F0_54 (j0 : Int64) (i2 : Int32) (i3 : Int32) (j4 : Int64) : Int32 := (if ((((j4.toUInt64 >>> ((40 : Int32) &&& 0x3f).toInt64.toUInt64).toInt64).toInt32) % (2 : Int32)) = (0 : Int32) then (if (((j4.toUInt64 >>> ((40 : Int32) &&& 0x3f).toInt64.toUInt64).toInt64).toInt32) = (0 : Int32) then (if (j4 &&& (1099511627775 : Int64)) = (0 : Int64) then (if (F4_0 j4) = (0 : Int32) then (1 : Int32) else (0 : Int32)) else (if (F4_0 j4) = (1 : Int32) then (1 : Int32) else (0 : Int32))) else (if (F4_0 j4) = (1 : Int32) then (1 : Int32) else (0 : Int32))) else (if (((j4.toUInt64 >>> ((40 : Int32) &&& 0x3f).toInt64.toUInt64).toInt64).toInt32) = (0 : Int32) then (if (j4 &&& (1099511627775 : Int64)) = (0 : Int64) then (if (F4_0 j4) = (0 : Int32) then (1 : Int32) else (0 : Int32)) else (if (F4_0 j4) = (0 : Int32) then (1 : Int32) else (0 : Int32))) else (if (F4_0 j4) = (0 : Int32) then (1 : Int32) else (0 : Int32))))
set_option maxRecDepth 65536 in
set_option maxHeartbeats 40000000 in
theorem bk0_54 {p : Program} {l : Launch} {e : Env} {s : State} {m : MethodId} {args : Array Value} {below : List Frame} {meth : Method} {c : Code} {T0 : State} {locs : List Loc} {Z : State} {a0 : Array Value} {h0 : Heap} {n0 : Nat}
    (hx : p.tables.exec = Jvm.exec) (hZ : Z.Warmed39 s.vm) (hw : ∀ d ∈ tables_1, d.before a0 Z = true) (hby : c.code = code) (hml : c.maxLocals = 13) (hown : s.vm.findClass "com/example/tetherd/tetherd/core/link/MacAddressUnicastPinLaw" = some m.cls) (hnm : meth.name = "law") (hret : meth.sig.returnType = some .boolean) (hlk : meth.locks = false)
    (X0 : Stand p l e room_1 s m args below meth c T0 locs 0 0) (N0 : Fr n0 locs) (e0 : T0.heap = h0) (j0 : Int64) (i2 : Int32) (i3 : Int32) (j4 : Int64) (Z0 : n0 ≤ h0.size) (hbits : (j4 &&& (-281474976710656 : Int64)) = (0 : Int64)) :
    Done p e below s room_1 (Ql n0 (.int (F0_54 j0 i2 i3 j4))) T0 (mkF m 54 #[.val (.long j0), .second, .val (.int i2), .val (.int i3), .val (.long j4), .second, .unset, .unset, .unset, .unset, .unset, .unset, .unset] []) := by
  unfold F0_54
  obtain ⟨T1, h1, X1, e1, E1, A1, D1, -, st1⟩ := newO X0 hx hZ hown (hw _ (List.mem_of_getElem? (i := 1) rfl)) (hw _ (List.mem_of_getElem? (i := 2) rfl)) (hw _ (List.mem_of_getElem? (i := 3) rfl)) e0 (g := (mkF m 54 #[.val (.long j0), .second, .val (.int i2), .val (.int i3), .val (.long j4), .second, .unset, .unset, .unset, .unset, .unset, .unset, .unset] [])) rfl (hb hby at_54) (by decide) (by decide)
  obtain ⟨b1, g1⟩ : ∃ z, z = h0.size := ⟨_, rfl⟩
  rw [← g1] at A1 D1 st1
  have g_b1 : n0 ≤ b1 := Nat.le_trans Z0 (Nat.le_of_eq g1.symm)
  have F1_bits : Fld Z h1 b1 "com/example/tetherd/tetherd/core/link/MacAddress" "bits" "J" (.long (0 : Int64)) := D1 (Or.inr (hw _ (List.mem_of_getElem? (i := 17) rfl))) (ty := .long) (by decide)
  refine Done.of (g' := (mkF m 57 #[.val (.long j0), .second, .val (.int i2), .val (.int i3), .val (.long j4), .second, .unset, .unset, .unset, .unset, .unset, .unset, .unset] [(.ref b1)])) st1 ?_
  refine Done.of (T' := T1) (g' := (mkF m 60 #[.val (.long j0), .second, .val (.int i2), .val (.int i3), .val (.long j4), .second, .unset, .unset, .unset, .unset, .unset, .unset, .unset] [(.long j4), (.ref b1), (.ref b1)])) (fun t k => ?_) ?_
  · show Steps p.tables e below (T1.setTop (mkF m 57 #[.val (.long j0), .second, .val (.int i2), .val (.int i3), .val (.long j4), .second, .unset, .unset, .unset, .unset, .unset, .unset, .unset] [(.ref b1)])) t
    refine XS.dup X1.here hx rfl (hb hby at_57) rfl rfl ?_
    show Steps p.tables e below (T1.setTop (mkF m 58 #[.val (.long j0), .second, .val (.int i2), .val (.int i3), .val (.long j4), .second, .unset, .unset, .unset, .unset, .unset, .unset, .unset] [(.ref b1), (.ref b1)])) t
    refine XS.lload X1.here hx rfl (hb hby at_58) rfl ?_
    exact k
  obtain ⟨_, _, ⟨T2, L2, k2, n2⟩, -, X2, ⟨Lc2, hQ2, l2, y2, z2⟩, st2⟩ := X1.specialBack hx (y := (⟨"com/example/tetherd/tetherd/core/link/MacAddress", "<init>", "(J)V"⟩ : MethodName)) rfl hown (mvT hZ (hw _ (List.mem_of_getElem? (i := 4) rfl))) (mvT hZ (hw _ (List.mem_of_getElem? (i := 5) rfl))) (mvT hZ (hw _ (List.mem_of_getElem? (i := 6) rfl))) (by decide) (backOf (W := 1) (rm1 l Z a0 hw [] b1 j4 h1 n0 ((.long (0 : Int64))) A1 F1_bits g_b1 hbits) hZ (hw _ (List.mem_of_getElem? (i := 6) rfl)) (hw _ (List.mem_of_getElem? (i := 3) rfl)) (by decide) (by decide)) (g := (mkF m 60 #[.val (.long j0), .second, .val (.int i2), .val (.int i3), .val (.long j4), .second, .unset, .unset, .unset, .unset, .unset, .unset, .unset] [(.long j4), (.ref b1), (.ref b1)])) rfl (by rw [hml]; rfl) (Steps.refl _) (a := b1) (argsL := [(.long j4)]) (rest := [(.ref b1)]) (lenOf pd_1 rfl) rfl (by show 2 * 0 + _ ≤ _; exact Nat.le_of_eq rfl) (hb hby at_60) (fun _ _ => ⟨rfl, e1, (by decide : 1 + 0 ≤ _), (by decide : 1 + 0 ≤ _)⟩)
  dsimp only [Pt.U, Pt.locs, Pt.cells, Pt.slots] at X2 l2 y2 z2 st2 hQ2
  subst l2 y2 z2
  obtain ⟨h2, e2⟩ : ∃ z, T2.heap = z := ⟨_, rfl⟩
  rw [e2] at hQ2
  obtain ⟨rfl, N2q, K2, E2, F2_bits⟩ := hQ2
  have N2 := Fr.app N0 N2q
  replace X2 : Stand p l e room_1 s m args below meth c T2 _ 1 1 := X2
  refine Done.of (g' := (mkF m 63 #[.val (.long j0), .second, .val (.int i2), .val (.int i3), .val (.long j4), .second, .unset, .unset, .unset, .unset, .unset, .unset, .unset] [(.ref b1)])) (fun t k => st2.trans k) ?_
  refine Done.of (T' := T2) (g' := (mkF m 85 #[.val (.long j0), .second, .val (.int i2), .val (.int i3), .val (.long j4), .second, .val (.ref b1), .val (.int (((j4.toUInt64 >>> ((40 : Int32) &&& 0x3f).toInt64.toUInt64).toInt64).toInt32)), .val (.long (j4 &&& (1099511627775 : Int64))), .second, .unset, .unset, .unset] [(.int ((((j4.toUInt64 >>> ((40 : Int32) &&& 0x3f).toInt64.toUInt64).toInt64).toInt32) % (2 : Int32)))])) (fun t k => ?_) ?_
  · show Steps p.tables e below (T2.setTop (mkF m 63 #[.val (.long j0), .second, .val (.int i2), .val (.int i3), .val (.long j4), .second, .unset, .unset, .unset, .unset, .unset, .unset, .unset] [(.ref b1)])) t
    refine XS.astore X2.here hx rfl (hb hby at_63) rfl rfl (l' := #[.val (.long j0), .second, .val (.int i2), .val (.int i3), .val (.long j4), .second, .val (.ref b1), .unset, .unset, .unset, .unset, .unset, .unset]) rfl ?_
    show Steps p.tables e below (T2.setTop (mkF m 65 #[.val (.long j0), .second, .val (.int i2), .val (.int i3), .val (.long j4), .second, .val (.ref b1), .unset, .unset, .unset, .unset, .unset, .unset] [])) t
    refine XS.lload X2.here hx rfl (hb hby at_65) rfl ?_
    show Steps p.tables e below (T2.setTop (mkF m 67 #[.val (.long j0), .second, .val (.int i2), .val (.int i3), .val (.long j4), .second, .val (.ref b1), .unset, .unset, .unset, .unset, .unset, .unset] [(.long j4)])) t
    refine XS.bipush X2.here hx rfl (hb hby at_67) ?_
    show Steps p.tables e below (T2.setTop (mkF m 69 #[.val (.long j0), .second, .val (.int i2), .val (.int i3), .val (.long j4), .second, .val (.ref b1), .unset, .unset, .unset, .unset, .unset, .unset] [(.int (40 : Int32)), (.long j4)])) t
    refine XS.lushr X2.here hx rfl (hb hby at_69) rfl ?_
    show Steps p.tables e below (T2.setTop (mkF m 70 #[.val (.long j0), .second, .val (.int i2), .val (.int i3), .val (.long j4), .second, .val (.ref b1), .unset, .unset, .unset, .unset, .unset, .unset] [(.long ((j4.toUInt64 >>> ((40 : Int32) &&& 0x3f).toInt64.toUInt64).toInt64))])) t
    refine XS.l2i X2.here hx rfl (hb hby at_70) rfl ?_
    show Steps p.tables e below (T2.setTop (mkF m 71 #[.val (.long j0), .second, .val (.int i2), .val (.int i3), .val (.long j4), .second, .val (.ref b1), .unset, .unset, .unset, .unset, .unset, .unset] [(.int (((j4.toUInt64 >>> ((40 : Int32) &&& 0x3f).toInt64.toUInt64).toInt64).toInt32))])) t
    refine XS.istore X2.here hx rfl (hb hby at_71) rfl (l' := #[.val (.long j0), .second, .val (.int i2), .val (.int i3), .val (.long j4), .second, .val (.ref b1), .val (.int (((j4.toUInt64 >>> ((40 : Int32) &&& 0x3f).toInt64.toUInt64).toInt64).toInt32)), .unset, .unset, .unset, .unset, .unset]) rfl ?_
    show Steps p.tables e below (T2.setTop (mkF m 73 #[.val (.long j0), .second, .val (.int i2), .val (.int i3), .val (.long j4), .second, .val (.ref b1), .val (.int (((j4.toUInt64 >>> ((40 : Int32) &&& 0x3f).toInt64.toUInt64).toInt64).toInt32)), .unset, .unset, .unset, .unset, .unset] [])) t
    refine XS.lload X2.here hx rfl (hb hby at_73) rfl ?_
    show Steps p.tables e below (T2.setTop (mkF m 75 #[.val (.long j0), .second, .val (.int i2), .val (.int i3), .val (.long j4), .second, .val (.ref b1), .val (.int (((j4.toUInt64 >>> ((40 : Int32) &&& 0x3f).toInt64.toUInt64).toInt64).toInt32)), .unset, .unset, .unset, .unset, .unset] [(.long j4)])) t
    refine X2.ldc2Long hx hown (mvT hZ (hw _ (List.mem_of_getElem? (i := 18) rfl))) (g := (mkF m 75 #[.val (.long j0), .second, .val (.int i2), .val (.int i3), .val (.long j4), .second, .val (.ref b1), .val (.int (((j4.toUInt64 >>> ((40 : Int32) &&& 0x3f).toInt64.toUInt64).toInt64).toInt32)), .unset, .unset, .unset, .unset, .unset] [(.long j4)])) rfl (hb hby at_75) _ ?_
    show Steps p.tables e below (T2.setTop (mkF m 78 #[.val (.long j0), .second, .val (.int i2), .val (.int i3), .val (.long j4), .second, .val (.ref b1), .val (.int (((j4.toUInt64 >>> ((40 : Int32) &&& 0x3f).toInt64.toUInt64).toInt64).toInt32)), .unset, .unset, .unset, .unset, .unset] [(.long (1099511627775 : Int64)), (.long j4)])) t
    refine XS.land X2.here hx rfl (hb hby at_78) rfl ?_
    show Steps p.tables e below (T2.setTop (mkF m 79 #[.val (.long j0), .second, .val (.int i2), .val (.int i3), .val (.long j4), .second, .val (.ref b1), .val (.int (((j4.toUInt64 >>> ((40 : Int32) &&& 0x3f).toInt64.toUInt64).toInt64).toInt32)), .unset, .unset, .unset, .unset, .unset] [(.long (j4 &&& (1099511627775 : Int64)))])) t
    refine XS.lstore X2.here hx rfl (hb hby at_79) rfl (l' := #[.val (.long j0), .second, .val (.int i2), .val (.int i3), .val (.long j4), .second, .val (.ref b1), .val (.int (((j4.toUInt64 >>> ((40 : Int32) &&& 0x3f).toInt64.toUInt64).toInt64).toInt32)), .val (.long (j4 &&& (1099511627775 : Int64))), .second, .unset, .unset, .unset]) rfl ?_
    show Steps p.tables e below (T2.setTop (mkF m 81 #[.val (.long j0), .second, .val (.int i2), .val (.int i3), .val (.long j4), .second, .val (.ref b1), .val (.int (((j4.toUInt64 >>> ((40 : Int32) &&& 0x3f).toInt64.toUInt64).toInt64).toInt32)), .val (.long (j4 &&& (1099511627775 : Int64))), .second, .unset, .unset, .unset] [])) t
    refine XS.iload X2.here hx rfl (hb hby at_81) rfl ?_
    show Steps p.tables e below (T2.setTop (mkF m 83 #[.val (.long j0), .second, .val (.int i2), .val (.int i3), .val (.long j4), .second, .val (.ref b1), .val (.int (((j4.toUInt64 >>> ((40 : Int32) &&& 0x3f).toInt64.toUInt64).toInt64).toInt32)), .val (.long (j4 &&& (1099511627775 : Int64))), .second, .unset, .unset, .unset] [(.int (((j4.toUInt64 >>> ((40 : Int32) &&& 0x3f).toInt64.toUInt64).toInt64).toInt32))])) t
    refine XS.iconst X2.here hx rfl (hb hby at_83) ?_
    show Steps p.tables e below (T2.setTop (mkF m 84 #[.val (.long j0), .second, .val (.int i2), .val (.int i3), .val (.long j4), .second, .val (.ref b1), .val (.int (((j4.toUInt64 >>> ((40 : Int32) &&& 0x3f).toInt64.toUInt64).toInt64).toInt32)), .val (.long (j4 &&& (1099511627775 : Int64))), .second, .unset, .unset, .unset] [(.int (2 : Int32)), (.int (((j4.toUInt64 >>> ((40 : Int32) &&& 0x3f).toInt64.toUInt64).toInt64).toInt32))])) t
    refine iremM X2 hx rfl (hb hby at_84) rfl (by decide) ?_
    exact k
  by_cases hc85_2 : ((((j4.toUInt64 >>> ((40 : Int32) &&& 0x3f).toInt64.toUInt64).toInt64).toInt32) % (2 : Int32)) = (0 : Int32)
  · rw [if_pos hc85_2]
    refine Done.of (T' := T2) (g' := (mkF m 97 #[.val (.long j0), .second, .val (.int i2), .val (.int i3), .val (.long j4), .second, .val (.ref b1), .val (.int (((j4.toUInt64 >>> ((40 : Int32) &&& 0x3f).toInt64.toUInt64).toInt64).toInt32)), .val (.long (j4 &&& (1099511627775 : Int64))), .second, .val (.int (1 : Int32)), .unset, .unset] [(.int (((j4.toUInt64 >>> ((40 : Int32) &&& 0x3f).toInt64.toUInt64).toInt64).toInt32))])) (fun t k => ?_) ?_
    · show Steps p.tables e below (T2.setTop (mkF m 85 #[.val (.long j0), .second, .val (.int i2), .val (.int i3), .val (.long j4), .second, .val (.ref b1), .val (.int (((j4.toUInt64 >>> ((40 : Int32) &&& 0x3f).toInt64.toUInt64).toInt64).toInt32)), .val (.long (j4 &&& (1099511627775 : Int64))), .second, .unset, .unset, .unset] [(.int ((((j4.toUInt64 >>> ((40 : Int32) &&& 0x3f).toInt64.toUInt64).toInt64).toInt32) % (2 : Int32)))])) t
      refine XS.ifNo X2.here hx rfl (hb hby at_85) rfl ((if0 _ _).trans (teq hc85_2).2) ?_
      show Steps p.tables e below (T2.setTop (mkF m 88 #[.val (.long j0), .second, .val (.int i2), .val (.int i3), .val (.long j4), .second, .val (.ref b1), .val (.int (((j4.toUInt64 >>> ((40 : Int32) &&& 0x3f).toInt64.toUInt64).toInt64).toInt32)), .val (.long (j4 &&& (1099511627775 : Int64))), .second, .unset, .unset, .unset] [])) t
      refine XS.iconst X2.here hx rfl (hb hby at_88) ?_
      show Steps p.tables e below (T2.setTop (mkF m 89 #[.val (.long j0), .second, .val (.int i2), .val (.int i3), .val (.long j4), .second, .val (.ref b1), .val (.int (((j4.toUInt64 >>> ((40 : Int32) &&& 0x3f).toInt64.toUInt64).toInt64).toInt32)), .val (.long (j4 &&& (1099511627775 : Int64))), .second, .unset, .unset, .unset] [(.int (1 : Int32))])) t
      refine XS.goto X2.here hx rfl (pc0 := 89) (pc' := 93) rfl (hb hby at_89) (by decide) (by decide) ?_
      show Steps p.tables e below (T2.setTop (mkF m 93 #[.val (.long j0), .second, .val (.int i2), .val (.int i3), .val (.long j4), .second, .val (.ref b1), .val (.int (((j4.toUInt64 >>> ((40 : Int32) &&& 0x3f).toInt64.toUInt64).toInt64).toInt32)), .val (.long (j4 &&& (1099511627775 : Int64))), .second, .unset, .unset, .unset] [(.int (1 : Int32))])) t
      refine XS.istore X2.here hx rfl (hb hby at_93) rfl (l' := #[.val (.long j0), .second, .val (.int i2), .val (.int i3), .val (.long j4), .second, .val (.ref b1), .val (.int (((j4.toUInt64 >>> ((40 : Int32) &&& 0x3f).toInt64.toUInt64).toInt64).toInt32)), .val (.long (j4 &&& (1099511627775 : Int64))), .second, .val (.int (1 : Int32)), .unset, .unset]) rfl ?_
      show Steps p.tables e below (T2.setTop (mkF m 95 #[.val (.long j0), .second, .val (.int i2), .val (.int i3), .val (.long j4), .second, .val (.ref b1), .val (.int (((j4.toUInt64 >>> ((40 : Int32) &&& 0x3f).toInt64.toUInt64).toInt64).toInt32)), .val (.long (j4 &&& (1099511627775 : Int64))), .second, .val (.int (1 : Int32)), .unset, .unset] [])) t
      refine XS.iload X2.here hx rfl (hb hby at_95) rfl ?_
      exact k
    by_cases hc97_3 : (((j4.toUInt64 >>> ((40 : Int32) &&& 0x3f).toInt64.toUInt64).toInt64).toInt32) = (0 : Int32)
    · rw [if_pos hc97_3]
      refine Done.of (T' := T2) (g' := (mkF m 104 #[.val (.long j0), .second, .val (.int i2), .val (.int i3), .val (.long j4), .second, .val (.ref b1), .val (.int (((j4.toUInt64 >>> ((40 : Int32) &&& 0x3f).toInt64.toUInt64).toInt64).toInt32)), .val (.long (j4 &&& (1099511627775 : Int64))), .second, .val (.int (1 : Int32)), .unset, .unset] [(.int (lcmpW (j4 &&& (1099511627775 : Int64)) (0 : Int64)))])) (fun t k => ?_) ?_
      · show Steps p.tables e below (T2.setTop (mkF m 97 #[.val (.long j0), .second, .val (.int i2), .val (.int i3), .val (.long j4), .second, .val (.ref b1), .val (.int (((j4.toUInt64 >>> ((40 : Int32) &&& 0x3f).toInt64.toUInt64).toInt64).toInt32)), .val (.long (j4 &&& (1099511627775 : Int64))), .second, .val (.int (1 : Int32)), .unset, .unset] [(.int (((j4.toUInt64 >>> ((40 : Int32) &&& 0x3f).toInt64.toUInt64).toInt64).toInt32))])) t
        refine XS.ifNo X2.here hx rfl (hb hby at_97) rfl ((if0 _ _).trans (teq hc97_3).2) ?_
        show Steps p.tables e below (T2.setTop (mkF m 100 #[.val (.long j0), .second, .val (.int i2), .val (.int i3), .val (.long j4), .second, .val (.ref b1), .val (.int (((j4.toUInt64 >>> ((40 : Int32) &&& 0x3f).toInt64.toUInt64).toInt64).toInt32)), .val (.long (j4 &&& (1099511627775 : Int64))), .second, .val (.int (1 : Int32)), .unset, .unset] [])) t
        refine XS.lload X2.here hx rfl (hb hby at_100) rfl ?_
        show Steps p.tables e below (T2.setTop (mkF m 102 #[.val (.long j0), .second, .val (.int i2), .val (.int i3), .val (.long j4), .second, .val (.ref b1), .val (.int (((j4.toUInt64 >>> ((40 : Int32) &&& 0x3f).toInt64.toUInt64).toInt64).toInt32)), .val (.long (j4 &&& (1099511627775 : Int64))), .second, .val (.int (1 : Int32)), .unset, .unset] [(.long (j4 &&& (1099511627775 : Int64)))])) t
        refine XS.lconst X2.here hx rfl (hb hby at_102) ?_
        show Steps p.tables e below (T2.setTop (mkF m 103 #[.val (.long j0), .second, .val (.int i2), .val (.int i3), .val (.long j4), .second, .val (.ref b1), .val (.int (((j4.toUInt64 >>> ((40 : Int32) &&& 0x3f).toInt64.toUInt64).toInt64).toInt32)), .val (.long (j4 &&& (1099511627775 : Int64))), .second, .val (.int (1 : Int32)), .unset, .unset] [(.long (0 : Int64)), (.long (j4 &&& (1099511627775 : Int64)))])) t
        refine XS.lcmp X2.here hx rfl (hb hby at_103) rfl ?_
        exact k
      by_cases hc104_4 : (j4 &&& (1099511627775 : Int64)) = (0 : Int64)
      · rw [if_pos hc104_4]
        refine Done.of (T' := T2) (g' := (mkF m 133 #[.val (.long j0), .second, .val (.int i2), .val (.int i3), .val (.long j4), .second, .val (.ref b1), .val (.int (((j4.toUInt64 >>> ((40 : Int32) &&& 0x3f).toInt64.toUInt64).toInt64).toInt32)), .val (.long (j4 &&& (1099511627775 : Int64))), .second, .val (.int (1 : Int32)), .val (.int (0 : Int32)), .val (.int (0 : Int32))] [(.ref b1)])) (fun t k => ?_) ?_
        · show Steps p.tables e below (T2.setTop (mkF m 104 #[.val (.long j0), .second, .val (.int i2), .val (.int i3), .val (.long j4), .second, .val (.ref b1), .val (.int (((j4.toUInt64 >>> ((40 : Int32) &&& 0x3f).toInt64.toUInt64).toInt64).toInt32)), .val (.long (j4 &&& (1099511627775 : Int64))), .second, .val (.int (1 : Int32)), .unset, .unset] [(.int (lcmpW (j4 &&& (1099511627775 : Int64)) (0 : Int64)))])) t
          refine XS.ifYes X2.here hx rfl (pc0 := 104) (pc' := 111) rfl (hb hby at_104) rfl (lcEq_t hc104_4).1 (by decide) (by decide) ?_
          show Steps p.tables e below (T2.setTop (mkF m 111 #[.val (.long j0), .second, .val (.int i2), .val (.int i3), .val (.long j4), .second, .val (.ref b1), .val (.int (((j4.toUInt64 >>> ((40 : Int32) &&& 0x3f).toInt64.toUInt64).toInt64).toInt32)), .val (.long (j4 &&& (1099511627775 : Int64))), .second, .val (.int (1 : Int32)), .unset, .unset] [])) t
          refine XS.iconst X2.here hx rfl (hb hby at_111) ?_
          show Steps p.tables e below (T2.setTop (mkF m 112 #[.val (.long j0), .second, .val (.int i2), .val (.int i3), .val (.long j4), .second, .val (.ref b1), .val (.int (((j4.toUInt64 >>> ((40 : Int32) &&& 0x3f).toInt64.toUInt64).toInt64).toInt32)), .val (.long (j4 &&& (1099511627775 : Int64))), .second, .val (.int (1 : Int32)), .unset, .unset] [(.int (0 : Int32))])) t
          refine XS.istore X2.here hx rfl (hb hby at_112) rfl (l' := #[.val (.long j0), .second, .val (.int i2), .val (.int i3), .val (.long j4), .second, .val (.ref b1), .val (.int (((j4.toUInt64 >>> ((40 : Int32) &&& 0x3f).toInt64.toUInt64).toInt64).toInt32)), .val (.long (j4 &&& (1099511627775 : Int64))), .second, .val (.int (1 : Int32)), .val (.int (0 : Int32)), .unset]) rfl ?_
          show Steps p.tables e below (T2.setTop (mkF m 114 #[.val (.long j0), .second, .val (.int i2), .val (.int i3), .val (.long j4), .second, .val (.ref b1), .val (.int (((j4.toUInt64 >>> ((40 : Int32) &&& 0x3f).toInt64.toUInt64).toInt64).toInt32)), .val (.long (j4 &&& (1099511627775 : Int64))), .second, .val (.int (1 : Int32)), .val (.int (0 : Int32)), .unset] [])) t
          refine XS.iload X2.here hx rfl (hb hby at_114) rfl ?_
          show Steps p.tables e below (T2.setTop (mkF m 116 #[.val (.long j0), .second, .val (.int i2), .val (.int i3), .val (.long j4), .second, .val (.ref b1), .val (.int (((j4.toUInt64 >>> ((40 : Int32) &&& 0x3f).toInt64.toUInt64).toInt64).toInt32)), .val (.long (j4 &&& (1099511627775 : Int64))), .second, .val (.int (1 : Int32)), .val (.int (0 : Int32)), .unset] [(.int (1 : Int32))])) t
          refine XS.ifNo X2.here hx rfl (hb hby at_116) rfl ((if0 _ _).trans (feq (show ¬ ((1 : Int32) = (0 : Int32)) from by decide)).1) ?_
          show Steps p.tables e below (T2.setTop (mkF m 119 #[.val (.long j0), .second, .val (.int i2), .val (.int i3), .val (.long j4), .second, .val (.ref b1), .val (.int (((j4.toUInt64 >>> ((40 : Int32) &&& 0x3f).toInt64.toUInt64).toInt64).toInt32)), .val (.long (j4 &&& (1099511627775 : Int64))), .second, .val (.int (1 : Int32)), .val (.int (0 : Int32)), .unset] [])) t
          refine XS.iload X2.here hx rfl (hb hby at_119) rfl ?_
          show Steps p.tables e below (T2.setTop (mkF m 121 #[.val (.long j0), .second, .val (.int i2), .val (.int i3), .val (.long j4), .second, .val (.ref b1), .val (.int (((j4.toUInt64 >>> ((40 : Int32) &&& 0x3f).toInt64.toUInt64).toInt64).toInt32)), .val (.long (j4 &&& (1099511627775 : Int64))), .second, .val (.int (1 : Int32)), .val (.int (0 : Int32)), .unset] [(.int (0 : Int32))])) t
          refine XS.ifYes X2.here hx rfl (pc0 := 121) (pc' := 128) rfl (hb hby at_121) rfl ((if0 _ _).trans (teq (show (0 : Int32) = (0 : Int32) from by decide)).1) (by decide) (by decide) ?_
          show Steps p.tables e below (T2.setTop (mkF m 128 #[.val (.long j0), .second, .val (.int i2), .val (.int i3), .val (.long j4), .second, .val (.ref b1), .val (.int (((j4.toUInt64 >>> ((40 : Int32) &&& 0x3f).toInt64.toUInt64).toInt64).toInt32)), .val (.long (j4 &&& (1099511627775 : Int64))), .second, .val (.int (1 : Int32)), .val (.int (0 : Int32)), .unset] [])) t
          refine XS.iconst X2.here hx rfl (hb hby at_128) ?_
          show Steps p.tables e below (T2.setTop (mkF m 129 #[.val (.long j0), .second, .val (.int i2), .val (.int i3), .val (.long j4), .second, .val (.ref b1), .val (.int (((j4.toUInt64 >>> ((40 : Int32) &&& 0x3f).toInt64.toUInt64).toInt64).toInt32)), .val (.long (j4 &&& (1099511627775 : Int64))), .second, .val (.int (1 : Int32)), .val (.int (0 : Int32)), .unset] [(.int (0 : Int32))])) t
          refine XS.istore X2.here hx rfl (hb hby at_129) rfl (l' := #[.val (.long j0), .second, .val (.int i2), .val (.int i3), .val (.long j4), .second, .val (.ref b1), .val (.int (((j4.toUInt64 >>> ((40 : Int32) &&& 0x3f).toInt64.toUInt64).toInt64).toInt32)), .val (.long (j4 &&& (1099511627775 : Int64))), .second, .val (.int (1 : Int32)), .val (.int (0 : Int32)), .val (.int (0 : Int32))]) rfl ?_
          show Steps p.tables e below (T2.setTop (mkF m 131 #[.val (.long j0), .second, .val (.int i2), .val (.int i3), .val (.long j4), .second, .val (.ref b1), .val (.int (((j4.toUInt64 >>> ((40 : Int32) &&& 0x3f).toInt64.toUInt64).toInt64).toInt32)), .val (.long (j4 &&& (1099511627775 : Int64))), .second, .val (.int (1 : Int32)), .val (.int (0 : Int32)), .val (.int (0 : Int32))] [])) t
          refine XS.aload X2.here hx rfl (hb hby at_131) rfl rfl ?_
          exact k
        obtain ⟨cq6, kq6, q6a, q6b, q6c⟩ := isOf hZ e2 E2
        obtain ⟨_, _, ⟨T6, L6, k6, n6⟩, -, X6, ⟨Lc6, hQ6, l6, y6, z6⟩, st6⟩ := X2.virtualBack hx (y := (⟨"com/example/tetherd/tetherd/core/link/MacAddress", "unicast", "()Z"⟩ : MethodName)) (z := (⟨"com/example/tetherd/tetherd/core/link/MacAddress", "unicast", "()Z"⟩ : MethodName)) hown (mvT hZ (hw _ (List.mem_of_getElem? (i := 19) rfl))) (mvT hZ (hw _ (List.mem_of_getElem? (i := 20) rfl))) (notFace_of_selects (args := #[]) (mvT hZ (hw _ (List.mem_of_getElem? (i := 22) rfl)))) (mvT hZ (hw _ (List.mem_of_getElem? (i := 22) rfl))) (mvT hZ (hw _ (List.mem_of_getElem? (i := 21) rfl))) (by decide) (backOf (W := 0) (rm4 l Z a0 hw [] b1 h2 n0 j4 F2_bits) hZ (hw _ (List.mem_of_getElem? (i := 23) rfl)) (hw _ (List.mem_of_getElem? (i := 3) rfl)) (by decide) (by decide)) q6a q6c (g := (mkF m 133 #[.val (.long j0), .second, .val (.int i2), .val (.int i3), .val (.long j4), .second, .val (.ref b1), .val (.int (((j4.toUInt64 >>> ((40 : Int32) &&& 0x3f).toInt64.toUInt64).toInt64).toInt32)), .val (.long (j4 &&& (1099511627775 : Int64))), .second, .val (.int (1 : Int32)), .val (.int (0 : Int32)), .val (.int (0 : Int32))] [(.ref b1)])) rfl (by rw [hml]; rfl) (Steps.refl _) (argsL := []) (rest := []) (lenOf pd_2 rfl) rfl (by show 2 * 0 + _ ≤ _; exact Nat.le_of_eq rfl) (hb hby at_133) (fun _ _ => ⟨rfl, e2, (by decide : 1 + 0 ≤ _), (by decide : 1 + 0 ≤ _)⟩)
        dsimp only [Pt.U, Pt.locs, Pt.cells, Pt.slots] at X6 l6 y6 z6 st6 hQ6
        subst l6 y6 z6
        obtain ⟨rfl, N6q, e6⟩ := hQ6
        have N6 := Fr.app N2 N6q
        replace X6 : Stand p l e room_1 s m args below meth c T6 _ 1 1 := X6
        refine Done.of (g' := (mkF m 136 #[.val (.long j0), .second, .val (.int i2), .val (.int i3), .val (.long j4), .second, .val (.ref b1), .val (.int (((j4.toUInt64 >>> ((40 : Int32) &&& 0x3f).toInt64.toUInt64).toInt64).toInt32)), .val (.long (j4 &&& (1099511627775 : Int64))), .second, .val (.int (1 : Int32)), .val (.int (0 : Int32)), .val (.int (0 : Int32))] [(.int (F4_0 j4))])) (fun t k => st6.trans k) ?_
        refine Done.of (T' := T6) (g' := (mkF m 138 #[.val (.long j0), .second, .val (.int i2), .val (.int i3), .val (.long j4), .second, .val (.ref b1), .val (.int (((j4.toUInt64 >>> ((40 : Int32) &&& 0x3f).toInt64.toUInt64).toInt64).toInt32)), .val (.long (j4 &&& (1099511627775 : Int64))), .second, .val (.int (1 : Int32)), .val (.int (0 : Int32)), .val (.int (0 : Int32))] [(.int (0 : Int32)), (.int (F4_0 j4))])) (fun t k => ?_) ?_
        · show Steps p.tables e below (T6.setTop (mkF m 136 #[.val (.long j0), .second, .val (.int i2), .val (.int i3), .val (.long j4), .second, .val (.ref b1), .val (.int (((j4.toUInt64 >>> ((40 : Int32) &&& 0x3f).toInt64.toUInt64).toInt64).toInt32)), .val (.long (j4 &&& (1099511627775 : Int64))), .second, .val (.int (1 : Int32)), .val (.int (0 : Int32)), .val (.int (0 : Int32))] [(.int (F4_0 j4))])) t
          refine XS.iload X6.here hx rfl (hb hby at_136) rfl ?_
          exact k
        by_cases hc138_6 : (F4_0 j4) = (0 : Int32)
        · rw [if_pos hc138_6]
          refine Done.of (T' := T6) (g' := (mkF m 146 #[.val (.long j0), .second, .val (.int i2), .val (.int i3), .val (.long j4), .second, .val (.ref b1), .val (.int (((j4.toUInt64 >>> ((40 : Int32) &&& 0x3f).toInt64.toUInt64).toInt64).toInt32)), .val (.long (j4 &&& (1099511627775 : Int64))), .second, .val (.int (1 : Int32)), .val (.int (0 : Int32)), .val (.int (0 : Int32))] [(.int (1 : Int32))])) (fun t k => ?_) ?_
          · show Steps p.tables e below (T6.setTop (mkF m 138 #[.val (.long j0), .second, .val (.int i2), .val (.int i3), .val (.long j4), .second, .val (.ref b1), .val (.int (((j4.toUInt64 >>> ((40 : Int32) &&& 0x3f).toInt64.toUInt64).toInt64).toInt32)), .val (.long (j4 &&& (1099511627775 : Int64))), .second, .val (.int (1 : Int32)), .val (.int (0 : Int32)), .val (.int (0 : Int32))] [(.int (0 : Int32)), (.int (F4_0 j4))])) t
            refine XS.icmpNo X6.here hx rfl (hb hby at_138) rfl (teq hc138_6).2 ?_
            show Steps p.tables e below (T6.setTop (mkF m 141 #[.val (.long j0), .second, .val (.int i2), .val (.int i3), .val (.long j4), .second, .val (.ref b1), .val (.int (((j4.toUInt64 >>> ((40 : Int32) &&& 0x3f).toInt64.toUInt64).toInt64).toInt32)), .val (.long (j4 &&& (1099511627775 : Int64))), .second, .val (.int (1 : Int32)), .val (.int (0 : Int32)), .val (.int (0 : Int32))] [])) t
            refine XS.iconst X6.here hx rfl (hb hby at_141) ?_
            show Steps p.tables e below (T6.setTop (mkF m 142 #[.val (.long j0), .second, .val (.int i2), .val (.int i3), .val (.long j4), .second, .val (.ref b1), .val (.int (((j4.toUInt64 >>> ((40 : Int32) &&& 0x3f).toInt64.toUInt64).toInt64).toInt32)), .val (.long (j4 &&& (1099511627775 : Int64))), .second, .val (.int (1 : Int32)), .val (.int (0 : Int32)), .val (.int (0 : Int32))] [(.int (1 : Int32))])) t
            refine XS.goto X6.here hx rfl (pc0 := 142) (pc' := 146) rfl (hb hby at_142) (by decide) (by decide) ?_
            exact k
          exact doneN (t := .boolean) X6 (by simp) hx hret hlk (hb hby at_146) ⟨rfl, N6⟩ (by decide) (by decide)
        · rw [if_neg hc138_6]
          refine Done.of (T' := T6) (g' := (mkF m 146 #[.val (.long j0), .second, .val (.int i2), .val (.int i3), .val (.long j4), .second, .val (.ref b1), .val (.int (((j4.toUInt64 >>> ((40 : Int32) &&& 0x3f).toInt64.toUInt64).toInt64).toInt32)), .val (.long (j4 &&& (1099511627775 : Int64))), .second, .val (.int (1 : Int32)), .val (.int (0 : Int32)), .val (.int (0 : Int32))] [(.int (0 : Int32))])) (fun t k => ?_) ?_
          · show Steps p.tables e below (T6.setTop (mkF m 138 #[.val (.long j0), .second, .val (.int i2), .val (.int i3), .val (.long j4), .second, .val (.ref b1), .val (.int (((j4.toUInt64 >>> ((40 : Int32) &&& 0x3f).toInt64.toUInt64).toInt64).toInt32)), .val (.long (j4 &&& (1099511627775 : Int64))), .second, .val (.int (1 : Int32)), .val (.int (0 : Int32)), .val (.int (0 : Int32))] [(.int (0 : Int32)), (.int (F4_0 j4))])) t
            refine XS.icmpYes X6.here hx rfl (pc0 := 138) (pc' := 145) rfl (hb hby at_138) rfl (feq hc138_6).2 (by decide) (by decide) ?_
            show Steps p.tables e below (T6.setTop (mkF m 145 #[.val (.long j0), .second, .val (.int i2), .val (.int i3), .val (.long j4), .second, .val (.ref b1), .val (.int (((j4.toUInt64 >>> ((40 : Int32) &&& 0x3f).toInt64.toUInt64).toInt64).toInt32)), .val (.long (j4 &&& (1099511627775 : Int64))), .second, .val (.int (1 : Int32)), .val (.int (0 : Int32)), .val (.int (0 : Int32))] [])) t
            refine XS.iconst X6.here hx rfl (hb hby at_145) ?_
            exact k
          exact doneN (t := .boolean) X6 (by simp) hx hret hlk (hb hby at_146) ⟨rfl, N6⟩ (by decide) (by decide)
      · rw [if_neg hc104_4]
        refine Done.of (T' := T2) (g' := (mkF m 133 #[.val (.long j0), .second, .val (.int i2), .val (.int i3), .val (.long j4), .second, .val (.ref b1), .val (.int (((j4.toUInt64 >>> ((40 : Int32) &&& 0x3f).toInt64.toUInt64).toInt64).toInt32)), .val (.long (j4 &&& (1099511627775 : Int64))), .second, .val (.int (1 : Int32)), .val (.int (1 : Int32)), .val (.int (1 : Int32))] [(.ref b1)])) (fun t k => ?_) ?_
        · show Steps p.tables e below (T2.setTop (mkF m 104 #[.val (.long j0), .second, .val (.int i2), .val (.int i3), .val (.long j4), .second, .val (.ref b1), .val (.int (((j4.toUInt64 >>> ((40 : Int32) &&& 0x3f).toInt64.toUInt64).toInt64).toInt32)), .val (.long (j4 &&& (1099511627775 : Int64))), .second, .val (.int (1 : Int32)), .unset, .unset] [(.int (lcmpW (j4 &&& (1099511627775 : Int64)) (0 : Int64)))])) t
          refine XS.ifNo X2.here hx rfl (hb hby at_104) rfl (lcEq_f hc104_4).1 ?_
          show Steps p.tables e below (T2.setTop (mkF m 107 #[.val (.long j0), .second, .val (.int i2), .val (.int i3), .val (.long j4), .second, .val (.ref b1), .val (.int (((j4.toUInt64 >>> ((40 : Int32) &&& 0x3f).toInt64.toUInt64).toInt64).toInt32)), .val (.long (j4 &&& (1099511627775 : Int64))), .second, .val (.int (1 : Int32)), .unset, .unset] [])) t
          refine XS.iconst X2.here hx rfl (hb hby at_107) ?_
          show Steps p.tables e below (T2.setTop (mkF m 108 #[.val (.long j0), .second, .val (.int i2), .val (.int i3), .val (.long j4), .second, .val (.ref b1), .val (.int (((j4.toUInt64 >>> ((40 : Int32) &&& 0x3f).toInt64.toUInt64).toInt64).toInt32)), .val (.long (j4 &&& (1099511627775 : Int64))), .second, .val (.int (1 : Int32)), .unset, .unset] [(.int (1 : Int32))])) t
          refine XS.goto X2.here hx rfl (pc0 := 108) (pc' := 112) rfl (hb hby at_108) (by decide) (by decide) ?_
          show Steps p.tables e below (T2.setTop (mkF m 112 #[.val (.long j0), .second, .val (.int i2), .val (.int i3), .val (.long j4), .second, .val (.ref b1), .val (.int (((j4.toUInt64 >>> ((40 : Int32) &&& 0x3f).toInt64.toUInt64).toInt64).toInt32)), .val (.long (j4 &&& (1099511627775 : Int64))), .second, .val (.int (1 : Int32)), .unset, .unset] [(.int (1 : Int32))])) t
          refine XS.istore X2.here hx rfl (hb hby at_112) rfl (l' := #[.val (.long j0), .second, .val (.int i2), .val (.int i3), .val (.long j4), .second, .val (.ref b1), .val (.int (((j4.toUInt64 >>> ((40 : Int32) &&& 0x3f).toInt64.toUInt64).toInt64).toInt32)), .val (.long (j4 &&& (1099511627775 : Int64))), .second, .val (.int (1 : Int32)), .val (.int (1 : Int32)), .unset]) rfl ?_
          show Steps p.tables e below (T2.setTop (mkF m 114 #[.val (.long j0), .second, .val (.int i2), .val (.int i3), .val (.long j4), .second, .val (.ref b1), .val (.int (((j4.toUInt64 >>> ((40 : Int32) &&& 0x3f).toInt64.toUInt64).toInt64).toInt32)), .val (.long (j4 &&& (1099511627775 : Int64))), .second, .val (.int (1 : Int32)), .val (.int (1 : Int32)), .unset] [])) t
          refine XS.iload X2.here hx rfl (hb hby at_114) rfl ?_
          show Steps p.tables e below (T2.setTop (mkF m 116 #[.val (.long j0), .second, .val (.int i2), .val (.int i3), .val (.long j4), .second, .val (.ref b1), .val (.int (((j4.toUInt64 >>> ((40 : Int32) &&& 0x3f).toInt64.toUInt64).toInt64).toInt32)), .val (.long (j4 &&& (1099511627775 : Int64))), .second, .val (.int (1 : Int32)), .val (.int (1 : Int32)), .unset] [(.int (1 : Int32))])) t
          refine XS.ifNo X2.here hx rfl (hb hby at_116) rfl ((if0 _ _).trans (feq (show ¬ ((1 : Int32) = (0 : Int32)) from by decide)).1) ?_
          show Steps p.tables e below (T2.setTop (mkF m 119 #[.val (.long j0), .second, .val (.int i2), .val (.int i3), .val (.long j4), .second, .val (.ref b1), .val (.int (((j4.toUInt64 >>> ((40 : Int32) &&& 0x3f).toInt64.toUInt64).toInt64).toInt32)), .val (.long (j4 &&& (1099511627775 : Int64))), .second, .val (.int (1 : Int32)), .val (.int (1 : Int32)), .unset] [])) t
          refine XS.iload X2.here hx rfl (hb hby at_119) rfl ?_
          show Steps p.tables e below (T2.setTop (mkF m 121 #[.val (.long j0), .second, .val (.int i2), .val (.int i3), .val (.long j4), .second, .val (.ref b1), .val (.int (((j4.toUInt64 >>> ((40 : Int32) &&& 0x3f).toInt64.toUInt64).toInt64).toInt32)), .val (.long (j4 &&& (1099511627775 : Int64))), .second, .val (.int (1 : Int32)), .val (.int (1 : Int32)), .unset] [(.int (1 : Int32))])) t
          refine XS.ifNo X2.here hx rfl (hb hby at_121) rfl ((if0 _ _).trans (feq (show ¬ ((1 : Int32) = (0 : Int32)) from by decide)).1) ?_
          show Steps p.tables e below (T2.setTop (mkF m 124 #[.val (.long j0), .second, .val (.int i2), .val (.int i3), .val (.long j4), .second, .val (.ref b1), .val (.int (((j4.toUInt64 >>> ((40 : Int32) &&& 0x3f).toInt64.toUInt64).toInt64).toInt32)), .val (.long (j4 &&& (1099511627775 : Int64))), .second, .val (.int (1 : Int32)), .val (.int (1 : Int32)), .unset] [])) t
          refine XS.iconst X2.here hx rfl (hb hby at_124) ?_
          show Steps p.tables e below (T2.setTop (mkF m 125 #[.val (.long j0), .second, .val (.int i2), .val (.int i3), .val (.long j4), .second, .val (.ref b1), .val (.int (((j4.toUInt64 >>> ((40 : Int32) &&& 0x3f).toInt64.toUInt64).toInt64).toInt32)), .val (.long (j4 &&& (1099511627775 : Int64))), .second, .val (.int (1 : Int32)), .val (.int (1 : Int32)), .unset] [(.int (1 : Int32))])) t
          refine XS.goto X2.here hx rfl (pc0 := 125) (pc' := 129) rfl (hb hby at_125) (by decide) (by decide) ?_
          show Steps p.tables e below (T2.setTop (mkF m 129 #[.val (.long j0), .second, .val (.int i2), .val (.int i3), .val (.long j4), .second, .val (.ref b1), .val (.int (((j4.toUInt64 >>> ((40 : Int32) &&& 0x3f).toInt64.toUInt64).toInt64).toInt32)), .val (.long (j4 &&& (1099511627775 : Int64))), .second, .val (.int (1 : Int32)), .val (.int (1 : Int32)), .unset] [(.int (1 : Int32))])) t
          refine XS.istore X2.here hx rfl (hb hby at_129) rfl (l' := #[.val (.long j0), .second, .val (.int i2), .val (.int i3), .val (.long j4), .second, .val (.ref b1), .val (.int (((j4.toUInt64 >>> ((40 : Int32) &&& 0x3f).toInt64.toUInt64).toInt64).toInt32)), .val (.long (j4 &&& (1099511627775 : Int64))), .second, .val (.int (1 : Int32)), .val (.int (1 : Int32)), .val (.int (1 : Int32))]) rfl ?_
          show Steps p.tables e below (T2.setTop (mkF m 131 #[.val (.long j0), .second, .val (.int i2), .val (.int i3), .val (.long j4), .second, .val (.ref b1), .val (.int (((j4.toUInt64 >>> ((40 : Int32) &&& 0x3f).toInt64.toUInt64).toInt64).toInt32)), .val (.long (j4 &&& (1099511627775 : Int64))), .second, .val (.int (1 : Int32)), .val (.int (1 : Int32)), .val (.int (1 : Int32))] [])) t
          refine XS.aload X2.here hx rfl (hb hby at_131) rfl rfl ?_
          exact k
        obtain ⟨cq8, kq8, q8a, q8b, q8c⟩ := isOf hZ e2 E2
        obtain ⟨_, _, ⟨T8, L8, k8, n8⟩, -, X8, ⟨Lc8, hQ8, l8, y8, z8⟩, st8⟩ := X2.virtualBack hx (y := (⟨"com/example/tetherd/tetherd/core/link/MacAddress", "unicast", "()Z"⟩ : MethodName)) (z := (⟨"com/example/tetherd/tetherd/core/link/MacAddress", "unicast", "()Z"⟩ : MethodName)) hown (mvT hZ (hw _ (List.mem_of_getElem? (i := 19) rfl))) (mvT hZ (hw _ (List.mem_of_getElem? (i := 20) rfl))) (notFace_of_selects (args := #[]) (mvT hZ (hw _ (List.mem_of_getElem? (i := 22) rfl)))) (mvT hZ (hw _ (List.mem_of_getElem? (i := 22) rfl))) (mvT hZ (hw _ (List.mem_of_getElem? (i := 21) rfl))) (by decide) (backOf (W := 0) (rm4 l Z a0 hw [] b1 h2 n0 j4 F2_bits) hZ (hw _ (List.mem_of_getElem? (i := 23) rfl)) (hw _ (List.mem_of_getElem? (i := 3) rfl)) (by decide) (by decide)) q8a q8c (g := (mkF m 133 #[.val (.long j0), .second, .val (.int i2), .val (.int i3), .val (.long j4), .second, .val (.ref b1), .val (.int (((j4.toUInt64 >>> ((40 : Int32) &&& 0x3f).toInt64.toUInt64).toInt64).toInt32)), .val (.long (j4 &&& (1099511627775 : Int64))), .second, .val (.int (1 : Int32)), .val (.int (1 : Int32)), .val (.int (1 : Int32))] [(.ref b1)])) rfl (by rw [hml]; rfl) (Steps.refl _) (argsL := []) (rest := []) (lenOf pd_2 rfl) rfl (by show 2 * 0 + _ ≤ _; exact Nat.le_of_eq rfl) (hb hby at_133) (fun _ _ => ⟨rfl, e2, (by decide : 1 + 0 ≤ _), (by decide : 1 + 0 ≤ _)⟩)
        dsimp only [Pt.U, Pt.locs, Pt.cells, Pt.slots] at X8 l8 y8 z8 st8 hQ8
        subst l8 y8 z8
        obtain ⟨rfl, N8q, e8⟩ := hQ8
        have N8 := Fr.app N2 N8q
        replace X8 : Stand p l e room_1 s m args below meth c T8 _ 1 1 := X8
        refine Done.of (g' := (mkF m 136 #[.val (.long j0), .second, .val (.int i2), .val (.int i3), .val (.long j4), .second, .val (.ref b1), .val (.int (((j4.toUInt64 >>> ((40 : Int32) &&& 0x3f).toInt64.toUInt64).toInt64).toInt32)), .val (.long (j4 &&& (1099511627775 : Int64))), .second, .val (.int (1 : Int32)), .val (.int (1 : Int32)), .val (.int (1 : Int32))] [(.int (F4_0 j4))])) (fun t k => st8.trans k) ?_
        refine Done.of (T' := T8) (g' := (mkF m 138 #[.val (.long j0), .second, .val (.int i2), .val (.int i3), .val (.long j4), .second, .val (.ref b1), .val (.int (((j4.toUInt64 >>> ((40 : Int32) &&& 0x3f).toInt64.toUInt64).toInt64).toInt32)), .val (.long (j4 &&& (1099511627775 : Int64))), .second, .val (.int (1 : Int32)), .val (.int (1 : Int32)), .val (.int (1 : Int32))] [(.int (1 : Int32)), (.int (F4_0 j4))])) (fun t k => ?_) ?_
        · show Steps p.tables e below (T8.setTop (mkF m 136 #[.val (.long j0), .second, .val (.int i2), .val (.int i3), .val (.long j4), .second, .val (.ref b1), .val (.int (((j4.toUInt64 >>> ((40 : Int32) &&& 0x3f).toInt64.toUInt64).toInt64).toInt32)), .val (.long (j4 &&& (1099511627775 : Int64))), .second, .val (.int (1 : Int32)), .val (.int (1 : Int32)), .val (.int (1 : Int32))] [(.int (F4_0 j4))])) t
          refine XS.iload X8.here hx rfl (hb hby at_136) rfl ?_
          exact k
        by_cases hc138_8 : (F4_0 j4) = (1 : Int32)
        · rw [if_pos hc138_8]
          refine Done.of (T' := T8) (g' := (mkF m 146 #[.val (.long j0), .second, .val (.int i2), .val (.int i3), .val (.long j4), .second, .val (.ref b1), .val (.int (((j4.toUInt64 >>> ((40 : Int32) &&& 0x3f).toInt64.toUInt64).toInt64).toInt32)), .val (.long (j4 &&& (1099511627775 : Int64))), .second, .val (.int (1 : Int32)), .val (.int (1 : Int32)), .val (.int (1 : Int32))] [(.int (1 : Int32))])) (fun t k => ?_) ?_
          · show Steps p.tables e below (T8.setTop (mkF m 138 #[.val (.long j0), .second, .val (.int i2), .val (.int i3), .val (.long j4), .second, .val (.ref b1), .val (.int (((j4.toUInt64 >>> ((40 : Int32) &&& 0x3f).toInt64.toUInt64).toInt64).toInt32)), .val (.long (j4 &&& (1099511627775 : Int64))), .second, .val (.int (1 : Int32)), .val (.int (1 : Int32)), .val (.int (1 : Int32))] [(.int (1 : Int32)), (.int (F4_0 j4))])) t
            refine XS.icmpNo X8.here hx rfl (hb hby at_138) rfl (teq hc138_8).2 ?_
            show Steps p.tables e below (T8.setTop (mkF m 141 #[.val (.long j0), .second, .val (.int i2), .val (.int i3), .val (.long j4), .second, .val (.ref b1), .val (.int (((j4.toUInt64 >>> ((40 : Int32) &&& 0x3f).toInt64.toUInt64).toInt64).toInt32)), .val (.long (j4 &&& (1099511627775 : Int64))), .second, .val (.int (1 : Int32)), .val (.int (1 : Int32)), .val (.int (1 : Int32))] [])) t
            refine XS.iconst X8.here hx rfl (hb hby at_141) ?_
            show Steps p.tables e below (T8.setTop (mkF m 142 #[.val (.long j0), .second, .val (.int i2), .val (.int i3), .val (.long j4), .second, .val (.ref b1), .val (.int (((j4.toUInt64 >>> ((40 : Int32) &&& 0x3f).toInt64.toUInt64).toInt64).toInt32)), .val (.long (j4 &&& (1099511627775 : Int64))), .second, .val (.int (1 : Int32)), .val (.int (1 : Int32)), .val (.int (1 : Int32))] [(.int (1 : Int32))])) t
            refine XS.goto X8.here hx rfl (pc0 := 142) (pc' := 146) rfl (hb hby at_142) (by decide) (by decide) ?_
            exact k
          exact doneN (t := .boolean) X8 (by simp) hx hret hlk (hb hby at_146) ⟨rfl, N8⟩ (by decide) (by decide)
        · rw [if_neg hc138_8]
          refine Done.of (T' := T8) (g' := (mkF m 146 #[.val (.long j0), .second, .val (.int i2), .val (.int i3), .val (.long j4), .second, .val (.ref b1), .val (.int (((j4.toUInt64 >>> ((40 : Int32) &&& 0x3f).toInt64.toUInt64).toInt64).toInt32)), .val (.long (j4 &&& (1099511627775 : Int64))), .second, .val (.int (1 : Int32)), .val (.int (1 : Int32)), .val (.int (1 : Int32))] [(.int (0 : Int32))])) (fun t k => ?_) ?_
          · show Steps p.tables e below (T8.setTop (mkF m 138 #[.val (.long j0), .second, .val (.int i2), .val (.int i3), .val (.long j4), .second, .val (.ref b1), .val (.int (((j4.toUInt64 >>> ((40 : Int32) &&& 0x3f).toInt64.toUInt64).toInt64).toInt32)), .val (.long (j4 &&& (1099511627775 : Int64))), .second, .val (.int (1 : Int32)), .val (.int (1 : Int32)), .val (.int (1 : Int32))] [(.int (1 : Int32)), (.int (F4_0 j4))])) t
            refine XS.icmpYes X8.here hx rfl (pc0 := 138) (pc' := 145) rfl (hb hby at_138) rfl (feq hc138_8).2 (by decide) (by decide) ?_
            show Steps p.tables e below (T8.setTop (mkF m 145 #[.val (.long j0), .second, .val (.int i2), .val (.int i3), .val (.long j4), .second, .val (.ref b1), .val (.int (((j4.toUInt64 >>> ((40 : Int32) &&& 0x3f).toInt64.toUInt64).toInt64).toInt32)), .val (.long (j4 &&& (1099511627775 : Int64))), .second, .val (.int (1 : Int32)), .val (.int (1 : Int32)), .val (.int (1 : Int32))] [])) t
            refine XS.iconst X8.here hx rfl (hb hby at_145) ?_
            exact k
          exact doneN (t := .boolean) X8 (by simp) hx hret hlk (hb hby at_146) ⟨rfl, N8⟩ (by decide) (by decide)
    · rw [if_neg hc97_3]
      refine Done.of (T' := T2) (g' := (mkF m 133 #[.val (.long j0), .second, .val (.int i2), .val (.int i3), .val (.long j4), .second, .val (.ref b1), .val (.int (((j4.toUInt64 >>> ((40 : Int32) &&& 0x3f).toInt64.toUInt64).toInt64).toInt32)), .val (.long (j4 &&& (1099511627775 : Int64))), .second, .val (.int (1 : Int32)), .val (.int (1 : Int32)), .val (.int (1 : Int32))] [(.ref b1)])) (fun t k => ?_) ?_
      · show Steps p.tables e below (T2.setTop (mkF m 97 #[.val (.long j0), .second, .val (.int i2), .val (.int i3), .val (.long j4), .second, .val (.ref b1), .val (.int (((j4.toUInt64 >>> ((40 : Int32) &&& 0x3f).toInt64.toUInt64).toInt64).toInt32)), .val (.long (j4 &&& (1099511627775 : Int64))), .second, .val (.int (1 : Int32)), .unset, .unset] [(.int (((j4.toUInt64 >>> ((40 : Int32) &&& 0x3f).toInt64.toUInt64).toInt64).toInt32))])) t
        refine XS.ifYes X2.here hx rfl (pc0 := 97) (pc' := 107) rfl (hb hby at_97) rfl ((if0 _ _).trans (feq hc97_3).2) (by decide) (by decide) ?_
        show Steps p.tables e below (T2.setTop (mkF m 107 #[.val (.long j0), .second, .val (.int i2), .val (.int i3), .val (.long j4), .second, .val (.ref b1), .val (.int (((j4.toUInt64 >>> ((40 : Int32) &&& 0x3f).toInt64.toUInt64).toInt64).toInt32)), .val (.long (j4 &&& (1099511627775 : Int64))), .second, .val (.int (1 : Int32)), .unset, .unset] [])) t
        refine XS.iconst X2.here hx rfl (hb hby at_107) ?_
        show Steps p.tables e below (T2.setTop (mkF m 108 #[.val (.long j0), .second, .val (.int i2), .val (.int i3), .val (.long j4), .second, .val (.ref b1), .val (.int (((j4.toUInt64 >>> ((40 : Int32) &&& 0x3f).toInt64.toUInt64).toInt64).toInt32)), .val (.long (j4 &&& (1099511627775 : Int64))), .second, .val (.int (1 : Int32)), .unset, .unset] [(.int (1 : Int32))])) t
        refine XS.goto X2.here hx rfl (pc0 := 108) (pc' := 112) rfl (hb hby at_108) (by decide) (by decide) ?_
        show Steps p.tables e below (T2.setTop (mkF m 112 #[.val (.long j0), .second, .val (.int i2), .val (.int i3), .val (.long j4), .second, .val (.ref b1), .val (.int (((j4.toUInt64 >>> ((40 : Int32) &&& 0x3f).toInt64.toUInt64).toInt64).toInt32)), .val (.long (j4 &&& (1099511627775 : Int64))), .second, .val (.int (1 : Int32)), .unset, .unset] [(.int (1 : Int32))])) t
        refine XS.istore X2.here hx rfl (hb hby at_112) rfl (l' := #[.val (.long j0), .second, .val (.int i2), .val (.int i3), .val (.long j4), .second, .val (.ref b1), .val (.int (((j4.toUInt64 >>> ((40 : Int32) &&& 0x3f).toInt64.toUInt64).toInt64).toInt32)), .val (.long (j4 &&& (1099511627775 : Int64))), .second, .val (.int (1 : Int32)), .val (.int (1 : Int32)), .unset]) rfl ?_
        show Steps p.tables e below (T2.setTop (mkF m 114 #[.val (.long j0), .second, .val (.int i2), .val (.int i3), .val (.long j4), .second, .val (.ref b1), .val (.int (((j4.toUInt64 >>> ((40 : Int32) &&& 0x3f).toInt64.toUInt64).toInt64).toInt32)), .val (.long (j4 &&& (1099511627775 : Int64))), .second, .val (.int (1 : Int32)), .val (.int (1 : Int32)), .unset] [])) t
        refine XS.iload X2.here hx rfl (hb hby at_114) rfl ?_
        show Steps p.tables e below (T2.setTop (mkF m 116 #[.val (.long j0), .second, .val (.int i2), .val (.int i3), .val (.long j4), .second, .val (.ref b1), .val (.int (((j4.toUInt64 >>> ((40 : Int32) &&& 0x3f).toInt64.toUInt64).toInt64).toInt32)), .val (.long (j4 &&& (1099511627775 : Int64))), .second, .val (.int (1 : Int32)), .val (.int (1 : Int32)), .unset] [(.int (1 : Int32))])) t
        refine XS.ifNo X2.here hx rfl (hb hby at_116) rfl ((if0 _ _).trans (feq (show ¬ ((1 : Int32) = (0 : Int32)) from by decide)).1) ?_
        show Steps p.tables e below (T2.setTop (mkF m 119 #[.val (.long j0), .second, .val (.int i2), .val (.int i3), .val (.long j4), .second, .val (.ref b1), .val (.int (((j4.toUInt64 >>> ((40 : Int32) &&& 0x3f).toInt64.toUInt64).toInt64).toInt32)), .val (.long (j4 &&& (1099511627775 : Int64))), .second, .val (.int (1 : Int32)), .val (.int (1 : Int32)), .unset] [])) t
        refine XS.iload X2.here hx rfl (hb hby at_119) rfl ?_
        show Steps p.tables e below (T2.setTop (mkF m 121 #[.val (.long j0), .second, .val (.int i2), .val (.int i3), .val (.long j4), .second, .val (.ref b1), .val (.int (((j4.toUInt64 >>> ((40 : Int32) &&& 0x3f).toInt64.toUInt64).toInt64).toInt32)), .val (.long (j4 &&& (1099511627775 : Int64))), .second, .val (.int (1 : Int32)), .val (.int (1 : Int32)), .unset] [(.int (1 : Int32))])) t
        refine XS.ifNo X2.here hx rfl (hb hby at_121) rfl ((if0 _ _).trans (feq (show ¬ ((1 : Int32) = (0 : Int32)) from by decide)).1) ?_
        show Steps p.tables e below (T2.setTop (mkF m 124 #[.val (.long j0), .second, .val (.int i2), .val (.int i3), .val (.long j4), .second, .val (.ref b1), .val (.int (((j4.toUInt64 >>> ((40 : Int32) &&& 0x3f).toInt64.toUInt64).toInt64).toInt32)), .val (.long (j4 &&& (1099511627775 : Int64))), .second, .val (.int (1 : Int32)), .val (.int (1 : Int32)), .unset] [])) t
        refine XS.iconst X2.here hx rfl (hb hby at_124) ?_
        show Steps p.tables e below (T2.setTop (mkF m 125 #[.val (.long j0), .second, .val (.int i2), .val (.int i3), .val (.long j4), .second, .val (.ref b1), .val (.int (((j4.toUInt64 >>> ((40 : Int32) &&& 0x3f).toInt64.toUInt64).toInt64).toInt32)), .val (.long (j4 &&& (1099511627775 : Int64))), .second, .val (.int (1 : Int32)), .val (.int (1 : Int32)), .unset] [(.int (1 : Int32))])) t
        refine XS.goto X2.here hx rfl (pc0 := 125) (pc' := 129) rfl (hb hby at_125) (by decide) (by decide) ?_
        show Steps p.tables e below (T2.setTop (mkF m 129 #[.val (.long j0), .second, .val (.int i2), .val (.int i3), .val (.long j4), .second, .val (.ref b1), .val (.int (((j4.toUInt64 >>> ((40 : Int32) &&& 0x3f).toInt64.toUInt64).toInt64).toInt32)), .val (.long (j4 &&& (1099511627775 : Int64))), .second, .val (.int (1 : Int32)), .val (.int (1 : Int32)), .unset] [(.int (1 : Int32))])) t
        refine XS.istore X2.here hx rfl (hb hby at_129) rfl (l' := #[.val (.long j0), .second, .val (.int i2), .val (.int i3), .val (.long j4), .second, .val (.ref b1), .val (.int (((j4.toUInt64 >>> ((40 : Int32) &&& 0x3f).toInt64.toUInt64).toInt64).toInt32)), .val (.long (j4 &&& (1099511627775 : Int64))), .second, .val (.int (1 : Int32)), .val (.int (1 : Int32)), .val (.int (1 : Int32))]) rfl ?_
        show Steps p.tables e below (T2.setTop (mkF m 131 #[.val (.long j0), .second, .val (.int i2), .val (.int i3), .val (.long j4), .second, .val (.ref b1), .val (.int (((j4.toUInt64 >>> ((40 : Int32) &&& 0x3f).toInt64.toUInt64).toInt64).toInt32)), .val (.long (j4 &&& (1099511627775 : Int64))), .second, .val (.int (1 : Int32)), .val (.int (1 : Int32)), .val (.int (1 : Int32))] [])) t
        refine XS.aload X2.here hx rfl (hb hby at_131) rfl rfl ?_
        exact k
      obtain ⟨cq10, kq10, q10a, q10b, q10c⟩ := isOf hZ e2 E2
      obtain ⟨_, _, ⟨T10, L10, k10, n10⟩, -, X10, ⟨Lc10, hQ10, l10, y10, z10⟩, st10⟩ := X2.virtualBack hx (y := (⟨"com/example/tetherd/tetherd/core/link/MacAddress", "unicast", "()Z"⟩ : MethodName)) (z := (⟨"com/example/tetherd/tetherd/core/link/MacAddress", "unicast", "()Z"⟩ : MethodName)) hown (mvT hZ (hw _ (List.mem_of_getElem? (i := 19) rfl))) (mvT hZ (hw _ (List.mem_of_getElem? (i := 20) rfl))) (notFace_of_selects (args := #[]) (mvT hZ (hw _ (List.mem_of_getElem? (i := 22) rfl)))) (mvT hZ (hw _ (List.mem_of_getElem? (i := 22) rfl))) (mvT hZ (hw _ (List.mem_of_getElem? (i := 21) rfl))) (by decide) (backOf (W := 0) (rm4 l Z a0 hw [] b1 h2 n0 j4 F2_bits) hZ (hw _ (List.mem_of_getElem? (i := 23) rfl)) (hw _ (List.mem_of_getElem? (i := 3) rfl)) (by decide) (by decide)) q10a q10c (g := (mkF m 133 #[.val (.long j0), .second, .val (.int i2), .val (.int i3), .val (.long j4), .second, .val (.ref b1), .val (.int (((j4.toUInt64 >>> ((40 : Int32) &&& 0x3f).toInt64.toUInt64).toInt64).toInt32)), .val (.long (j4 &&& (1099511627775 : Int64))), .second, .val (.int (1 : Int32)), .val (.int (1 : Int32)), .val (.int (1 : Int32))] [(.ref b1)])) rfl (by rw [hml]; rfl) (Steps.refl _) (argsL := []) (rest := []) (lenOf pd_2 rfl) rfl (by show 2 * 0 + _ ≤ _; exact Nat.le_of_eq rfl) (hb hby at_133) (fun _ _ => ⟨rfl, e2, (by decide : 1 + 0 ≤ _), (by decide : 1 + 0 ≤ _)⟩)
      dsimp only [Pt.U, Pt.locs, Pt.cells, Pt.slots] at X10 l10 y10 z10 st10 hQ10
      subst l10 y10 z10
      obtain ⟨rfl, N10q, e10⟩ := hQ10
      have N10 := Fr.app N2 N10q
      replace X10 : Stand p l e room_1 s m args below meth c T10 _ 1 1 := X10
      refine Done.of (g' := (mkF m 136 #[.val (.long j0), .second, .val (.int i2), .val (.int i3), .val (.long j4), .second, .val (.ref b1), .val (.int (((j4.toUInt64 >>> ((40 : Int32) &&& 0x3f).toInt64.toUInt64).toInt64).toInt32)), .val (.long (j4 &&& (1099511627775 : Int64))), .second, .val (.int (1 : Int32)), .val (.int (1 : Int32)), .val (.int (1 : Int32))] [(.int (F4_0 j4))])) (fun t k => st10.trans k) ?_
      refine Done.of (T' := T10) (g' := (mkF m 138 #[.val (.long j0), .second, .val (.int i2), .val (.int i3), .val (.long j4), .second, .val (.ref b1), .val (.int (((j4.toUInt64 >>> ((40 : Int32) &&& 0x3f).toInt64.toUInt64).toInt64).toInt32)), .val (.long (j4 &&& (1099511627775 : Int64))), .second, .val (.int (1 : Int32)), .val (.int (1 : Int32)), .val (.int (1 : Int32))] [(.int (1 : Int32)), (.int (F4_0 j4))])) (fun t k => ?_) ?_
      · show Steps p.tables e below (T10.setTop (mkF m 136 #[.val (.long j0), .second, .val (.int i2), .val (.int i3), .val (.long j4), .second, .val (.ref b1), .val (.int (((j4.toUInt64 >>> ((40 : Int32) &&& 0x3f).toInt64.toUInt64).toInt64).toInt32)), .val (.long (j4 &&& (1099511627775 : Int64))), .second, .val (.int (1 : Int32)), .val (.int (1 : Int32)), .val (.int (1 : Int32))] [(.int (F4_0 j4))])) t
        refine XS.iload X10.here hx rfl (hb hby at_136) rfl ?_
        exact k
      by_cases hc138_10 : (F4_0 j4) = (1 : Int32)
      · rw [if_pos hc138_10]
        refine Done.of (T' := T10) (g' := (mkF m 146 #[.val (.long j0), .second, .val (.int i2), .val (.int i3), .val (.long j4), .second, .val (.ref b1), .val (.int (((j4.toUInt64 >>> ((40 : Int32) &&& 0x3f).toInt64.toUInt64).toInt64).toInt32)), .val (.long (j4 &&& (1099511627775 : Int64))), .second, .val (.int (1 : Int32)), .val (.int (1 : Int32)), .val (.int (1 : Int32))] [(.int (1 : Int32))])) (fun t k => ?_) ?_
        · show Steps p.tables e below (T10.setTop (mkF m 138 #[.val (.long j0), .second, .val (.int i2), .val (.int i3), .val (.long j4), .second, .val (.ref b1), .val (.int (((j4.toUInt64 >>> ((40 : Int32) &&& 0x3f).toInt64.toUInt64).toInt64).toInt32)), .val (.long (j4 &&& (1099511627775 : Int64))), .second, .val (.int (1 : Int32)), .val (.int (1 : Int32)), .val (.int (1 : Int32))] [(.int (1 : Int32)), (.int (F4_0 j4))])) t
          refine XS.icmpNo X10.here hx rfl (hb hby at_138) rfl (teq hc138_10).2 ?_
          show Steps p.tables e below (T10.setTop (mkF m 141 #[.val (.long j0), .second, .val (.int i2), .val (.int i3), .val (.long j4), .second, .val (.ref b1), .val (.int (((j4.toUInt64 >>> ((40 : Int32) &&& 0x3f).toInt64.toUInt64).toInt64).toInt32)), .val (.long (j4 &&& (1099511627775 : Int64))), .second, .val (.int (1 : Int32)), .val (.int (1 : Int32)), .val (.int (1 : Int32))] [])) t
          refine XS.iconst X10.here hx rfl (hb hby at_141) ?_
          show Steps p.tables e below (T10.setTop (mkF m 142 #[.val (.long j0), .second, .val (.int i2), .val (.int i3), .val (.long j4), .second, .val (.ref b1), .val (.int (((j4.toUInt64 >>> ((40 : Int32) &&& 0x3f).toInt64.toUInt64).toInt64).toInt32)), .val (.long (j4 &&& (1099511627775 : Int64))), .second, .val (.int (1 : Int32)), .val (.int (1 : Int32)), .val (.int (1 : Int32))] [(.int (1 : Int32))])) t
          refine XS.goto X10.here hx rfl (pc0 := 142) (pc' := 146) rfl (hb hby at_142) (by decide) (by decide) ?_
          exact k
        exact doneN (t := .boolean) X10 (by simp) hx hret hlk (hb hby at_146) ⟨rfl, N10⟩ (by decide) (by decide)
      · rw [if_neg hc138_10]
        refine Done.of (T' := T10) (g' := (mkF m 146 #[.val (.long j0), .second, .val (.int i2), .val (.int i3), .val (.long j4), .second, .val (.ref b1), .val (.int (((j4.toUInt64 >>> ((40 : Int32) &&& 0x3f).toInt64.toUInt64).toInt64).toInt32)), .val (.long (j4 &&& (1099511627775 : Int64))), .second, .val (.int (1 : Int32)), .val (.int (1 : Int32)), .val (.int (1 : Int32))] [(.int (0 : Int32))])) (fun t k => ?_) ?_
        · show Steps p.tables e below (T10.setTop (mkF m 138 #[.val (.long j0), .second, .val (.int i2), .val (.int i3), .val (.long j4), .second, .val (.ref b1), .val (.int (((j4.toUInt64 >>> ((40 : Int32) &&& 0x3f).toInt64.toUInt64).toInt64).toInt32)), .val (.long (j4 &&& (1099511627775 : Int64))), .second, .val (.int (1 : Int32)), .val (.int (1 : Int32)), .val (.int (1 : Int32))] [(.int (1 : Int32)), (.int (F4_0 j4))])) t
          refine XS.icmpYes X10.here hx rfl (pc0 := 138) (pc' := 145) rfl (hb hby at_138) rfl (feq hc138_10).2 (by decide) (by decide) ?_
          show Steps p.tables e below (T10.setTop (mkF m 145 #[.val (.long j0), .second, .val (.int i2), .val (.int i3), .val (.long j4), .second, .val (.ref b1), .val (.int (((j4.toUInt64 >>> ((40 : Int32) &&& 0x3f).toInt64.toUInt64).toInt64).toInt32)), .val (.long (j4 &&& (1099511627775 : Int64))), .second, .val (.int (1 : Int32)), .val (.int (1 : Int32)), .val (.int (1 : Int32))] [])) t
          refine XS.iconst X10.here hx rfl (hb hby at_145) ?_
          exact k
        exact doneN (t := .boolean) X10 (by simp) hx hret hlk (hb hby at_146) ⟨rfl, N10⟩ (by decide) (by decide)
  · rw [if_neg hc85_2]
    refine Done.of (T' := T2) (g' := (mkF m 97 #[.val (.long j0), .second, .val (.int i2), .val (.int i3), .val (.long j4), .second, .val (.ref b1), .val (.int (((j4.toUInt64 >>> ((40 : Int32) &&& 0x3f).toInt64.toUInt64).toInt64).toInt32)), .val (.long (j4 &&& (1099511627775 : Int64))), .second, .val (.int (0 : Int32)), .unset, .unset] [(.int (((j4.toUInt64 >>> ((40 : Int32) &&& 0x3f).toInt64.toUInt64).toInt64).toInt32))])) (fun t k => ?_) ?_
    · show Steps p.tables e below (T2.setTop (mkF m 85 #[.val (.long j0), .second, .val (.int i2), .val (.int i3), .val (.long j4), .second, .val (.ref b1), .val (.int (((j4.toUInt64 >>> ((40 : Int32) &&& 0x3f).toInt64.toUInt64).toInt64).toInt32)), .val (.long (j4 &&& (1099511627775 : Int64))), .second, .unset, .unset, .unset] [(.int ((((j4.toUInt64 >>> ((40 : Int32) &&& 0x3f).toInt64.toUInt64).toInt64).toInt32) % (2 : Int32)))])) t
      refine XS.ifYes X2.here hx rfl (pc0 := 85) (pc' := 92) rfl (hb hby at_85) rfl ((if0 _ _).trans (feq hc85_2).2) (by decide) (by decide) ?_
      show Steps p.tables e below (T2.setTop (mkF m 92 #[.val (.long j0), .second, .val (.int i2), .val (.int i3), .val (.long j4), .second, .val (.ref b1), .val (.int (((j4.toUInt64 >>> ((40 : Int32) &&& 0x3f).toInt64.toUInt64).toInt64).toInt32)), .val (.long (j4 &&& (1099511627775 : Int64))), .second, .unset, .unset, .unset] [])) t
      refine XS.iconst X2.here hx rfl (hb hby at_92) ?_
      show Steps p.tables e below (T2.setTop (mkF m 93 #[.val (.long j0), .second, .val (.int i2), .val (.int i3), .val (.long j4), .second, .val (.ref b1), .val (.int (((j4.toUInt64 >>> ((40 : Int32) &&& 0x3f).toInt64.toUInt64).toInt64).toInt32)), .val (.long (j4 &&& (1099511627775 : Int64))), .second, .unset, .unset, .unset] [(.int (0 : Int32))])) t
      refine XS.istore X2.here hx rfl (hb hby at_93) rfl (l' := #[.val (.long j0), .second, .val (.int i2), .val (.int i3), .val (.long j4), .second, .val (.ref b1), .val (.int (((j4.toUInt64 >>> ((40 : Int32) &&& 0x3f).toInt64.toUInt64).toInt64).toInt32)), .val (.long (j4 &&& (1099511627775 : Int64))), .second, .val (.int (0 : Int32)), .unset, .unset]) rfl ?_
      show Steps p.tables e below (T2.setTop (mkF m 95 #[.val (.long j0), .second, .val (.int i2), .val (.int i3), .val (.long j4), .second, .val (.ref b1), .val (.int (((j4.toUInt64 >>> ((40 : Int32) &&& 0x3f).toInt64.toUInt64).toInt64).toInt32)), .val (.long (j4 &&& (1099511627775 : Int64))), .second, .val (.int (0 : Int32)), .unset, .unset] [])) t
      refine XS.iload X2.here hx rfl (hb hby at_95) rfl ?_
      exact k
    by_cases hc97_11 : (((j4.toUInt64 >>> ((40 : Int32) &&& 0x3f).toInt64.toUInt64).toInt64).toInt32) = (0 : Int32)
    · rw [if_pos hc97_11]
      refine Done.of (T' := T2) (g' := (mkF m 104 #[.val (.long j0), .second, .val (.int i2), .val (.int i3), .val (.long j4), .second, .val (.ref b1), .val (.int (((j4.toUInt64 >>> ((40 : Int32) &&& 0x3f).toInt64.toUInt64).toInt64).toInt32)), .val (.long (j4 &&& (1099511627775 : Int64))), .second, .val (.int (0 : Int32)), .unset, .unset] [(.int (lcmpW (j4 &&& (1099511627775 : Int64)) (0 : Int64)))])) (fun t k => ?_) ?_
      · show Steps p.tables e below (T2.setTop (mkF m 97 #[.val (.long j0), .second, .val (.int i2), .val (.int i3), .val (.long j4), .second, .val (.ref b1), .val (.int (((j4.toUInt64 >>> ((40 : Int32) &&& 0x3f).toInt64.toUInt64).toInt64).toInt32)), .val (.long (j4 &&& (1099511627775 : Int64))), .second, .val (.int (0 : Int32)), .unset, .unset] [(.int (((j4.toUInt64 >>> ((40 : Int32) &&& 0x3f).toInt64.toUInt64).toInt64).toInt32))])) t
        refine XS.ifNo X2.here hx rfl (hb hby at_97) rfl ((if0 _ _).trans (teq hc97_11).2) ?_
        show Steps p.tables e below (T2.setTop (mkF m 100 #[.val (.long j0), .second, .val (.int i2), .val (.int i3), .val (.long j4), .second, .val (.ref b1), .val (.int (((j4.toUInt64 >>> ((40 : Int32) &&& 0x3f).toInt64.toUInt64).toInt64).toInt32)), .val (.long (j4 &&& (1099511627775 : Int64))), .second, .val (.int (0 : Int32)), .unset, .unset] [])) t
        refine XS.lload X2.here hx rfl (hb hby at_100) rfl ?_
        show Steps p.tables e below (T2.setTop (mkF m 102 #[.val (.long j0), .second, .val (.int i2), .val (.int i3), .val (.long j4), .second, .val (.ref b1), .val (.int (((j4.toUInt64 >>> ((40 : Int32) &&& 0x3f).toInt64.toUInt64).toInt64).toInt32)), .val (.long (j4 &&& (1099511627775 : Int64))), .second, .val (.int (0 : Int32)), .unset, .unset] [(.long (j4 &&& (1099511627775 : Int64)))])) t
        refine XS.lconst X2.here hx rfl (hb hby at_102) ?_
        show Steps p.tables e below (T2.setTop (mkF m 103 #[.val (.long j0), .second, .val (.int i2), .val (.int i3), .val (.long j4), .second, .val (.ref b1), .val (.int (((j4.toUInt64 >>> ((40 : Int32) &&& 0x3f).toInt64.toUInt64).toInt64).toInt32)), .val (.long (j4 &&& (1099511627775 : Int64))), .second, .val (.int (0 : Int32)), .unset, .unset] [(.long (0 : Int64)), (.long (j4 &&& (1099511627775 : Int64)))])) t
        refine XS.lcmp X2.here hx rfl (hb hby at_103) rfl ?_
        exact k
      by_cases hc104_12 : (j4 &&& (1099511627775 : Int64)) = (0 : Int64)
      · rw [if_pos hc104_12]
        refine Done.of (T' := T2) (g' := (mkF m 133 #[.val (.long j0), .second, .val (.int i2), .val (.int i3), .val (.long j4), .second, .val (.ref b1), .val (.int (((j4.toUInt64 >>> ((40 : Int32) &&& 0x3f).toInt64.toUInt64).toInt64).toInt32)), .val (.long (j4 &&& (1099511627775 : Int64))), .second, .val (.int (0 : Int32)), .val (.int (0 : Int32)), .val (.int (0 : Int32))] [(.ref b1)])) (fun t k => ?_) ?_
        · show Steps p.tables e below (T2.setTop (mkF m 104 #[.val (.long j0), .second, .val (.int i2), .val (.int i3), .val (.long j4), .second, .val (.ref b1), .val (.int (((j4.toUInt64 >>> ((40 : Int32) &&& 0x3f).toInt64.toUInt64).toInt64).toInt32)), .val (.long (j4 &&& (1099511627775 : Int64))), .second, .val (.int (0 : Int32)), .unset, .unset] [(.int (lcmpW (j4 &&& (1099511627775 : Int64)) (0 : Int64)))])) t
          refine XS.ifYes X2.here hx rfl (pc0 := 104) (pc' := 111) rfl (hb hby at_104) rfl (lcEq_t hc104_12).1 (by decide) (by decide) ?_
          show Steps p.tables e below (T2.setTop (mkF m 111 #[.val (.long j0), .second, .val (.int i2), .val (.int i3), .val (.long j4), .second, .val (.ref b1), .val (.int (((j4.toUInt64 >>> ((40 : Int32) &&& 0x3f).toInt64.toUInt64).toInt64).toInt32)), .val (.long (j4 &&& (1099511627775 : Int64))), .second, .val (.int (0 : Int32)), .unset, .unset] [])) t
          refine XS.iconst X2.here hx rfl (hb hby at_111) ?_
          show Steps p.tables e below (T2.setTop (mkF m 112 #[.val (.long j0), .second, .val (.int i2), .val (.int i3), .val (.long j4), .second, .val (.ref b1), .val (.int (((j4.toUInt64 >>> ((40 : Int32) &&& 0x3f).toInt64.toUInt64).toInt64).toInt32)), .val (.long (j4 &&& (1099511627775 : Int64))), .second, .val (.int (0 : Int32)), .unset, .unset] [(.int (0 : Int32))])) t
          refine XS.istore X2.here hx rfl (hb hby at_112) rfl (l' := #[.val (.long j0), .second, .val (.int i2), .val (.int i3), .val (.long j4), .second, .val (.ref b1), .val (.int (((j4.toUInt64 >>> ((40 : Int32) &&& 0x3f).toInt64.toUInt64).toInt64).toInt32)), .val (.long (j4 &&& (1099511627775 : Int64))), .second, .val (.int (0 : Int32)), .val (.int (0 : Int32)), .unset]) rfl ?_
          show Steps p.tables e below (T2.setTop (mkF m 114 #[.val (.long j0), .second, .val (.int i2), .val (.int i3), .val (.long j4), .second, .val (.ref b1), .val (.int (((j4.toUInt64 >>> ((40 : Int32) &&& 0x3f).toInt64.toUInt64).toInt64).toInt32)), .val (.long (j4 &&& (1099511627775 : Int64))), .second, .val (.int (0 : Int32)), .val (.int (0 : Int32)), .unset] [])) t
          refine XS.iload X2.here hx rfl (hb hby at_114) rfl ?_
          show Steps p.tables e below (T2.setTop (mkF m 116 #[.val (.long j0), .second, .val (.int i2), .val (.int i3), .val (.long j4), .second, .val (.ref b1), .val (.int (((j4.toUInt64 >>> ((40 : Int32) &&& 0x3f).toInt64.toUInt64).toInt64).toInt32)), .val (.long (j4 &&& (1099511627775 : Int64))), .second, .val (.int (0 : Int32)), .val (.int (0 : Int32)), .unset] [(.int (0 : Int32))])) t
          refine XS.ifYes X2.here hx rfl (pc0 := 116) (pc' := 128) rfl (hb hby at_116) rfl ((if0 _ _).trans (teq (show (0 : Int32) = (0 : Int32) from by decide)).1) (by decide) (by decide) ?_
          show Steps p.tables e below (T2.setTop (mkF m 128 #[.val (.long j0), .second, .val (.int i2), .val (.int i3), .val (.long j4), .second, .val (.ref b1), .val (.int (((j4.toUInt64 >>> ((40 : Int32) &&& 0x3f).toInt64.toUInt64).toInt64).toInt32)), .val (.long (j4 &&& (1099511627775 : Int64))), .second, .val (.int (0 : Int32)), .val (.int (0 : Int32)), .unset] [])) t
          refine XS.iconst X2.here hx rfl (hb hby at_128) ?_
          show Steps p.tables e below (T2.setTop (mkF m 129 #[.val (.long j0), .second, .val (.int i2), .val (.int i3), .val (.long j4), .second, .val (.ref b1), .val (.int (((j4.toUInt64 >>> ((40 : Int32) &&& 0x3f).toInt64.toUInt64).toInt64).toInt32)), .val (.long (j4 &&& (1099511627775 : Int64))), .second, .val (.int (0 : Int32)), .val (.int (0 : Int32)), .unset] [(.int (0 : Int32))])) t
          refine XS.istore X2.here hx rfl (hb hby at_129) rfl (l' := #[.val (.long j0), .second, .val (.int i2), .val (.int i3), .val (.long j4), .second, .val (.ref b1), .val (.int (((j4.toUInt64 >>> ((40 : Int32) &&& 0x3f).toInt64.toUInt64).toInt64).toInt32)), .val (.long (j4 &&& (1099511627775 : Int64))), .second, .val (.int (0 : Int32)), .val (.int (0 : Int32)), .val (.int (0 : Int32))]) rfl ?_
          show Steps p.tables e below (T2.setTop (mkF m 131 #[.val (.long j0), .second, .val (.int i2), .val (.int i3), .val (.long j4), .second, .val (.ref b1), .val (.int (((j4.toUInt64 >>> ((40 : Int32) &&& 0x3f).toInt64.toUInt64).toInt64).toInt32)), .val (.long (j4 &&& (1099511627775 : Int64))), .second, .val (.int (0 : Int32)), .val (.int (0 : Int32)), .val (.int (0 : Int32))] [])) t
          refine XS.aload X2.here hx rfl (hb hby at_131) rfl rfl ?_
          exact k
        obtain ⟨cq14, kq14, q14a, q14b, q14c⟩ := isOf hZ e2 E2
        obtain ⟨_, _, ⟨T14, L14, k14, n14⟩, -, X14, ⟨Lc14, hQ14, l14, y14, z14⟩, st14⟩ := X2.virtualBack hx (y := (⟨"com/example/tetherd/tetherd/core/link/MacAddress", "unicast", "()Z"⟩ : MethodName)) (z := (⟨"com/example/tetherd/tetherd/core/link/MacAddress", "unicast", "()Z"⟩ : MethodName)) hown (mvT hZ (hw _ (List.mem_of_getElem? (i := 19) rfl))) (mvT hZ (hw _ (List.mem_of_getElem? (i := 20) rfl))) (notFace_of_selects (args := #[]) (mvT hZ (hw _ (List.mem_of_getElem? (i := 22) rfl)))) (mvT hZ (hw _ (List.mem_of_getElem? (i := 22) rfl))) (mvT hZ (hw _ (List.mem_of_getElem? (i := 21) rfl))) (by decide) (backOf (W := 0) (rm4 l Z a0 hw [] b1 h2 n0 j4 F2_bits) hZ (hw _ (List.mem_of_getElem? (i := 23) rfl)) (hw _ (List.mem_of_getElem? (i := 3) rfl)) (by decide) (by decide)) q14a q14c (g := (mkF m 133 #[.val (.long j0), .second, .val (.int i2), .val (.int i3), .val (.long j4), .second, .val (.ref b1), .val (.int (((j4.toUInt64 >>> ((40 : Int32) &&& 0x3f).toInt64.toUInt64).toInt64).toInt32)), .val (.long (j4 &&& (1099511627775 : Int64))), .second, .val (.int (0 : Int32)), .val (.int (0 : Int32)), .val (.int (0 : Int32))] [(.ref b1)])) rfl (by rw [hml]; rfl) (Steps.refl _) (argsL := []) (rest := []) (lenOf pd_2 rfl) rfl (by show 2 * 0 + _ ≤ _; exact Nat.le_of_eq rfl) (hb hby at_133) (fun _ _ => ⟨rfl, e2, (by decide : 1 + 0 ≤ _), (by decide : 1 + 0 ≤ _)⟩)
        dsimp only [Pt.U, Pt.locs, Pt.cells, Pt.slots] at X14 l14 y14 z14 st14 hQ14
        subst l14 y14 z14
        obtain ⟨rfl, N14q, e14⟩ := hQ14
        have N14 := Fr.app N2 N14q
        replace X14 : Stand p l e room_1 s m args below meth c T14 _ 1 1 := X14
        refine Done.of (g' := (mkF m 136 #[.val (.long j0), .second, .val (.int i2), .val (.int i3), .val (.long j4), .second, .val (.ref b1), .val (.int (((j4.toUInt64 >>> ((40 : Int32) &&& 0x3f).toInt64.toUInt64).toInt64).toInt32)), .val (.long (j4 &&& (1099511627775 : Int64))), .second, .val (.int (0 : Int32)), .val (.int (0 : Int32)), .val (.int (0 : Int32))] [(.int (F4_0 j4))])) (fun t k => st14.trans k) ?_
        refine Done.of (T' := T14) (g' := (mkF m 138 #[.val (.long j0), .second, .val (.int i2), .val (.int i3), .val (.long j4), .second, .val (.ref b1), .val (.int (((j4.toUInt64 >>> ((40 : Int32) &&& 0x3f).toInt64.toUInt64).toInt64).toInt32)), .val (.long (j4 &&& (1099511627775 : Int64))), .second, .val (.int (0 : Int32)), .val (.int (0 : Int32)), .val (.int (0 : Int32))] [(.int (0 : Int32)), (.int (F4_0 j4))])) (fun t k => ?_) ?_
        · show Steps p.tables e below (T14.setTop (mkF m 136 #[.val (.long j0), .second, .val (.int i2), .val (.int i3), .val (.long j4), .second, .val (.ref b1), .val (.int (((j4.toUInt64 >>> ((40 : Int32) &&& 0x3f).toInt64.toUInt64).toInt64).toInt32)), .val (.long (j4 &&& (1099511627775 : Int64))), .second, .val (.int (0 : Int32)), .val (.int (0 : Int32)), .val (.int (0 : Int32))] [(.int (F4_0 j4))])) t
          refine XS.iload X14.here hx rfl (hb hby at_136) rfl ?_
          exact k
        by_cases hc138_14 : (F4_0 j4) = (0 : Int32)
        · rw [if_pos hc138_14]
          refine Done.of (T' := T14) (g' := (mkF m 146 #[.val (.long j0), .second, .val (.int i2), .val (.int i3), .val (.long j4), .second, .val (.ref b1), .val (.int (((j4.toUInt64 >>> ((40 : Int32) &&& 0x3f).toInt64.toUInt64).toInt64).toInt32)), .val (.long (j4 &&& (1099511627775 : Int64))), .second, .val (.int (0 : Int32)), .val (.int (0 : Int32)), .val (.int (0 : Int32))] [(.int (1 : Int32))])) (fun t k => ?_) ?_
          · show Steps p.tables e below (T14.setTop (mkF m 138 #[.val (.long j0), .second, .val (.int i2), .val (.int i3), .val (.long j4), .second, .val (.ref b1), .val (.int (((j4.toUInt64 >>> ((40 : Int32) &&& 0x3f).toInt64.toUInt64).toInt64).toInt32)), .val (.long (j4 &&& (1099511627775 : Int64))), .second, .val (.int (0 : Int32)), .val (.int (0 : Int32)), .val (.int (0 : Int32))] [(.int (0 : Int32)), (.int (F4_0 j4))])) t
            refine XS.icmpNo X14.here hx rfl (hb hby at_138) rfl (teq hc138_14).2 ?_
            show Steps p.tables e below (T14.setTop (mkF m 141 #[.val (.long j0), .second, .val (.int i2), .val (.int i3), .val (.long j4), .second, .val (.ref b1), .val (.int (((j4.toUInt64 >>> ((40 : Int32) &&& 0x3f).toInt64.toUInt64).toInt64).toInt32)), .val (.long (j4 &&& (1099511627775 : Int64))), .second, .val (.int (0 : Int32)), .val (.int (0 : Int32)), .val (.int (0 : Int32))] [])) t
            refine XS.iconst X14.here hx rfl (hb hby at_141) ?_
            show Steps p.tables e below (T14.setTop (mkF m 142 #[.val (.long j0), .second, .val (.int i2), .val (.int i3), .val (.long j4), .second, .val (.ref b1), .val (.int (((j4.toUInt64 >>> ((40 : Int32) &&& 0x3f).toInt64.toUInt64).toInt64).toInt32)), .val (.long (j4 &&& (1099511627775 : Int64))), .second, .val (.int (0 : Int32)), .val (.int (0 : Int32)), .val (.int (0 : Int32))] [(.int (1 : Int32))])) t
            refine XS.goto X14.here hx rfl (pc0 := 142) (pc' := 146) rfl (hb hby at_142) (by decide) (by decide) ?_
            exact k
          exact doneN (t := .boolean) X14 (by simp) hx hret hlk (hb hby at_146) ⟨rfl, N14⟩ (by decide) (by decide)
        · rw [if_neg hc138_14]
          refine Done.of (T' := T14) (g' := (mkF m 146 #[.val (.long j0), .second, .val (.int i2), .val (.int i3), .val (.long j4), .second, .val (.ref b1), .val (.int (((j4.toUInt64 >>> ((40 : Int32) &&& 0x3f).toInt64.toUInt64).toInt64).toInt32)), .val (.long (j4 &&& (1099511627775 : Int64))), .second, .val (.int (0 : Int32)), .val (.int (0 : Int32)), .val (.int (0 : Int32))] [(.int (0 : Int32))])) (fun t k => ?_) ?_
          · show Steps p.tables e below (T14.setTop (mkF m 138 #[.val (.long j0), .second, .val (.int i2), .val (.int i3), .val (.long j4), .second, .val (.ref b1), .val (.int (((j4.toUInt64 >>> ((40 : Int32) &&& 0x3f).toInt64.toUInt64).toInt64).toInt32)), .val (.long (j4 &&& (1099511627775 : Int64))), .second, .val (.int (0 : Int32)), .val (.int (0 : Int32)), .val (.int (0 : Int32))] [(.int (0 : Int32)), (.int (F4_0 j4))])) t
            refine XS.icmpYes X14.here hx rfl (pc0 := 138) (pc' := 145) rfl (hb hby at_138) rfl (feq hc138_14).2 (by decide) (by decide) ?_
            show Steps p.tables e below (T14.setTop (mkF m 145 #[.val (.long j0), .second, .val (.int i2), .val (.int i3), .val (.long j4), .second, .val (.ref b1), .val (.int (((j4.toUInt64 >>> ((40 : Int32) &&& 0x3f).toInt64.toUInt64).toInt64).toInt32)), .val (.long (j4 &&& (1099511627775 : Int64))), .second, .val (.int (0 : Int32)), .val (.int (0 : Int32)), .val (.int (0 : Int32))] [])) t
            refine XS.iconst X14.here hx rfl (hb hby at_145) ?_
            exact k
          exact doneN (t := .boolean) X14 (by simp) hx hret hlk (hb hby at_146) ⟨rfl, N14⟩ (by decide) (by decide)
      · rw [if_neg hc104_12]
        refine Done.of (T' := T2) (g' := (mkF m 133 #[.val (.long j0), .second, .val (.int i2), .val (.int i3), .val (.long j4), .second, .val (.ref b1), .val (.int (((j4.toUInt64 >>> ((40 : Int32) &&& 0x3f).toInt64.toUInt64).toInt64).toInt32)), .val (.long (j4 &&& (1099511627775 : Int64))), .second, .val (.int (0 : Int32)), .val (.int (1 : Int32)), .val (.int (0 : Int32))] [(.ref b1)])) (fun t k => ?_) ?_
        · show Steps p.tables e below (T2.setTop (mkF m 104 #[.val (.long j0), .second, .val (.int i2), .val (.int i3), .val (.long j4), .second, .val (.ref b1), .val (.int (((j4.toUInt64 >>> ((40 : Int32) &&& 0x3f).toInt64.toUInt64).toInt64).toInt32)), .val (.long (j4 &&& (1099511627775 : Int64))), .second, .val (.int (0 : Int32)), .unset, .unset] [(.int (lcmpW (j4 &&& (1099511627775 : Int64)) (0 : Int64)))])) t
          refine XS.ifNo X2.here hx rfl (hb hby at_104) rfl (lcEq_f hc104_12).1 ?_
          show Steps p.tables e below (T2.setTop (mkF m 107 #[.val (.long j0), .second, .val (.int i2), .val (.int i3), .val (.long j4), .second, .val (.ref b1), .val (.int (((j4.toUInt64 >>> ((40 : Int32) &&& 0x3f).toInt64.toUInt64).toInt64).toInt32)), .val (.long (j4 &&& (1099511627775 : Int64))), .second, .val (.int (0 : Int32)), .unset, .unset] [])) t
          refine XS.iconst X2.here hx rfl (hb hby at_107) ?_
          show Steps p.tables e below (T2.setTop (mkF m 108 #[.val (.long j0), .second, .val (.int i2), .val (.int i3), .val (.long j4), .second, .val (.ref b1), .val (.int (((j4.toUInt64 >>> ((40 : Int32) &&& 0x3f).toInt64.toUInt64).toInt64).toInt32)), .val (.long (j4 &&& (1099511627775 : Int64))), .second, .val (.int (0 : Int32)), .unset, .unset] [(.int (1 : Int32))])) t
          refine XS.goto X2.here hx rfl (pc0 := 108) (pc' := 112) rfl (hb hby at_108) (by decide) (by decide) ?_
          show Steps p.tables e below (T2.setTop (mkF m 112 #[.val (.long j0), .second, .val (.int i2), .val (.int i3), .val (.long j4), .second, .val (.ref b1), .val (.int (((j4.toUInt64 >>> ((40 : Int32) &&& 0x3f).toInt64.toUInt64).toInt64).toInt32)), .val (.long (j4 &&& (1099511627775 : Int64))), .second, .val (.int (0 : Int32)), .unset, .unset] [(.int (1 : Int32))])) t
          refine XS.istore X2.here hx rfl (hb hby at_112) rfl (l' := #[.val (.long j0), .second, .val (.int i2), .val (.int i3), .val (.long j4), .second, .val (.ref b1), .val (.int (((j4.toUInt64 >>> ((40 : Int32) &&& 0x3f).toInt64.toUInt64).toInt64).toInt32)), .val (.long (j4 &&& (1099511627775 : Int64))), .second, .val (.int (0 : Int32)), .val (.int (1 : Int32)), .unset]) rfl ?_
          show Steps p.tables e below (T2.setTop (mkF m 114 #[.val (.long j0), .second, .val (.int i2), .val (.int i3), .val (.long j4), .second, .val (.ref b1), .val (.int (((j4.toUInt64 >>> ((40 : Int32) &&& 0x3f).toInt64.toUInt64).toInt64).toInt32)), .val (.long (j4 &&& (1099511627775 : Int64))), .second, .val (.int (0 : Int32)), .val (.int (1 : Int32)), .unset] [])) t
          refine XS.iload X2.here hx rfl (hb hby at_114) rfl ?_
          show Steps p.tables e below (T2.setTop (mkF m 116 #[.val (.long j0), .second, .val (.int i2), .val (.int i3), .val (.long j4), .second, .val (.ref b1), .val (.int (((j4.toUInt64 >>> ((40 : Int32) &&& 0x3f).toInt64.toUInt64).toInt64).toInt32)), .val (.long (j4 &&& (1099511627775 : Int64))), .second, .val (.int (0 : Int32)), .val (.int (1 : Int32)), .unset] [(.int (0 : Int32))])) t
          refine XS.ifYes X2.here hx rfl (pc0 := 116) (pc' := 128) rfl (hb hby at_116) rfl ((if0 _ _).trans (teq (show (0 : Int32) = (0 : Int32) from by decide)).1) (by decide) (by decide) ?_
          show Steps p.tables e below (T2.setTop (mkF m 128 #[.val (.long j0), .second, .val (.int i2), .val (.int i3), .val (.long j4), .second, .val (.ref b1), .val (.int (((j4.toUInt64 >>> ((40 : Int32) &&& 0x3f).toInt64.toUInt64).toInt64).toInt32)), .val (.long (j4 &&& (1099511627775 : Int64))), .second, .val (.int (0 : Int32)), .val (.int (1 : Int32)), .unset] [])) t
          refine XS.iconst X2.here hx rfl (hb hby at_128) ?_
          show Steps p.tables e below (T2.setTop (mkF m 129 #[.val (.long j0), .second, .val (.int i2), .val (.int i3), .val (.long j4), .second, .val (.ref b1), .val (.int (((j4.toUInt64 >>> ((40 : Int32) &&& 0x3f).toInt64.toUInt64).toInt64).toInt32)), .val (.long (j4 &&& (1099511627775 : Int64))), .second, .val (.int (0 : Int32)), .val (.int (1 : Int32)), .unset] [(.int (0 : Int32))])) t
          refine XS.istore X2.here hx rfl (hb hby at_129) rfl (l' := #[.val (.long j0), .second, .val (.int i2), .val (.int i3), .val (.long j4), .second, .val (.ref b1), .val (.int (((j4.toUInt64 >>> ((40 : Int32) &&& 0x3f).toInt64.toUInt64).toInt64).toInt32)), .val (.long (j4 &&& (1099511627775 : Int64))), .second, .val (.int (0 : Int32)), .val (.int (1 : Int32)), .val (.int (0 : Int32))]) rfl ?_
          show Steps p.tables e below (T2.setTop (mkF m 131 #[.val (.long j0), .second, .val (.int i2), .val (.int i3), .val (.long j4), .second, .val (.ref b1), .val (.int (((j4.toUInt64 >>> ((40 : Int32) &&& 0x3f).toInt64.toUInt64).toInt64).toInt32)), .val (.long (j4 &&& (1099511627775 : Int64))), .second, .val (.int (0 : Int32)), .val (.int (1 : Int32)), .val (.int (0 : Int32))] [])) t
          refine XS.aload X2.here hx rfl (hb hby at_131) rfl rfl ?_
          exact k
        obtain ⟨cq16, kq16, q16a, q16b, q16c⟩ := isOf hZ e2 E2
        obtain ⟨_, _, ⟨T16, L16, k16, n16⟩, -, X16, ⟨Lc16, hQ16, l16, y16, z16⟩, st16⟩ := X2.virtualBack hx (y := (⟨"com/example/tetherd/tetherd/core/link/MacAddress", "unicast", "()Z"⟩ : MethodName)) (z := (⟨"com/example/tetherd/tetherd/core/link/MacAddress", "unicast", "()Z"⟩ : MethodName)) hown (mvT hZ (hw _ (List.mem_of_getElem? (i := 19) rfl))) (mvT hZ (hw _ (List.mem_of_getElem? (i := 20) rfl))) (notFace_of_selects (args := #[]) (mvT hZ (hw _ (List.mem_of_getElem? (i := 22) rfl)))) (mvT hZ (hw _ (List.mem_of_getElem? (i := 22) rfl))) (mvT hZ (hw _ (List.mem_of_getElem? (i := 21) rfl))) (by decide) (backOf (W := 0) (rm4 l Z a0 hw [] b1 h2 n0 j4 F2_bits) hZ (hw _ (List.mem_of_getElem? (i := 23) rfl)) (hw _ (List.mem_of_getElem? (i := 3) rfl)) (by decide) (by decide)) q16a q16c (g := (mkF m 133 #[.val (.long j0), .second, .val (.int i2), .val (.int i3), .val (.long j4), .second, .val (.ref b1), .val (.int (((j4.toUInt64 >>> ((40 : Int32) &&& 0x3f).toInt64.toUInt64).toInt64).toInt32)), .val (.long (j4 &&& (1099511627775 : Int64))), .second, .val (.int (0 : Int32)), .val (.int (1 : Int32)), .val (.int (0 : Int32))] [(.ref b1)])) rfl (by rw [hml]; rfl) (Steps.refl _) (argsL := []) (rest := []) (lenOf pd_2 rfl) rfl (by show 2 * 0 + _ ≤ _; exact Nat.le_of_eq rfl) (hb hby at_133) (fun _ _ => ⟨rfl, e2, (by decide : 1 + 0 ≤ _), (by decide : 1 + 0 ≤ _)⟩)
        dsimp only [Pt.U, Pt.locs, Pt.cells, Pt.slots] at X16 l16 y16 z16 st16 hQ16
        subst l16 y16 z16
        obtain ⟨rfl, N16q, e16⟩ := hQ16
        have N16 := Fr.app N2 N16q
        replace X16 : Stand p l e room_1 s m args below meth c T16 _ 1 1 := X16
        refine Done.of (g' := (mkF m 136 #[.val (.long j0), .second, .val (.int i2), .val (.int i3), .val (.long j4), .second, .val (.ref b1), .val (.int (((j4.toUInt64 >>> ((40 : Int32) &&& 0x3f).toInt64.toUInt64).toInt64).toInt32)), .val (.long (j4 &&& (1099511627775 : Int64))), .second, .val (.int (0 : Int32)), .val (.int (1 : Int32)), .val (.int (0 : Int32))] [(.int (F4_0 j4))])) (fun t k => st16.trans k) ?_
        refine Done.of (T' := T16) (g' := (mkF m 138 #[.val (.long j0), .second, .val (.int i2), .val (.int i3), .val (.long j4), .second, .val (.ref b1), .val (.int (((j4.toUInt64 >>> ((40 : Int32) &&& 0x3f).toInt64.toUInt64).toInt64).toInt32)), .val (.long (j4 &&& (1099511627775 : Int64))), .second, .val (.int (0 : Int32)), .val (.int (1 : Int32)), .val (.int (0 : Int32))] [(.int (0 : Int32)), (.int (F4_0 j4))])) (fun t k => ?_) ?_
        · show Steps p.tables e below (T16.setTop (mkF m 136 #[.val (.long j0), .second, .val (.int i2), .val (.int i3), .val (.long j4), .second, .val (.ref b1), .val (.int (((j4.toUInt64 >>> ((40 : Int32) &&& 0x3f).toInt64.toUInt64).toInt64).toInt32)), .val (.long (j4 &&& (1099511627775 : Int64))), .second, .val (.int (0 : Int32)), .val (.int (1 : Int32)), .val (.int (0 : Int32))] [(.int (F4_0 j4))])) t
          refine XS.iload X16.here hx rfl (hb hby at_136) rfl ?_
          exact k
        by_cases hc138_16 : (F4_0 j4) = (0 : Int32)
        · rw [if_pos hc138_16]
          refine Done.of (T' := T16) (g' := (mkF m 146 #[.val (.long j0), .second, .val (.int i2), .val (.int i3), .val (.long j4), .second, .val (.ref b1), .val (.int (((j4.toUInt64 >>> ((40 : Int32) &&& 0x3f).toInt64.toUInt64).toInt64).toInt32)), .val (.long (j4 &&& (1099511627775 : Int64))), .second, .val (.int (0 : Int32)), .val (.int (1 : Int32)), .val (.int (0 : Int32))] [(.int (1 : Int32))])) (fun t k => ?_) ?_
          · show Steps p.tables e below (T16.setTop (mkF m 138 #[.val (.long j0), .second, .val (.int i2), .val (.int i3), .val (.long j4), .second, .val (.ref b1), .val (.int (((j4.toUInt64 >>> ((40 : Int32) &&& 0x3f).toInt64.toUInt64).toInt64).toInt32)), .val (.long (j4 &&& (1099511627775 : Int64))), .second, .val (.int (0 : Int32)), .val (.int (1 : Int32)), .val (.int (0 : Int32))] [(.int (0 : Int32)), (.int (F4_0 j4))])) t
            refine XS.icmpNo X16.here hx rfl (hb hby at_138) rfl (teq hc138_16).2 ?_
            show Steps p.tables e below (T16.setTop (mkF m 141 #[.val (.long j0), .second, .val (.int i2), .val (.int i3), .val (.long j4), .second, .val (.ref b1), .val (.int (((j4.toUInt64 >>> ((40 : Int32) &&& 0x3f).toInt64.toUInt64).toInt64).toInt32)), .val (.long (j4 &&& (1099511627775 : Int64))), .second, .val (.int (0 : Int32)), .val (.int (1 : Int32)), .val (.int (0 : Int32))] [])) t
            refine XS.iconst X16.here hx rfl (hb hby at_141) ?_
            show Steps p.tables e below (T16.setTop (mkF m 142 #[.val (.long j0), .second, .val (.int i2), .val (.int i3), .val (.long j4), .second, .val (.ref b1), .val (.int (((j4.toUInt64 >>> ((40 : Int32) &&& 0x3f).toInt64.toUInt64).toInt64).toInt32)), .val (.long (j4 &&& (1099511627775 : Int64))), .second, .val (.int (0 : Int32)), .val (.int (1 : Int32)), .val (.int (0 : Int32))] [(.int (1 : Int32))])) t
            refine XS.goto X16.here hx rfl (pc0 := 142) (pc' := 146) rfl (hb hby at_142) (by decide) (by decide) ?_
            exact k
          exact doneN (t := .boolean) X16 (by simp) hx hret hlk (hb hby at_146) ⟨rfl, N16⟩ (by decide) (by decide)
        · rw [if_neg hc138_16]
          refine Done.of (T' := T16) (g' := (mkF m 146 #[.val (.long j0), .second, .val (.int i2), .val (.int i3), .val (.long j4), .second, .val (.ref b1), .val (.int (((j4.toUInt64 >>> ((40 : Int32) &&& 0x3f).toInt64.toUInt64).toInt64).toInt32)), .val (.long (j4 &&& (1099511627775 : Int64))), .second, .val (.int (0 : Int32)), .val (.int (1 : Int32)), .val (.int (0 : Int32))] [(.int (0 : Int32))])) (fun t k => ?_) ?_
          · show Steps p.tables e below (T16.setTop (mkF m 138 #[.val (.long j0), .second, .val (.int i2), .val (.int i3), .val (.long j4), .second, .val (.ref b1), .val (.int (((j4.toUInt64 >>> ((40 : Int32) &&& 0x3f).toInt64.toUInt64).toInt64).toInt32)), .val (.long (j4 &&& (1099511627775 : Int64))), .second, .val (.int (0 : Int32)), .val (.int (1 : Int32)), .val (.int (0 : Int32))] [(.int (0 : Int32)), (.int (F4_0 j4))])) t
            refine XS.icmpYes X16.here hx rfl (pc0 := 138) (pc' := 145) rfl (hb hby at_138) rfl (feq hc138_16).2 (by decide) (by decide) ?_
            show Steps p.tables e below (T16.setTop (mkF m 145 #[.val (.long j0), .second, .val (.int i2), .val (.int i3), .val (.long j4), .second, .val (.ref b1), .val (.int (((j4.toUInt64 >>> ((40 : Int32) &&& 0x3f).toInt64.toUInt64).toInt64).toInt32)), .val (.long (j4 &&& (1099511627775 : Int64))), .second, .val (.int (0 : Int32)), .val (.int (1 : Int32)), .val (.int (0 : Int32))] [])) t
            refine XS.iconst X16.here hx rfl (hb hby at_145) ?_
            exact k
          exact doneN (t := .boolean) X16 (by simp) hx hret hlk (hb hby at_146) ⟨rfl, N16⟩ (by decide) (by decide)
    · rw [if_neg hc97_11]
      refine Done.of (T' := T2) (g' := (mkF m 133 #[.val (.long j0), .second, .val (.int i2), .val (.int i3), .val (.long j4), .second, .val (.ref b1), .val (.int (((j4.toUInt64 >>> ((40 : Int32) &&& 0x3f).toInt64.toUInt64).toInt64).toInt32)), .val (.long (j4 &&& (1099511627775 : Int64))), .second, .val (.int (0 : Int32)), .val (.int (1 : Int32)), .val (.int (0 : Int32))] [(.ref b1)])) (fun t k => ?_) ?_
      · show Steps p.tables e below (T2.setTop (mkF m 97 #[.val (.long j0), .second, .val (.int i2), .val (.int i3), .val (.long j4), .second, .val (.ref b1), .val (.int (((j4.toUInt64 >>> ((40 : Int32) &&& 0x3f).toInt64.toUInt64).toInt64).toInt32)), .val (.long (j4 &&& (1099511627775 : Int64))), .second, .val (.int (0 : Int32)), .unset, .unset] [(.int (((j4.toUInt64 >>> ((40 : Int32) &&& 0x3f).toInt64.toUInt64).toInt64).toInt32))])) t
        refine XS.ifYes X2.here hx rfl (pc0 := 97) (pc' := 107) rfl (hb hby at_97) rfl ((if0 _ _).trans (feq hc97_11).2) (by decide) (by decide) ?_
        show Steps p.tables e below (T2.setTop (mkF m 107 #[.val (.long j0), .second, .val (.int i2), .val (.int i3), .val (.long j4), .second, .val (.ref b1), .val (.int (((j4.toUInt64 >>> ((40 : Int32) &&& 0x3f).toInt64.toUInt64).toInt64).toInt32)), .val (.long (j4 &&& (1099511627775 : Int64))), .second, .val (.int (0 : Int32)), .unset, .unset] [])) t
        refine XS.iconst X2.here hx rfl (hb hby at_107) ?_
        show Steps p.tables e below (T2.setTop (mkF m 108 #[.val (.long j0), .second, .val (.int i2), .val (.int i3), .val (.long j4), .second, .val (.ref b1), .val (.int (((j4.toUInt64 >>> ((40 : Int32) &&& 0x3f).toInt64.toUInt64).toInt64).toInt32)), .val (.long (j4 &&& (1099511627775 : Int64))), .second, .val (.int (0 : Int32)), .unset, .unset] [(.int (1 : Int32))])) t
        refine XS.goto X2.here hx rfl (pc0 := 108) (pc' := 112) rfl (hb hby at_108) (by decide) (by decide) ?_
        show Steps p.tables e below (T2.setTop (mkF m 112 #[.val (.long j0), .second, .val (.int i2), .val (.int i3), .val (.long j4), .second, .val (.ref b1), .val (.int (((j4.toUInt64 >>> ((40 : Int32) &&& 0x3f).toInt64.toUInt64).toInt64).toInt32)), .val (.long (j4 &&& (1099511627775 : Int64))), .second, .val (.int (0 : Int32)), .unset, .unset] [(.int (1 : Int32))])) t
        refine XS.istore X2.here hx rfl (hb hby at_112) rfl (l' := #[.val (.long j0), .second, .val (.int i2), .val (.int i3), .val (.long j4), .second, .val (.ref b1), .val (.int (((j4.toUInt64 >>> ((40 : Int32) &&& 0x3f).toInt64.toUInt64).toInt64).toInt32)), .val (.long (j4 &&& (1099511627775 : Int64))), .second, .val (.int (0 : Int32)), .val (.int (1 : Int32)), .unset]) rfl ?_
        show Steps p.tables e below (T2.setTop (mkF m 114 #[.val (.long j0), .second, .val (.int i2), .val (.int i3), .val (.long j4), .second, .val (.ref b1), .val (.int (((j4.toUInt64 >>> ((40 : Int32) &&& 0x3f).toInt64.toUInt64).toInt64).toInt32)), .val (.long (j4 &&& (1099511627775 : Int64))), .second, .val (.int (0 : Int32)), .val (.int (1 : Int32)), .unset] [])) t
        refine XS.iload X2.here hx rfl (hb hby at_114) rfl ?_
        show Steps p.tables e below (T2.setTop (mkF m 116 #[.val (.long j0), .second, .val (.int i2), .val (.int i3), .val (.long j4), .second, .val (.ref b1), .val (.int (((j4.toUInt64 >>> ((40 : Int32) &&& 0x3f).toInt64.toUInt64).toInt64).toInt32)), .val (.long (j4 &&& (1099511627775 : Int64))), .second, .val (.int (0 : Int32)), .val (.int (1 : Int32)), .unset] [(.int (0 : Int32))])) t
        refine XS.ifYes X2.here hx rfl (pc0 := 116) (pc' := 128) rfl (hb hby at_116) rfl ((if0 _ _).trans (teq (show (0 : Int32) = (0 : Int32) from by decide)).1) (by decide) (by decide) ?_
        show Steps p.tables e below (T2.setTop (mkF m 128 #[.val (.long j0), .second, .val (.int i2), .val (.int i3), .val (.long j4), .second, .val (.ref b1), .val (.int (((j4.toUInt64 >>> ((40 : Int32) &&& 0x3f).toInt64.toUInt64).toInt64).toInt32)), .val (.long (j4 &&& (1099511627775 : Int64))), .second, .val (.int (0 : Int32)), .val (.int (1 : Int32)), .unset] [])) t
        refine XS.iconst X2.here hx rfl (hb hby at_128) ?_
        show Steps p.tables e below (T2.setTop (mkF m 129 #[.val (.long j0), .second, .val (.int i2), .val (.int i3), .val (.long j4), .second, .val (.ref b1), .val (.int (((j4.toUInt64 >>> ((40 : Int32) &&& 0x3f).toInt64.toUInt64).toInt64).toInt32)), .val (.long (j4 &&& (1099511627775 : Int64))), .second, .val (.int (0 : Int32)), .val (.int (1 : Int32)), .unset] [(.int (0 : Int32))])) t
        refine XS.istore X2.here hx rfl (hb hby at_129) rfl (l' := #[.val (.long j0), .second, .val (.int i2), .val (.int i3), .val (.long j4), .second, .val (.ref b1), .val (.int (((j4.toUInt64 >>> ((40 : Int32) &&& 0x3f).toInt64.toUInt64).toInt64).toInt32)), .val (.long (j4 &&& (1099511627775 : Int64))), .second, .val (.int (0 : Int32)), .val (.int (1 : Int32)), .val (.int (0 : Int32))]) rfl ?_
        show Steps p.tables e below (T2.setTop (mkF m 131 #[.val (.long j0), .second, .val (.int i2), .val (.int i3), .val (.long j4), .second, .val (.ref b1), .val (.int (((j4.toUInt64 >>> ((40 : Int32) &&& 0x3f).toInt64.toUInt64).toInt64).toInt32)), .val (.long (j4 &&& (1099511627775 : Int64))), .second, .val (.int (0 : Int32)), .val (.int (1 : Int32)), .val (.int (0 : Int32))] [])) t
        refine XS.aload X2.here hx rfl (hb hby at_131) rfl rfl ?_
        exact k
      obtain ⟨cq18, kq18, q18a, q18b, q18c⟩ := isOf hZ e2 E2
      obtain ⟨_, _, ⟨T18, L18, k18, n18⟩, -, X18, ⟨Lc18, hQ18, l18, y18, z18⟩, st18⟩ := X2.virtualBack hx (y := (⟨"com/example/tetherd/tetherd/core/link/MacAddress", "unicast", "()Z"⟩ : MethodName)) (z := (⟨"com/example/tetherd/tetherd/core/link/MacAddress", "unicast", "()Z"⟩ : MethodName)) hown (mvT hZ (hw _ (List.mem_of_getElem? (i := 19) rfl))) (mvT hZ (hw _ (List.mem_of_getElem? (i := 20) rfl))) (notFace_of_selects (args := #[]) (mvT hZ (hw _ (List.mem_of_getElem? (i := 22) rfl)))) (mvT hZ (hw _ (List.mem_of_getElem? (i := 22) rfl))) (mvT hZ (hw _ (List.mem_of_getElem? (i := 21) rfl))) (by decide) (backOf (W := 0) (rm4 l Z a0 hw [] b1 h2 n0 j4 F2_bits) hZ (hw _ (List.mem_of_getElem? (i := 23) rfl)) (hw _ (List.mem_of_getElem? (i := 3) rfl)) (by decide) (by decide)) q18a q18c (g := (mkF m 133 #[.val (.long j0), .second, .val (.int i2), .val (.int i3), .val (.long j4), .second, .val (.ref b1), .val (.int (((j4.toUInt64 >>> ((40 : Int32) &&& 0x3f).toInt64.toUInt64).toInt64).toInt32)), .val (.long (j4 &&& (1099511627775 : Int64))), .second, .val (.int (0 : Int32)), .val (.int (1 : Int32)), .val (.int (0 : Int32))] [(.ref b1)])) rfl (by rw [hml]; rfl) (Steps.refl _) (argsL := []) (rest := []) (lenOf pd_2 rfl) rfl (by show 2 * 0 + _ ≤ _; exact Nat.le_of_eq rfl) (hb hby at_133) (fun _ _ => ⟨rfl, e2, (by decide : 1 + 0 ≤ _), (by decide : 1 + 0 ≤ _)⟩)
      dsimp only [Pt.U, Pt.locs, Pt.cells, Pt.slots] at X18 l18 y18 z18 st18 hQ18
      subst l18 y18 z18
      obtain ⟨rfl, N18q, e18⟩ := hQ18
      have N18 := Fr.app N2 N18q
      replace X18 : Stand p l e room_1 s m args below meth c T18 _ 1 1 := X18
      refine Done.of (g' := (mkF m 136 #[.val (.long j0), .second, .val (.int i2), .val (.int i3), .val (.long j4), .second, .val (.ref b1), .val (.int (((j4.toUInt64 >>> ((40 : Int32) &&& 0x3f).toInt64.toUInt64).toInt64).toInt32)), .val (.long (j4 &&& (1099511627775 : Int64))), .second, .val (.int (0 : Int32)), .val (.int (1 : Int32)), .val (.int (0 : Int32))] [(.int (F4_0 j4))])) (fun t k => st18.trans k) ?_
      refine Done.of (T' := T18) (g' := (mkF m 138 #[.val (.long j0), .second, .val (.int i2), .val (.int i3), .val (.long j4), .second, .val (.ref b1), .val (.int (((j4.toUInt64 >>> ((40 : Int32) &&& 0x3f).toInt64.toUInt64).toInt64).toInt32)), .val (.long (j4 &&& (1099511627775 : Int64))), .second, .val (.int (0 : Int32)), .val (.int (1 : Int32)), .val (.int (0 : Int32))] [(.int (0 : Int32)), (.int (F4_0 j4))])) (fun t k => ?_) ?_
      · show Steps p.tables e below (T18.setTop (mkF m 136 #[.val (.long j0), .second, .val (.int i2), .val (.int i3), .val (.long j4), .second, .val (.ref b1), .val (.int (((j4.toUInt64 >>> ((40 : Int32) &&& 0x3f).toInt64.toUInt64).toInt64).toInt32)), .val (.long (j4 &&& (1099511627775 : Int64))), .second, .val (.int (0 : Int32)), .val (.int (1 : Int32)), .val (.int (0 : Int32))] [(.int (F4_0 j4))])) t
        refine XS.iload X18.here hx rfl (hb hby at_136) rfl ?_
        exact k
      by_cases hc138_18 : (F4_0 j4) = (0 : Int32)
      · rw [if_pos hc138_18]
        refine Done.of (T' := T18) (g' := (mkF m 146 #[.val (.long j0), .second, .val (.int i2), .val (.int i3), .val (.long j4), .second, .val (.ref b1), .val (.int (((j4.toUInt64 >>> ((40 : Int32) &&& 0x3f).toInt64.toUInt64).toInt64).toInt32)), .val (.long (j4 &&& (1099511627775 : Int64))), .second, .val (.int (0 : Int32)), .val (.int (1 : Int32)), .val (.int (0 : Int32))] [(.int (1 : Int32))])) (fun t k => ?_) ?_
        · show Steps p.tables e below (T18.setTop (mkF m 138 #[.val (.long j0), .second, .val (.int i2), .val (.int i3), .val (.long j4), .second, .val (.ref b1), .val (.int (((j4.toUInt64 >>> ((40 : Int32) &&& 0x3f).toInt64.toUInt64).toInt64).toInt32)), .val (.long (j4 &&& (1099511627775 : Int64))), .second, .val (.int (0 : Int32)), .val (.int (1 : Int32)), .val (.int (0 : Int32))] [(.int (0 : Int32)), (.int (F4_0 j4))])) t
          refine XS.icmpNo X18.here hx rfl (hb hby at_138) rfl (teq hc138_18).2 ?_
          show Steps p.tables e below (T18.setTop (mkF m 141 #[.val (.long j0), .second, .val (.int i2), .val (.int i3), .val (.long j4), .second, .val (.ref b1), .val (.int (((j4.toUInt64 >>> ((40 : Int32) &&& 0x3f).toInt64.toUInt64).toInt64).toInt32)), .val (.long (j4 &&& (1099511627775 : Int64))), .second, .val (.int (0 : Int32)), .val (.int (1 : Int32)), .val (.int (0 : Int32))] [])) t
          refine XS.iconst X18.here hx rfl (hb hby at_141) ?_
          show Steps p.tables e below (T18.setTop (mkF m 142 #[.val (.long j0), .second, .val (.int i2), .val (.int i3), .val (.long j4), .second, .val (.ref b1), .val (.int (((j4.toUInt64 >>> ((40 : Int32) &&& 0x3f).toInt64.toUInt64).toInt64).toInt32)), .val (.long (j4 &&& (1099511627775 : Int64))), .second, .val (.int (0 : Int32)), .val (.int (1 : Int32)), .val (.int (0 : Int32))] [(.int (1 : Int32))])) t
          refine XS.goto X18.here hx rfl (pc0 := 142) (pc' := 146) rfl (hb hby at_142) (by decide) (by decide) ?_
          exact k
        exact doneN (t := .boolean) X18 (by simp) hx hret hlk (hb hby at_146) ⟨rfl, N18⟩ (by decide) (by decide)
      · rw [if_neg hc138_18]
        refine Done.of (T' := T18) (g' := (mkF m 146 #[.val (.long j0), .second, .val (.int i2), .val (.int i3), .val (.long j4), .second, .val (.ref b1), .val (.int (((j4.toUInt64 >>> ((40 : Int32) &&& 0x3f).toInt64.toUInt64).toInt64).toInt32)), .val (.long (j4 &&& (1099511627775 : Int64))), .second, .val (.int (0 : Int32)), .val (.int (1 : Int32)), .val (.int (0 : Int32))] [(.int (0 : Int32))])) (fun t k => ?_) ?_
        · show Steps p.tables e below (T18.setTop (mkF m 138 #[.val (.long j0), .second, .val (.int i2), .val (.int i3), .val (.long j4), .second, .val (.ref b1), .val (.int (((j4.toUInt64 >>> ((40 : Int32) &&& 0x3f).toInt64.toUInt64).toInt64).toInt32)), .val (.long (j4 &&& (1099511627775 : Int64))), .second, .val (.int (0 : Int32)), .val (.int (1 : Int32)), .val (.int (0 : Int32))] [(.int (0 : Int32)), (.int (F4_0 j4))])) t
          refine XS.icmpYes X18.here hx rfl (pc0 := 138) (pc' := 145) rfl (hb hby at_138) rfl (feq hc138_18).2 (by decide) (by decide) ?_
          show Steps p.tables e below (T18.setTop (mkF m 145 #[.val (.long j0), .second, .val (.int i2), .val (.int i3), .val (.long j4), .second, .val (.ref b1), .val (.int (((j4.toUInt64 >>> ((40 : Int32) &&& 0x3f).toInt64.toUInt64).toInt64).toInt32)), .val (.long (j4 &&& (1099511627775 : Int64))), .second, .val (.int (0 : Int32)), .val (.int (1 : Int32)), .val (.int (0 : Int32))] [])) t
          refine XS.iconst X18.here hx rfl (hb hby at_145) ?_
          exact k
        exact doneN (t := .boolean) X18 (by simp) hx hret hlk (hb hby at_146) ⟨rfl, N18⟩ (by decide) (by decide)
def F0_0 (q1 : Int64) (p2 : Int32) : Int32 := (if (p2 &&& (3 : Int32)) = (0 : Int32) then (F0_54 q1 p2 (p2 &&& (3 : Int32)) (q1 &&& (281474976710655 : Int64))) else (if (p2 &&& (3 : Int32)) = (1 : Int32) then (F0_54 q1 p2 (p2 &&& (3 : Int32)) (0 : Int64)) else (if (p2 &&& (3 : Int32)) = (2 : Int32) then (F0_54 q1 p2 (p2 &&& (3 : Int32)) ((q1 &&& (255 : Int64)) <<< ((40 : Int32) &&& 0x3f).toInt64)) else (F0_54 q1 p2 (p2 &&& (3 : Int32)) (q1 &&& (1099511627775 : Int64))))))
set_option maxRecDepth 65536 in
set_option maxHeartbeats 40000000 in
theorem bk0_0 {p : Program} {l : Launch} {e : Env} {s : State} {m : MethodId} {args : Array Value} {below : List Frame} {meth : Method} {c : Code} {T0 : State} {locs : List Loc} {Z : State} {a0 : Array Value} {h0 : Heap} {n0 : Nat}
    (hx : p.tables.exec = Jvm.exec) (hZ : Z.Warmed39 s.vm) (hw : ∀ d ∈ tables_1, d.before a0 Z = true) (hby : c.code = code) (hml : c.maxLocals = 13) (hown : s.vm.findClass "com/example/tetherd/tetherd/core/link/MacAddressUnicastPinLaw" = some m.cls) (hnm : meth.name = "law") (hret : meth.sig.returnType = some .boolean) (hlk : meth.locks = false)
    (X0 : Stand p l e room_1 s m args below meth c T0 locs 0 0) (N0 : Fr n0 locs) (e0 : T0.heap = h0) (q1 : Int64) (p2 : Int32) (Z0 : n0 ≤ h0.size) :
    Done p e below s room_1 (Ql n0 (.int (F0_0 q1 p2))) T0 (mkF m 0 #[.val (.long q1), .second, .val (.int p2), .unset, .unset, .unset, .unset, .unset, .unset, .unset, .unset, .unset, .unset] []) := by
  unfold F0_0
  refine Done.of (T' := T0) (g' := (mkF m 5 #[.val (.long q1), .second, .val (.int p2), .val (.int (p2 &&& (3 : Int32))), .unset, .unset, .unset, .unset, .unset, .unset, .unset, .unset, .unset] [(.int (p2 &&& (3 : Int32)))])) (fun t k => ?_) ?_
  · show Steps p.tables e below (T0.setTop (mkF m 0 #[.val (.long q1), .second, .val (.int p2), .unset, .unset, .unset, .unset, .unset, .unset, .unset, .unset, .unset, .unset] [])) t
    refine XS.iloadN X0.here hx rfl (hb hby at_0) rfl ?_
    show Steps p.tables e below (T0.setTop (mkF m 1 #[.val (.long q1), .second, .val (.int p2), .unset, .unset, .unset, .unset, .unset, .unset, .unset, .unset, .unset, .unset] [(.int p2)])) t
    refine XS.iconst X0.here hx rfl (hb hby at_1) ?_
    show Steps p.tables e below (T0.setTop (mkF m 2 #[.val (.long q1), .second, .val (.int p2), .unset, .unset, .unset, .unset, .unset, .unset, .unset, .unset, .unset, .unset] [(.int (3 : Int32)), (.int p2)])) t
    refine XS.iand X0.here hx rfl (hb hby at_2) rfl ?_
    show Steps p.tables e below (T0.setTop (mkF m 3 #[.val (.long q1), .second, .val (.int p2), .unset, .unset, .unset, .unset, .unset, .unset, .unset, .unset, .unset, .unset] [(.int (p2 &&& (3 : Int32)))])) t
    refine XS.istoreN X0.here hx rfl (hb hby at_3) rfl (l' := #[.val (.long q1), .second, .val (.int p2), .val (.int (p2 &&& (3 : Int32))), .unset, .unset, .unset, .unset, .unset, .unset, .unset, .unset, .unset]) rfl ?_
    show Steps p.tables e below (T0.setTop (mkF m 4 #[.val (.long q1), .second, .val (.int p2), .val (.int (p2 &&& (3 : Int32))), .unset, .unset, .unset, .unset, .unset, .unset, .unset, .unset, .unset] [])) t
    refine XS.iloadN X0.here hx rfl (hb hby at_4) rfl ?_
    exact k
  by_cases hc5_0 : (p2 &&& (3 : Int32)) = (0 : Int32)
  · rw [if_pos hc5_0]
    refine Done.of (T' := T0) (g' := (mkF m 54 #[.val (.long q1), .second, .val (.int p2), .val (.int (p2 &&& (3 : Int32))), .val (.long (q1 &&& (281474976710655 : Int64))), .second, .unset, .unset, .unset, .unset, .unset, .unset, .unset] [])) (fun t k => ?_) ?_
    · show Steps p.tables e below (T0.setTop (mkF m 5 #[.val (.long q1), .second, .val (.int p2), .val (.int (p2 &&& (3 : Int32))), .unset, .unset, .unset, .unset, .unset, .unset, .unset, .unset, .unset] [(.int (p2 &&& (3 : Int32)))])) t
      refine XS.ifNo X0.here hx rfl (hb hby at_5) rfl ((if0 _ _).trans (teq hc5_0).2) ?_
      show Steps p.tables e below (T0.setTop (mkF m 8 #[.val (.long q1), .second, .val (.int p2), .val (.int (p2 &&& (3 : Int32))), .unset, .unset, .unset, .unset, .unset, .unset, .unset, .unset, .unset] [])) t
      refine XS.lloadN X0.here hx rfl (hb hby at_8) rfl ?_
      show Steps p.tables e below (T0.setTop (mkF m 9 #[.val (.long q1), .second, .val (.int p2), .val (.int (p2 &&& (3 : Int32))), .unset, .unset, .unset, .unset, .unset, .unset, .unset, .unset, .unset] [(.long q1)])) t
      refine X0.ldc2Long hx hown (mvT hZ (hw _ (List.mem_of_getElem? (i := 25) rfl))) (g := (mkF m 9 #[.val (.long q1), .second, .val (.int p2), .val (.int (p2 &&& (3 : Int32))), .unset, .unset, .unset, .unset, .unset, .unset, .unset, .unset, .unset] [(.long q1)])) rfl (hb hby at_9) _ ?_
      show Steps p.tables e below (T0.setTop (mkF m 12 #[.val (.long q1), .second, .val (.int p2), .val (.int (p2 &&& (3 : Int32))), .unset, .unset, .unset, .unset, .unset, .unset, .unset, .unset, .unset] [(.long (281474976710655 : Int64)), (.long q1)])) t
      refine XS.land X0.here hx rfl (hb hby at_12) rfl ?_
      show Steps p.tables e below (T0.setTop (mkF m 13 #[.val (.long q1), .second, .val (.int p2), .val (.int (p2 &&& (3 : Int32))), .unset, .unset, .unset, .unset, .unset, .unset, .unset, .unset, .unset] [(.long (q1 &&& (281474976710655 : Int64)))])) t
      refine XS.lstore X0.here hx rfl (hb hby at_13) rfl (l' := #[.val (.long q1), .second, .val (.int p2), .val (.int (p2 &&& (3 : Int32))), .val (.long (q1 &&& (281474976710655 : Int64))), .second, .unset, .unset, .unset, .unset, .unset, .unset, .unset]) rfl ?_
      show Steps p.tables e below (T0.setTop (mkF m 15 #[.val (.long q1), .second, .val (.int p2), .val (.int (p2 &&& (3 : Int32))), .val (.long (q1 &&& (281474976710655 : Int64))), .second, .unset, .unset, .unset, .unset, .unset, .unset, .unset] [])) t
      refine XS.goto X0.here hx rfl (pc0 := 15) (pc' := 54) rfl (hb hby at_15) (by decide) (by decide) ?_
      exact k
    exact bk0_54 hx hZ hw hby hml hown hnm hret hlk X0 N0 e0 q1 p2 (p2 &&& (3 : Int32)) (q1 &&& (281474976710655 : Int64)) Z0 (own_and q1 (by decide))
  · rw [if_neg hc5_0]
    refine Done.of (T' := T0) (g' := (mkF m 20 #[.val (.long q1), .second, .val (.int p2), .val (.int (p2 &&& (3 : Int32))), .unset, .unset, .unset, .unset, .unset, .unset, .unset, .unset, .unset] [(.int (1 : Int32)), (.int (p2 &&& (3 : Int32)))])) (fun t k => ?_) ?_
    · show Steps p.tables e below (T0.setTop (mkF m 5 #[.val (.long q1), .second, .val (.int p2), .val (.int (p2 &&& (3 : Int32))), .unset, .unset, .unset, .unset, .unset, .unset, .unset, .unset, .unset] [(.int (p2 &&& (3 : Int32)))])) t
      refine XS.ifYes X0.here hx rfl (pc0 := 5) (pc' := 18) rfl (hb hby at_5) rfl ((if0 _ _).trans (feq hc5_0).2) (by decide) (by decide) ?_
      show Steps p.tables e below (T0.setTop (mkF m 18 #[.val (.long q1), .second, .val (.int p2), .val (.int (p2 &&& (3 : Int32))), .unset, .unset, .unset, .unset, .unset, .unset, .unset, .unset, .unset] [])) t
      refine XS.iloadN X0.here hx rfl (hb hby at_18) rfl ?_
      show Steps p.tables e below (T0.setTop (mkF m 19 #[.val (.long q1), .second, .val (.int p2), .val (.int (p2 &&& (3 : Int32))), .unset, .unset, .unset, .unset, .unset, .unset, .unset, .unset, .unset] [(.int (p2 &&& (3 : Int32)))])) t
      refine XS.iconst X0.here hx rfl (hb hby at_19) ?_
      exact k
    by_cases hc20_1 : (p2 &&& (3 : Int32)) = (1 : Int32)
    · rw [if_pos hc20_1]
      refine Done.of (T' := T0) (g' := (mkF m 54 #[.val (.long q1), .second, .val (.int p2), .val (.int (p2 &&& (3 : Int32))), .val (.long (0 : Int64)), .second, .unset, .unset, .unset, .unset, .unset, .unset, .unset] [])) (fun t k => ?_) ?_
      · show Steps p.tables e below (T0.setTop (mkF m 20 #[.val (.long q1), .second, .val (.int p2), .val (.int (p2 &&& (3 : Int32))), .unset, .unset, .unset, .unset, .unset, .unset, .unset, .unset, .unset] [(.int (1 : Int32)), (.int (p2 &&& (3 : Int32)))])) t
        refine XS.icmpNo X0.here hx rfl (hb hby at_20) rfl (teq hc20_1).2 ?_
        show Steps p.tables e below (T0.setTop (mkF m 23 #[.val (.long q1), .second, .val (.int p2), .val (.int (p2 &&& (3 : Int32))), .unset, .unset, .unset, .unset, .unset, .unset, .unset, .unset, .unset] [])) t
        refine XS.lconst X0.here hx rfl (hb hby at_23) ?_
        show Steps p.tables e below (T0.setTop (mkF m 24 #[.val (.long q1), .second, .val (.int p2), .val (.int (p2 &&& (3 : Int32))), .unset, .unset, .unset, .unset, .unset, .unset, .unset, .unset, .unset] [(.long (0 : Int64))])) t
        refine XS.lstore X0.here hx rfl (hb hby at_24) rfl (l' := #[.val (.long q1), .second, .val (.int p2), .val (.int (p2 &&& (3 : Int32))), .val (.long (0 : Int64)), .second, .unset, .unset, .unset, .unset, .unset, .unset, .unset]) rfl ?_
        show Steps p.tables e below (T0.setTop (mkF m 26 #[.val (.long q1), .second, .val (.int p2), .val (.int (p2 &&& (3 : Int32))), .val (.long (0 : Int64)), .second, .unset, .unset, .unset, .unset, .unset, .unset, .unset] [])) t
        refine XS.goto X0.here hx rfl (pc0 := 26) (pc' := 54) rfl (hb hby at_26) (by decide) (by decide) ?_
        exact k
      exact bk0_54 hx hZ hw hby hml hown hnm hret hlk X0 N0 e0 q1 p2 (p2 &&& (3 : Int32)) (0 : Int64) Z0 (by decide)
    · rw [if_neg hc20_1]
      refine Done.of (T' := T0) (g' := (mkF m 31 #[.val (.long q1), .second, .val (.int p2), .val (.int (p2 &&& (3 : Int32))), .unset, .unset, .unset, .unset, .unset, .unset, .unset, .unset, .unset] [(.int (2 : Int32)), (.int (p2 &&& (3 : Int32)))])) (fun t k => ?_) ?_
      · show Steps p.tables e below (T0.setTop (mkF m 20 #[.val (.long q1), .second, .val (.int p2), .val (.int (p2 &&& (3 : Int32))), .unset, .unset, .unset, .unset, .unset, .unset, .unset, .unset, .unset] [(.int (1 : Int32)), (.int (p2 &&& (3 : Int32)))])) t
        refine XS.icmpYes X0.here hx rfl (pc0 := 20) (pc' := 29) rfl (hb hby at_20) rfl (feq hc20_1).2 (by decide) (by decide) ?_
        show Steps p.tables e below (T0.setTop (mkF m 29 #[.val (.long q1), .second, .val (.int p2), .val (.int (p2 &&& (3 : Int32))), .unset, .unset, .unset, .unset, .unset, .unset, .unset, .unset, .unset] [])) t
        refine XS.iloadN X0.here hx rfl (hb hby at_29) rfl ?_
        show Steps p.tables e below (T0.setTop (mkF m 30 #[.val (.long q1), .second, .val (.int p2), .val (.int (p2 &&& (3 : Int32))), .unset, .unset, .unset, .unset, .unset, .unset, .unset, .unset, .unset] [(.int (p2 &&& (3 : Int32)))])) t
        refine XS.iconst X0.here hx rfl (hb hby at_30) ?_
        exact k
      by_cases hc31_2 : (p2 &&& (3 : Int32)) = (2 : Int32)
      · rw [if_pos hc31_2]
        refine Done.of (T' := T0) (g' := (mkF m 54 #[.val (.long q1), .second, .val (.int p2), .val (.int (p2 &&& (3 : Int32))), .val (.long ((q1 &&& (255 : Int64)) <<< ((40 : Int32) &&& 0x3f).toInt64)), .second, .unset, .unset, .unset, .unset, .unset, .unset, .unset] [])) (fun t k => ?_) ?_
        · show Steps p.tables e below (T0.setTop (mkF m 31 #[.val (.long q1), .second, .val (.int p2), .val (.int (p2 &&& (3 : Int32))), .unset, .unset, .unset, .unset, .unset, .unset, .unset, .unset, .unset] [(.int (2 : Int32)), (.int (p2 &&& (3 : Int32)))])) t
          refine XS.icmpNo X0.here hx rfl (hb hby at_31) rfl (teq hc31_2).2 ?_
          show Steps p.tables e below (T0.setTop (mkF m 34 #[.val (.long q1), .second, .val (.int p2), .val (.int (p2 &&& (3 : Int32))), .unset, .unset, .unset, .unset, .unset, .unset, .unset, .unset, .unset] [])) t
          refine XS.lloadN X0.here hx rfl (hb hby at_34) rfl ?_
          show Steps p.tables e below (T0.setTop (mkF m 35 #[.val (.long q1), .second, .val (.int p2), .val (.int (p2 &&& (3 : Int32))), .unset, .unset, .unset, .unset, .unset, .unset, .unset, .unset, .unset] [(.long q1)])) t
          refine X0.ldc2Long hx hown (mvT hZ (hw _ (List.mem_of_getElem? (i := 0) rfl))) (g := (mkF m 35 #[.val (.long q1), .second, .val (.int p2), .val (.int (p2 &&& (3 : Int32))), .unset, .unset, .unset, .unset, .unset, .unset, .unset, .unset, .unset] [(.long q1)])) rfl (hb hby at_35) _ ?_
          show Steps p.tables e below (T0.setTop (mkF m 38 #[.val (.long q1), .second, .val (.int p2), .val (.int (p2 &&& (3 : Int32))), .unset, .unset, .unset, .unset, .unset, .unset, .unset, .unset, .unset] [(.long (255 : Int64)), (.long q1)])) t
          refine XS.land X0.here hx rfl (hb hby at_38) rfl ?_
          show Steps p.tables e below (T0.setTop (mkF m 39 #[.val (.long q1), .second, .val (.int p2), .val (.int (p2 &&& (3 : Int32))), .unset, .unset, .unset, .unset, .unset, .unset, .unset, .unset, .unset] [(.long (q1 &&& (255 : Int64)))])) t
          refine XS.bipush X0.here hx rfl (hb hby at_39) ?_
          show Steps p.tables e below (T0.setTop (mkF m 41 #[.val (.long q1), .second, .val (.int p2), .val (.int (p2 &&& (3 : Int32))), .unset, .unset, .unset, .unset, .unset, .unset, .unset, .unset, .unset] [(.int (40 : Int32)), (.long (q1 &&& (255 : Int64)))])) t
          refine XS.lshl X0.here hx rfl (hb hby at_41) rfl ?_
          show Steps p.tables e below (T0.setTop (mkF m 42 #[.val (.long q1), .second, .val (.int p2), .val (.int (p2 &&& (3 : Int32))), .unset, .unset, .unset, .unset, .unset, .unset, .unset, .unset, .unset] [(.long ((q1 &&& (255 : Int64)) <<< ((40 : Int32) &&& 0x3f).toInt64))])) t
          refine XS.lstore X0.here hx rfl (hb hby at_42) rfl (l' := #[.val (.long q1), .second, .val (.int p2), .val (.int (p2 &&& (3 : Int32))), .val (.long ((q1 &&& (255 : Int64)) <<< ((40 : Int32) &&& 0x3f).toInt64)), .second, .unset, .unset, .unset, .unset, .unset, .unset, .unset]) rfl ?_
          show Steps p.tables e below (T0.setTop (mkF m 44 #[.val (.long q1), .second, .val (.int p2), .val (.int (p2 &&& (3 : Int32))), .val (.long ((q1 &&& (255 : Int64)) <<< ((40 : Int32) &&& 0x3f).toInt64)), .second, .unset, .unset, .unset, .unset, .unset, .unset, .unset] [])) t
          refine XS.goto X0.here hx rfl (pc0 := 44) (pc' := 54) rfl (hb hby at_44) (by decide) (by decide) ?_
          exact k
        exact bk0_54 hx hZ hw hby hml hown hnm hret hlk X0 N0 e0 q1 p2 (p2 &&& (3 : Int32)) ((q1 &&& (255 : Int64)) <<< ((40 : Int32) &&& 0x3f).toInt64) Z0 (own_shl q1)
      · rw [if_neg hc31_2]
        refine Done.of (T' := T0) (g' := (mkF m 54 #[.val (.long q1), .second, .val (.int p2), .val (.int (p2 &&& (3 : Int32))), .val (.long (q1 &&& (1099511627775 : Int64))), .second, .unset, .unset, .unset, .unset, .unset, .unset, .unset] [])) (fun t k => ?_) ?_
        · show Steps p.tables e below (T0.setTop (mkF m 31 #[.val (.long q1), .second, .val (.int p2), .val (.int (p2 &&& (3 : Int32))), .unset, .unset, .unset, .unset, .unset, .unset, .unset, .unset, .unset] [(.int (2 : Int32)), (.int (p2 &&& (3 : Int32)))])) t
          refine XS.icmpYes X0.here hx rfl (pc0 := 31) (pc' := 47) rfl (hb hby at_31) rfl (feq hc31_2).2 (by decide) (by decide) ?_
          show Steps p.tables e below (T0.setTop (mkF m 47 #[.val (.long q1), .second, .val (.int p2), .val (.int (p2 &&& (3 : Int32))), .unset, .unset, .unset, .unset, .unset, .unset, .unset, .unset, .unset] [])) t
          refine XS.lloadN X0.here hx rfl (hb hby at_47) rfl ?_
          show Steps p.tables e below (T0.setTop (mkF m 48 #[.val (.long q1), .second, .val (.int p2), .val (.int (p2 &&& (3 : Int32))), .unset, .unset, .unset, .unset, .unset, .unset, .unset, .unset, .unset] [(.long q1)])) t
          refine X0.ldc2Long hx hown (mvT hZ (hw _ (List.mem_of_getElem? (i := 18) rfl))) (g := (mkF m 48 #[.val (.long q1), .second, .val (.int p2), .val (.int (p2 &&& (3 : Int32))), .unset, .unset, .unset, .unset, .unset, .unset, .unset, .unset, .unset] [(.long q1)])) rfl (hb hby at_48) _ ?_
          show Steps p.tables e below (T0.setTop (mkF m 51 #[.val (.long q1), .second, .val (.int p2), .val (.int (p2 &&& (3 : Int32))), .unset, .unset, .unset, .unset, .unset, .unset, .unset, .unset, .unset] [(.long (1099511627775 : Int64)), (.long q1)])) t
          refine XS.land X0.here hx rfl (hb hby at_51) rfl ?_
          show Steps p.tables e below (T0.setTop (mkF m 52 #[.val (.long q1), .second, .val (.int p2), .val (.int (p2 &&& (3 : Int32))), .unset, .unset, .unset, .unset, .unset, .unset, .unset, .unset, .unset] [(.long (q1 &&& (1099511627775 : Int64)))])) t
          refine XS.lstore X0.here hx rfl (hb hby at_52) rfl (l' := #[.val (.long q1), .second, .val (.int p2), .val (.int (p2 &&& (3 : Int32))), .val (.long (q1 &&& (1099511627775 : Int64))), .second, .unset, .unset, .unset, .unset, .unset, .unset, .unset]) rfl ?_
          exact k
        exact bk0_54 hx hZ hw hby hml hown hnm hret hlk X0 N0 e0 q1 p2 (p2 &&& (3 : Int32)) (q1 &&& (1099511627775 : Int64)) Z0 (own_and q1 (by decide))
theorem own_b40 (w : Int64) : ((w &&& (1099511627776 : Int64)) = 0) ↔ (w.toInt / 1099511627776) % 2 = 0 := by
  have bits : ∀ i : Fin 64, (1099511627776 : Int64).toBitVec.getLsbD i.1 = decide (i.1 = 40) := by decide
  have hb : w.toBitVec.getLsbD 40 = decide ((w.toInt / 1099511627776) % 2 = 1) := by
    rw [BitVec.getLsbD, Nat.testBit_eq_decide_div_mod_eq]
    have : w.toInt = w.toBitVec.toInt := rfl
    rw [this, BitVec.toInt_eq_toNat_cond]
    have := w.toBitVec.isLt
    congr 1
    apply propext
    split <;> omega
  constructor
  · intro h
    have q := congrArg (fun z : Int64 => z.toBitVec.getLsbD 40) h
    have q' : (w.toBitVec.getLsbD 40 && (1099511627776 : Int64).toBitVec.getLsbD 40) = false := by
      rw [← BitVec.getLsbD_and, ← Int64.toBitVec_and]; exact q
    rw [bits ⟨40, by decide⟩, hb] at q'
    simp at q'
    omega
  · intro h
    apply Int64.toBitVec_inj.mp
    apply BitVec.eq_of_getLsbD_eq
    intro i hi
    rw [Int64.toBitVec_and, BitVec.getLsbD_and, bits ⟨i, hi⟩]
    by_cases q : i = 40
    · subst q; rw [hb]; simp; omega
    · simp [q]
theorem own_54 (j0 : Int64) (i2 i3 : Int32) (w : Int64) (h0 : 0 ≤ w.toInt) (h1 : w.toInt < 281474976710656) : F0_54 j0 i2 i3 w = 1 := by
  have hb := own_b40 w
  have hu := c_lushr w 40 40 (by decide) (by decide)
  have hi := c_l2i ((w.toUInt64 >>> ((40 : Int32) &&& 0x3f).toInt64.toUInt64).toInt64)
  have ri := rng32 ((w.toUInt64 >>> ((40 : Int32) &&& 0x3f).toInt64.toUInt64).toInt64).toInt32
  have hm := c_maskL w 1099511627775 40 (by decide) (by decide)
  have l0 : (0 : Int64).toInt = 0 := rfl
  have l0' : (0 : Int32).toInt = 0 := rfl
  unfold F0_54 F4_0
  rw [hu] at hi
  generalize ((w.toUInt64 >>> ((40 : Int32) &&& 0x3f).toInt64.toUInt64).toInt64).toInt32 = f at *
  have hr := (c_irem f 2 2 rfl).1 (by omega)
  have e1 : (f % 2 = 0) ↔ ((w &&& (1099511627776 : Int64)) = 0) := by
    rw [hb, ← Int32.toInt_inj, hr]; omega
  have e2 : (w = 0) ↔ (f = 0 ∧ (w &&& (1099511627775 : Int64)) = 0) := by
    rw [← Int64.toInt_inj, ← Int32.toInt_inj, ← Int64.toInt_inj, hm]; omega
  by_cases a : f % 2 = 0
  · have a' := e1.mp a
    rw [if_pos a]
    by_cases b : f = 0
    · rw [if_pos b]
      by_cases d : (w &&& (1099511627775 : Int64)) = 0
      · rw [if_pos d, if_pos a', if_pos (e2.mpr ⟨b, d⟩)]; rfl
      · rw [if_neg d, if_pos a', if_neg (fun q => d (e2.mp q).2)]; rfl
    · rw [if_neg b, if_pos a', if_neg (fun q => b (e2.mp q).1)]; rfl
  · have a' : ¬ (w &&& (1099511627776 : Int64)) = 0 := fun q => a (e1.mpr q)
    rw [if_neg a]
    simp only [if_neg a', if_pos, ite_self]
theorem own_law (q1 : Int64) (p2 : Int32) : F0_0 q1 p2 = 1 := by
  have m1 := c_maskL q1 281474976710655 48 (by decide) (by decide)
  have m2 := c_maskL q1 255 8 (by decide) (by decide)
  have m3 := c_maskL q1 1099511627775 40 (by decide) (by decide)
  have hs := c_lshl (q1 &&& (255 : Int64)) 40 40 (by decide)
  have r := rng64 ((q1 &&& (255 : Int64)) <<< ((40 : Int32) &&& 0x3f).toInt64)
  unfold F0_0
  repeat' split
  · exact own_54 _ _ _ _ (by omega) (by omega)
  · exact own_54 _ _ _ _ (by decide) (by decide)
  · exact own_54 _ _ _ _ (by omega) (by omega)
  · exact own_54 _ _ _ _ (by omega) (by omega)
theorem ef_0 (m : MethodId) (q1 : Int64) (p2 : Int32) : entryFrame m #[(.long q1), (.int p2)] maxLocals = mkF m 0 #[.val (.long q1), .second, .val (.int p2), .unset, .unset, .unset, .unset, .unset, .unset, .unset, .unset, .unset, .unset] [] := by first | (simp [entryFrame, mkF, argsToLocals, Value.category, maxLocals]; done) | rfl
theorem pn_0 : plainName "com/example/tetherd/tetherd/core/link/MacAddressUnicastPinLaw" = true := by first | (simp [plainName, overriddenIn]; done) | decide +kernel
set_option maxRecDepth 65536 in
set_option maxHeartbeats 40000000 in
theorem rm0 (l : Launch) (Z : State) (a0 : Array Value) (hw : ∀ d ∈ tables_1, d.before a0 Z = true) (ws : List Jvm.Cond) (q1 : Int64) (p2 : Int32) (h0 : Heap) (n0 : Nat) (Z0 : n0 ≤ h0.size) :
    MetFree l x (head1 (Jvm.Cond.code x code maxLocals ret :: ws) room_1) (fun a U => a = #[(.long q1), (.int p2)] ∧ Z.Warmed39 U.vm ∧ U.heap = h0) (fun _ _ _ _ _ => True) (fun _ U o U' => ∃ v L, o = .returned v ∧ (Ql n0 (.int 1)) v U'.heap L ∧ FrameEnd U o U' L room_1.cells room_1.slots) := by
  refine MetFree.of_bodySF (plainFor_of_name pn_0) hisR ?_
  intro p e s m args below meth c s₁ Bd hml0 hP hK
  obtain ⟨rfl, hZ, hh⟩ := hP
  have hown : s.vm.findClass "com/example/tetherd/tetherd/core/link/MacAddressUnicastPinLaw" = some m.cls := findClass_of_methodNamed Bd.named
  have hnm := (name_of_methodNamed Bd.named Bd.method).1
  have X0 : Stand p l e room_1 s m #[(.long q1), (.int p2)] below meth c s₁ [] 0 0 := Stand.of_body Bd
  have e0 : s₁.heap = h0 := by rw [← hh, Bd.state]; rfl
  have d := bk0_0 (n0 := n0) Bd.exec hZ hw Bd.bytes hml0 hown hnm Bd.returns (BodyLoose.notSynchronized Bd) X0 (Fr.nil n0) e0 q1 p2 Z0
  rw [own_law q1 p2] at d
  have d2 : Done p e below s room_1 (Ql n0 (.int 1)) s₁ (entryFrame m #[(.long q1), (.int p2)] maxLocals) := by rw [ef_0]; exact d
  exact d2
set_option maxRecDepth 65536 in
set_option maxHeartbeats 40000000 in
theorem comes_1 {Post : Tables → Env → Array Value → State → Outcome → State → Prop} (hpost : ∀ tb e args s v u, (limb_1_1.after args s (.returned v) u = true ∧ limb_1_2.after args s (.returned v) u = true ∧ True) → FrameEnd s (.returned v) u (Jvm.fieldLocs frame_1_writes args s ++ Jvm.arrayLocs frame_1_arrays args s ++ Jvm.staticLocs frame_1_statics s) 16 128 → Post tb e args s (.returned v) u) :
    ArmFor flags0 classFile x code maxLocals ret World_1 tables_1 room_1 Calls_1 rest_1 Pre_1 Post := by
  intro l hfl _ _ p e ha hc hk s m args below hf hA hF happ hP
  obtain ⟨hcalls, hrest, hpre⟩ := hP
  obtain ⟨-, -, -, hnamed, -, -, -, hat⟩ := (Spec.applies_iff hf).mp happ
  obtain ⟨hg, hn⟩ := and_e (Cond.before_iff.mp (show (Jvm.Cond.and given_1 narrow_1).before args s = true from hpre))
  obtain ⟨g0, r0⟩ := and_e hg
  obtain ⟨v0, r1⟩ := and_e r0
  obtain ⟨w0, w1, rfl⟩ : ∃ w0 w1 : Value, args = #[w0, w1] := by
    have hs : args.size = 2 := by simpa [Cond.value, given_1] using g0
    obtain ⟨L⟩ := args
    match L, hs with
    | [w0, w1], _ => exact ⟨w0, w1, rfl⟩
  have hw := fun d (hd : d ∈ tables_1) => atoms_spec (ws := Jvm.Cond.code x code maxLocals ret :: tables_1) hat d (List.mem_cons_of_mem _ hd)
  obtain ⟨i0, ei0⟩ := isL_v v0
  obtain rfl : w0 = (.long i0) := Option.some.inj ei0
  obtain ⟨i1, ei1⟩ := is_v r1
  obtain rfl : w1 = (.int i1) := Option.some.inj ei1
  obtain ⟨n, o, h1, h2, h3, _, L, rfl, ⟨rfl, N⟩, hq⟩ := rm0 l s _ hw tables_1 i0 i1 s.heap s.heap.size (Nat.le_refl _) p e ha hc hk s m _ below hf ((Spec.applies_iff_loose hf).mp happ).1 ⟨rfl, State.Warmed39.refl s, rfl⟩ trivial
  refine ⟨n, _, h1, h2, h3, hpost _ _ _ _ _ _ ⟨Cond.after_iff.mpr rfl, Cond.after_iff.mpr (eq_i res_at (Term.int_eval (1)) rfl), trivial⟩ ⟨hq.1, hq.2.1, (hq.2.2.sift fun y hy => Or.inr (N y hy)).mono (by decide) (by decide)⟩⟩
theorem main_1_1 : Claimed_1_1 := comes_1 fun _ _ _ _ _ _ h hF => ⟨h.1, hF⟩
theorem main_1_2 : Claimed_1_2 := comes_1 fun _ _ _ _ _ _ h hF => ⟨h.2.1, hF⟩
end Jvm.Pilot.@@N@@
namespace Jvm.Pilot.@@N@@
open Jvm Jvm.ClassFile Sem Op Lib Jvm.Free Jvm.Stand Jvm.Pilot.@@N@@.Jvm.D
/-! MADE BY PROGRAM (witnessworld.py) out of the Statement's table words and the real class files: 10 classes; the members and pool entries that the words name. The judged class is class 1, her method 1. -/
namespace start1
open Jvm.ClassFile
def u (s : String) : CpInfo := .utf8 (stringToUtf16 s)
/-- a pool by its gaps: so many unusable entries, then the entry; so many at the end -/
def gap : Nat → List CpInfo → List CpInfo
  | 0, r => r
  | n + 1, r => .unusable :: gap n r
def poolList (es : List (Nat × CpInfo)) (last : Nat) : List CpInfo := es.foldr (fun e r => gap e.1 (e.2 :: r)) (gap last [])
def pool (es : List (Nat × CpInfo)) (last : Nat) : Array CpInfo := ⟨poolList es last⟩
def fileOf (pool : Array CpInfo) (this : Nat) (attrs : Array Attribute := #[]) (ms : Array MethodInfo := #[]) (fl : Nat := 33) (sup : Nat := 0) (ifs : Array Nat := #[]) (fds : Array FieldInfo := #[]) : ClassFile where
  minorVersion := 0
  majorVersion := 65
  constantPool := pool
  accessFlags := fl
  thisClass := this
  superClass := sup
  interfaces := ifs
  fields := fds
  methods := ms
  attributes := attrs
def plain (name : String) (sup : Option ClassId) : Class where
  name := name
  kind := .ordinary
  loader := none
  accessFlags := 33
  super := sup
  interfaces := #[]
  cf := none
  fields := #[]
  methods := #[]
  instanceTypes := #[]
  staticTypes := #[]
  resolved := #[]
  callSites := []
  init := .initialized
  statics := none
  mirror := none

def pool0 : Array CpInfo := pool [(5, u "<init>"), (0, u "()V"), (1, .class_ 10), (1, u "java/lang/Object")] 113

def k0c0 : Code := { maxStack := 0, maxLocals := 1, code := object_method_1_code, exceptionTable := #[], attributes := #[] }
def k0m0 : Method := { name := "<init>", desc := "()V", sig := { parameters := [], returnType := none }, accessFlags := 1, code := some k0c0 }
/-- java/lang/Object -/
def k0 : Class := { plain "java/lang/Object" none with
  accessFlags := 33
  interfaces := #[]
  cf := some (fileOf pool0 8 #[] #[{ accessFlags := 1, nameIndex := 5, descriptorIndex := 6, attributes := #[] }] 33 0 #[] #[])
  fields := #[]
  methods := #[k0m0]
  instanceTypes := #[]
  staticTypes := #[]
  resolved := Array.replicate 124 none
  statics := none }

def pool1 : Array CpInfo := pool [(2, .class_ 4), (1, u "java/lang/Object"), (0, u "<init>"), (0, u "()V"), (0, .long 281474976710655), (1, .long 255), (1, .long 1099511627775), (1, .class_ 14), (0, u "com/example/tetherd/tetherd/core/link/MacAddress"), (0, .methodref 13 16), (0, .nameAndType 5 17), (0, u "(J)V"), (0, .methodref 13 19), (0, .nameAndType 20 21), (0, u "unicast"), (0, u "()Z"), (0, .class_ 23), (0, u "com/example/tetherd/tetherd/core/link/MacAddressUnicastPinLaw"), (2, u "law"), (0, u "(JI)Z")] 3

def k1m0 : Method := { name := "<init>", desc := "()V", sig := { parameters := [], returnType := none }, accessFlags := 2, code := none }
def k1c1 : Code := { maxStack := 4, maxLocals := 13, code := code, exceptionTable := #[], attributes := #[] }
def k1m1 : Method := { name := "law", desc := "(JI)Z", sig := { parameters := [.long, .int], returnType := some .boolean }, accessFlags := 9, code := some k1c1 }
/-- com/example/tetherd/tetherd/core/link/MacAddressUnicastPinLaw -/
def k1 : Class := { plain "com/example/tetherd/tetherd/core/link/MacAddressUnicastPinLaw" (some 0) with
  accessFlags := 49
  interfaces := #[]
  cf := some (fileOf pool1 22 #[] #[{ accessFlags := 2, nameIndex := 5, descriptorIndex := 6, attributes := #[] }, { accessFlags := 9, nameIndex := 26, descriptorIndex := 27, attributes := #[] }] 49 2 #[] #[])
  fields := #[]
  methods := #[k1m0, k1m1]
  instanceTypes := #[]
  staticTypes := #[]
  resolved := Array.replicate 31 none
  statics := none }

def pool2 : Array CpInfo := pool [(1, .methodref 2 3), (0, .class_ 4), (0, .nameAndType 5 6), (0, u "java/lang/Object"), (0, u "<init>"), (0, u "()V"), (0, .class_ 8), (0, u "java/lang/Record")] 13

def k2c0 : Code := { maxStack := 1, maxLocals := 1, code := jdk_30_method_1_code, exceptionTable := #[], attributes := #[] }
def k2m0 : Method := { name := "<init>", desc := "()V", sig := { parameters := [], returnType := none }, accessFlags := 4, code := some k2c0 }
/-- java/lang/Record -/
def k2 : Class := { plain "java/lang/Record" (some 0) with
  accessFlags := 1057
  interfaces := #[]
  cf := some (fileOf pool2 7 #[] #[{ accessFlags := 4, nameIndex := 5, descriptorIndex := 6, attributes := #[] }] 1057 2 #[] #[])
  fields := #[]
  methods := #[k2m0]
  instanceTypes := #[]
  staticTypes := #[]
  resolved := Array.replicate 22 none
  statics := none }

def pool3 : Array CpInfo := pool [(1, .methodref 2 3), (0, .class_ 4), (0, .nameAndType 5 6), (0, u "java/lang/Record"), (0, u "<init>"), (0, u "()V"), (0, .class_ 8), (0, u "com/example/tetherd/tetherd/core/link/MacAddress"), (0, .long 18446462598732840960), (16, .fieldref 7 27), (0, .nameAndType 28 29), (0, u "bits"), (0, u "J"), (2, u "COLON_FORM"), (0, u "Ljava/util/regex/Pattern;"), (11, u "()Z"), (16, u "(J)V"), (14, .long 1099511627776), (29, u "BYTES"), (0, u "I"), (2, u "MASK"), (2, u "MULTICAST"), (0, u "LOCALLY_ADMINISTERED"), (10, u "unicast")] 35

def k3c0 : Code := { maxStack := 4, maxLocals := 3, code := prog_29_method_1_code, exceptionTable := #[], attributes := #[] }
def k3m0 : Method := { name := "<init>", desc := "(J)V", sig := { parameters := [.long], returnType := none }, accessFlags := 1, code := some k3c0 }
def k3c1 : Code := { maxStack := 4, maxLocals := 1, code := prog_29_method_4_code, exceptionTable := #[], attributes := #[] }
def k3m1 : Method := { name := "unicast", desc := "()Z", sig := { parameters := [], returnType := some .boolean }, accessFlags := 1, code := some k3c1 }
/-- com/example/tetherd/tetherd/core/link/MacAddress -/
def k3 : Class := { plain "com/example/tetherd/tetherd/core/link/MacAddress" (some 2) with
  accessFlags := 49
  interfaces := #[]
  cf := some (fileOf pool3 7 #[] #[{ accessFlags := 1, nameIndex := 5, descriptorIndex := 62, attributes := #[] }, { accessFlags := 1, nameIndex := 126, descriptorIndex := 45, attributes := #[] }] 49 2 #[] #[{ accessFlags := 18, nameIndex := 28, descriptorIndex := 29, attributes := #[] }, { accessFlags := 26, nameIndex := 107, descriptorIndex := 108, attributes := #[] }, { accessFlags := 26, nameIndex := 111, descriptorIndex := 29, attributes := #[] }, { accessFlags := 26, nameIndex := 114, descriptorIndex := 29, attributes := #[] }, { accessFlags := 26, nameIndex := 115, descriptorIndex := 29, attributes := #[] }, { accessFlags := 26, nameIndex := 32, descriptorIndex := 33, attributes := #[] }])
  fields := #[{ name := "bits", type := .long, accessFlags := 18, slot := 0, constantValue := 0 }, { name := "BYTES", type := .int, accessFlags := 26, slot := 0, constantValue := 0 }, { name := "MASK", type := .long, accessFlags := 26, slot := 1, constantValue := 0 }, { name := "MULTICAST", type := .long, accessFlags := 26, slot := 2, constantValue := 0 }, { name := "LOCALLY_ADMINISTERED", type := .long, accessFlags := 26, slot := 3, constantValue := 0 }, { name := "COLON_FORM", type := (.object "java/util/regex/Pattern"), accessFlags := 26, slot := 4, constantValue := 0 }]
  methods := #[k3m0, k3m1]
  instanceTypes := #[.long]
  staticTypes := #[.int, .long, .long, .long, (.object "java/util/regex/Pattern")]
  resolved := Array.replicate 162 none
  statics := none }

def pool4 : Array CpInfo := pool [(1, u "java/lang/Cloneable"), (0, .class_ 1), (0, u "java/lang/Object"), (0, .class_ 3)] 3

/-- java/lang/Cloneable -/
def k4 : Class := { plain "java/lang/Cloneable" (some 0) with
  accessFlags := 1537
  interfaces := #[]
  cf := some (fileOf pool4 2 #[] #[] 1537 4 #[] #[])
  fields := #[]
  methods := #[]
  instanceTypes := #[]
  staticTypes := #[]
  resolved := Array.replicate 8 none
  statics := none }

def pool5 : Array CpInfo := pool [(1, u "java/io/Serializable"), (0, .class_ 1), (0, u "java/lang/Object"), (0, .class_ 3)] 3

/-- java/io/Serializable -/
def k5 : Class := { plain "java/io/Serializable" (some 0) with
  accessFlags := 1537
  interfaces := #[]
  cf := some (fileOf pool5 2 #[] #[] 1537 4 #[] #[])
  fields := #[]
  methods := #[]
  instanceTypes := #[]
  staticTypes := #[]
  resolved := Array.replicate 8 none
  statics := none }

/-- the primitive byte -/
def k6 : Class := { plain "byte" none with kind := .primitive 'B', accessFlags := 0x411 }
/-- [B -/
def k7 : Class := { plain "[B" (some 0) with kind := .array 6 .byte, interfaces := #[4, 5], accessFlags := 1041 }

/-- the primitive int -/
def k8 : Class := { plain "int" none with kind := .primitive 'I', accessFlags := 0x411 }
/-- [I -/
def k9 : Class := { plain "[I" (some 0) with kind := .array 8 .int, interfaces := #[4, 5], accessFlags := 1041 }

def heap : Heap := #[]
def classes : Array Class := #[k0, k1, k2, k3, k4, k5, k6, k7, k8, k9]
def interned : List (Array UInt16 × Addr) := []
def slotsUsed : Nat := 0
def theMethod : MethodId := ⟨1, 1⟩
def args0 : Array Value := #[.long 5, .int 5]
def aboutOver (below : List Frame) : State where
  vm := { classes := classes, interned := interned.toArray }
  heap := heap
  slotsUsed := slotsUsed
  threads := #[{ frames := .invoking theMethod args0 :: below }]
def below0 : List Frame := [.native { method := ⟨0, 0⟩, args := #[] }]
def about1 : State := aboutOver below0
def p0 : Program := .bare "" "" ""
def e0 : Env := launch0.env 0 0 0
theorem w_frames : about1.frames = Frame.invoking theMethod args0 :: below0 := rfl
set_option maxRecDepth 65536 in
theorem w_args : argsFit about1.vm theMethod args0 = true := by decide +kernel
set_option maxRecDepth 65536 in
theorem w_heap : heapFits about1 = true := by decide +kernel
set_option maxRecDepth 65536 in
theorem w_runnable : about1.curStatus? = some .runnable := by decide +kernel
set_option maxRecDepth 65536 in
theorem w_alone : about1.alone = true := by decide +kernel
set_option maxRecDepth 65536 in
theorem w_named : about1.methodNamed? x = some theMethod := by decide +kernel
set_option maxRecDepth 65536 in
theorem w_hears : about1.hears theMethod below0 = true := by decide +kernel
set_option maxRecDepth 65536 in
theorem w_ripe : about1.ripe theMethod args0 below0 = true := by decide +kernel
theorem w_running : about1.status = .running := rfl
set_option maxRecDepth 65536 in
theorem w_room : about1.hasRoom e0.platform room_1 = true :=
  launch0.hasRoom_least _ room_1 (by decide +kernel) (by decide +kernel) (by decide +kernel) (by decide +kernel) (by decide +kernel) (by decide +kernel)
theorem allAtoms_all (ts : List Jvm.Cond) (a : Array Jvm.Value) (st : Jvm.State) : (allAtoms ts).before a st = ts.all (fun c => c.before a st) := by
  induction ts with
  | nil => rfl
  | cons c t ih =>
    show (Jvm.Cond.and c (allAtoms t)).before a st = _
    rw [Jvm.Cond.before_and, ih, List.all_cons]
def words1 : List Jvm.Cond := Jvm.Cond.code x code maxLocals ret :: tables_1
/-- a 'code' word, met by the world's own term for the bytes: nothing is compared byte by byte -/
theorem code_word {y : MethodName} {bytes : ByteArray} {mx : Nat} {rt : Option FieldType} {a : Array Value} {s : State} {m : MethodId} {meth : Method} {c : Code} (h1 : s.methodNamed? y = some m) (h2 : s.vm.method? m = some meth) (h3 : meth.code = some c) (h4 : c.code = bytes)
    (h5 : (c.maxLocals == mx && c.exceptionTable.isEmpty && decide (c.maxStack ≤ mostOperands) && decide (meth.sig.returnType = rt) && !meth.locks && decide (parseMethodDescriptor y.desc = some meth.sig)) = true) : (Jvm.Cond.code y bytes mx rt).before a s = true := by
  simp only [Bool.and_eq_true, beq_iff_eq, Bool.not_eq_true', decide_eq_true_eq] at h5
  obtain ⟨⟨⟨⟨⟨g1, g2⟩, g3⟩, g4⟩, g5⟩, g6⟩ := h5
  simp [Cond.before, Cond.holds, Cond.value, h1, h2, h3, h4, g1, g2, g3, g4, g5, g6]
def isCode : Jvm.Cond → Bool
  | .code _ _ _ _ => true
  | _ => false
theorem all_split {L : List Jvm.Cond} {P : Jvm.Cond → Bool} (h1 : L.all (fun c => isCode c || P c) = true) (h2 : ∀ c ∈ L.filter isCode, P c = true) : L.all P = true := by
  refine List.all_eq_true.mpr fun c hc => ?_
  have h := List.all_eq_true.mp h1 c hc
  rcases Bool.eq_false_or_eq_true (isCode c) with hi | hi
  · exact h2 c (List.mem_filter.mpr ⟨hc, hi⟩)
  · simpa [hi] using h
set_option maxRecDepth 65536 in
theorem w_c0 : (Jvm.Cond.code x code maxLocals ret).before args0 about1 = true := code_word (m := ⟨1, 1⟩) (meth := k1m1) (c := k1c1) (by decide +kernel) rfl rfl rfl (by decide +kernel)
set_option maxRecDepth 65536 in
theorem w_c1 : (Jvm.Cond.code ({ cls := "com/example/tetherd/tetherd/core/link/MacAddress", name := "<init>", desc := "(J)V" } : Jvm.MethodName) prog_29_method_1_code (3 : Nat) (Option.none : Option Jvm.ClassFile.FieldType)).before args0 about1 = true := code_word (m := ⟨3, 0⟩) (meth := k3m0) (c := k3c0) (by decide +kernel) rfl rfl rfl (by decide +kernel)
set_option maxRecDepth 65536 in
theorem w_c2 : (Jvm.Cond.code ({ cls := "java/lang/Record", name := "<init>", desc := "()V" } : Jvm.MethodName) jdk_30_method_1_code (1 : Nat) (Option.none : Option Jvm.ClassFile.FieldType)).before args0 about1 = true := code_word (m := ⟨2, 0⟩) (meth := k2m0) (c := k2c0) (by decide +kernel) rfl rfl rfl (by decide +kernel)
set_option maxRecDepth 65536 in
theorem w_c3 : (Jvm.Cond.code ({ cls := "java/lang/Object", name := "<init>", desc := "()V" } : Jvm.MethodName) object_method_1_code (1 : Nat) (Option.none : Option Jvm.ClassFile.FieldType)).before args0 about1 = true := code_word (m := ⟨0, 0⟩) (meth := k0m0) (c := k0c0) (by decide +kernel) rfl rfl rfl (by decide +kernel)
set_option maxRecDepth 65536 in
theorem w_c4 : (Jvm.Cond.code ({ cls := "com/example/tetherd/tetherd/core/link/MacAddress", name := "unicast", desc := "()Z" } : Jvm.MethodName) prog_29_method_4_code (1 : Nat) (Option.some Jvm.ClassFile.FieldType.boolean)).before args0 about1 = true := code_word (m := ⟨3, 1⟩) (meth := k3m1) (c := k3c1) (by decide +kernel) rfl rfl rfl (by decide +kernel)
def codes1 : List Jvm.Cond := [Jvm.Cond.code x code maxLocals ret, Jvm.Cond.code ({ cls := "com/example/tetherd/tetherd/core/link/MacAddress", name := "<init>", desc := "(J)V" } : Jvm.MethodName) prog_29_method_1_code (3 : Nat) (Option.none : Option Jvm.ClassFile.FieldType), Jvm.Cond.code ({ cls := "java/lang/Record", name := "<init>", desc := "()V" } : Jvm.MethodName) jdk_30_method_1_code (1 : Nat) (Option.none : Option Jvm.ClassFile.FieldType), Jvm.Cond.code ({ cls := "java/lang/Object", name := "<init>", desc := "()V" } : Jvm.MethodName) object_method_1_code (1 : Nat) (Option.none : Option Jvm.ClassFile.FieldType), Jvm.Cond.code ({ cls := "com/example/tetherd/tetherd/core/link/MacAddress", name := "unicast", desc := "()Z" } : Jvm.MethodName) prog_29_method_4_code (1 : Nat) (Option.some Jvm.ClassFile.FieldType.boolean)]
set_option maxRecDepth 65536 in
theorem codes_eq : words1.filter isCode = codes1 := rfl
theorem w_codes : ∀ c ∈ words1.filter isCode, c.before args0 about1 = true := by
  rw [codes_eq]
  intro c hc
  simp only [codes1, List.mem_cons, List.not_mem_nil, or_false] at hc
  rcases hc with rfl | rfl | rfl | rfl | rfl
  · exact w_c0
  · exact w_c1
  · exact w_c2
  · exact w_c3
  · exact w_c4
set_option maxRecDepth 65536 in
theorem w_t1 : (words1.take 24).all (fun c => isCode c || c.before args0 about1) = true := by decide +kernel
set_option maxRecDepth 65536 in
theorem w_t2 : (words1.drop 24).all (fun c => isCode c || c.before args0 about1) = true := by decide +kernel
theorem w_tables : (allAtoms (Jvm.Cond.code x code maxLocals ret :: tables_1)).before args0 about1 = true := by
  rw [allAtoms_all]
  show words1.all (fun c => c.before args0 about1) = true
  refine all_split ?_ w_codes
  rw [← List.take_append_drop 24 words1, List.all_append, w_t1, w_t2]
  rfl
set_option maxRecDepth 65536 in
theorem w_case : (Jvm.Cond.and given_1 narrow_1).before args0 about1 = true := by decide +kernel
theorem w_applies : (headSpec (Jvm.Cond.code x code maxLocals ret :: tables_1) room_1).applies x e0.platform about1 = true :=
  (Spec.applies_iff w_frames).mpr ⟨w_running, w_runnable, w_alone, w_named, w_hears, w_ripe, w_room, w_tables⟩
theorem atStart : AtStart classFile x code maxLocals ret World_1 tables_1 room_1 Calls_1 rest_1 Pre_1 launch0 p0 e0 about1 theMethod args0 below0 :=
  ⟨lists_1, trivial, launch0.admits_env _ _ _, launch0.least_env, fairChoices_fair.cas, fairChoices_fair.clock, w_frames, w_args, w_heap, w_applies, trivial, trivial, w_case⟩
end start1
theorem witness_1 : WitnessClaimed_1 := ⟨start1.p0, start1.e0, start1.about1, start1.theMethod, start1.args0, start1.below0, start1.atStart⟩
end Jvm.Pilot.@@N@@
