import JvmDerived
import JvmDerived.Pilot.@@N@@Statement
import JvmDerived.Pilot.@@N@@Code
set_option linter.unusedVariables false
set_option linter.unusedSimpArgs false
namespace Jvm.RoadKit
open Sem ClassFile Op Lib Jvm.Stand Jvm.Free Jvm.LawKit
section New
variable {p : Program} {l : Launch} {e : Env} {R : Room} {s : State} {m : MethodId} {args : Array Value} {below : List Frame} {meth : Method} {c : Code} {T : State} {locs : List Loc} {cells slots : Nat}
theorem retI (X : Stand p l e R s m args below meth c T locs cells slots) (hx : p.tables.exec = Jvm.exec) {pc : Nat} {Ls : Array Slot} {z : Int32} {rest : List Value} (hret : meth.sig.returnType = some .int) (hd : decode c.code pc = .ok (.ireturn, 1)) {fs : List Frame}
    (hl : ∀ (f : JFrame) (acts : List Action), f.method = m → f.locked = none → f.entered = [] → (doReturn e (T.setTop f) acts (some (.int z))).1 = T.setFrames fs) : Steps p.tables e below (T.setTop (mkF m pc Ls (.int z :: rest))) (T.setFrames fs) := by
  have hm' : T.vm.method? m = some meth := X.method'
  have hn : narrow .int (.int z) = .int z := rfl
  show Steps p.tables e below (T.setTop { method := m, pc := pc, locals := Ls, stack := _ :: rest, locked := none }) _
  jvm_step X.here [X.here.top, hx, hd, hm', hret, hn]
  first | (intro acts; rw [hl _ acts rfl rfl rfl]) | rw [hl _ _ rfl rfl rfl]
  exact Steps.refl _
theorem retA (X : Stand p l e R s m args below meth c T locs cells slots) (hx : p.tables.exec = Jvm.exec) {pc : Nat} {Ls : Array Slot} {z : Addr} {rest : List Value} {t : FieldType} (hret : meth.sig.returnType = some t) (ht : t.isReference = true) (hd : decode c.code pc = .ok (.areturn, 1)) {fs : List Frame}
    (hl : ∀ (f : JFrame) (acts : List Action), f.method = m → f.locked = none → f.entered = [] → (doReturn e (T.setTop f) acts (some (.ref z))).1 = T.setFrames fs) : Steps p.tables e below (T.setTop (mkF m pc Ls (.ref z :: rest))) (T.setFrames fs) := by
  have hm' : T.vm.method? m = some meth := X.method'
  show Steps p.tables e below (T.setTop { method := m, pc := pc, locals := Ls, stack := _ :: rest, locked := none }) _
  jvm_step X.here [X.here.top, hx, hd, hm', hret, ht, Value.isRef]
  first | (intro acts; rw [hl _ acts rfl rfl rfl]) | rw [hl _ _ rfl rfl rfl]
  exact Steps.refl _
theorem retJ (X : Stand p l e R s m args below meth c T locs cells slots) (hx : p.tables.exec = Jvm.exec) {pc : Nat} {Ls : Array Slot} {z : Int64} {rest : List Value} (hret : meth.sig.returnType = some .long) (hd : decode c.code pc = .ok (.lreturn, 1)) {fs : List Frame}
    (hl : ∀ (f : JFrame) (acts : List Action), f.method = m → f.locked = none → f.entered = [] → (doReturn e (T.setTop f) acts (some (.long z))).1 = T.setFrames fs) : Steps p.tables e below (T.setTop (mkF m pc Ls (.long z :: rest))) (T.setFrames fs) := by
  have hm' : T.vm.method? m = some meth := X.method'
  show Steps p.tables e below (T.setTop { method := m, pc := pc, locals := Ls, stack := _ :: rest, locked := none }) _
  jvm_step X.here [X.here.top, hx, hd, hm', hret]
  first | (intro acts; rw [hl _ acts rfl rfl rfl]) | rw [hl _ _ rfl rfl rfl]
  exact Steps.refl _
end New
end Jvm.RoadKit
namespace Jvm.Pilot.@@N@@
open Jvm Jvm.ClassFile Sem Op Lib Jvm.Free Jvm.Stand Jvm.LawKit Jvm.RoadKit Bundle Jvm.Pilot.@@N@@.Jvm.D
/-! My own frame of a walk: 'Done' says: from this frame the run ends, and Q holds of what came back, of the heap, and of the places written. -/
def Done (p : Program) (e : Env) (below : List Frame) (s : State) (R : Room) (Q : Option Value → Heap → List Loc → Prop) (T : State) (g : JFrame) : Prop :=
  ∃ s₂ o, Steps p.tables e below (T.setTop g) s₂ ∧ s₂.status = .running ∧ Ended s₂ below o ∧ ∃ v L, o = .returned v ∧ Q v s₂.heap L ∧ FrameEnd s o s₂ L R.cells R.slots
def Qp (h0 : Heap) (n0 : Nat) (z : Value) (v : Option Value) (h : Heap) (L : List Loc) : Prop := v = some z ∧ Fr n0 L ∧ h = h0
def Qv (h0 : Heap) (n0 : Nat) (v : Option Value) (h : Heap) (L : List Loc) : Prop := v = none ∧ Fr n0 L ∧ h = h0
def Ql (n0 : Nat) (z : Value) (v : Option Value) (h : Heap) (L : List Loc) : Prop := v = some z ∧ Fr n0 L
theorem Done.of {p : Program} {e : Env} {below : List Frame} {s : State} {R : Room} {Q : Option Value → Heap → List Loc → Prop} {T T' : State} {g g' : JFrame}
    (st : ∀ t, Steps p.tables e below (T'.setTop g') t → Steps p.tables e below (T.setTop g) t) (d : Done p e below s R Q T' g') : Done p e below s R Q T g := by
  obtain ⟨s₂, o, h1, h2⟩ := d
  exact ⟨s₂, o, st _ h1, h2⟩
section Ends
variable {p : Program} {l : Launch} {e : Env} {R : Room} {s : State} {m : MethodId} {args : Array Value} {below : List Frame} {meth : Method} {c : Code} {T : State} {locs : List Loc} {cells slots : Nat} {Q : Option Value → Heap → List Loc → Prop}
theorem doneI (X : Stand p l e R s m args below meth c T locs cells slots) (hx : p.tables.exec = Jvm.exec) {pc : Nat} {Ls : Array Slot} {z : Int32} {rest : List Value} (hret : meth.sig.returnType = some .int) (hlk : meth.locks = false) (hd : decode c.code pc = .ok (.ireturn, 1))
    (hQ : Q (some (.int z)) T.heap locs) (hc : cells ≤ R.cells) (hs : slots ≤ R.slots) : Done p e below s R Q T (mkF m pc Ls (.int z :: rest)) := by
  obtain ⟨fs, hr, hrun, hended, hW, hsame⟩ := X.leave (v := some (.int z)) (fun h => by rw [hret] at h; cases h) hlk
  exact ⟨_, _, retI X hx hret hd hr, hrun, hended, _, _, rfl, hQ, ⟨_, rfl⟩, hW, hsame.mono hc hs⟩
theorem doneN (t : FieldType) (X : Stand p l e R s m args below meth c T locs cells slots) (ht : t = .boolean ∨ t = .byte ∨ t = .char ∨ t = .short) (hx : p.tables.exec = Jvm.exec) {pc : Nat} {Ls : Array Slot} {z : Int32} {rest : List Value} (hret : meth.sig.returnType = some t) (hlk : meth.locks = false) (hd : decode c.code pc = .ok (.ireturn, 1))
    (hQ : Q (some (.int (nar t z))) T.heap locs) (hc : cells ≤ R.cells) (hs : slots ≤ R.slots) : Done p e below s R Q T (mkF m pc Ls (.int z :: rest)) := by
  obtain ⟨fs, hr, hrun, hended, hW, hsame⟩ := X.leave (v := some (.int (nar t z))) (fun h => by rw [hret] at h; cases h) hlk
  exact ⟨_, _, retN X hx hret ht hd hr, hrun, hended, _, _, rfl, hQ, ⟨_, rfl⟩, hW, hsame.mono hc hs⟩
theorem doneJ (X : Stand p l e R s m args below meth c T locs cells slots) (hx : p.tables.exec = Jvm.exec) {pc : Nat} {Ls : Array Slot} {z : Int64} {rest : List Value} (hret : meth.sig.returnType = some .long) (hlk : meth.locks = false) (hd : decode c.code pc = .ok (.lreturn, 1))
    (hQ : Q (some (.long z)) T.heap locs) (hc : cells ≤ R.cells) (hs : slots ≤ R.slots) : Done p e below s R Q T (mkF m pc Ls (.long z :: rest)) := by
  obtain ⟨fs, hr, hrun, hended, hW, hsame⟩ := X.leave (v := some (.long z)) (fun h => by rw [hret] at h; cases h) hlk
  exact ⟨_, _, retJ X hx hret hd hr, hrun, hended, _, _, rfl, hQ, ⟨_, rfl⟩, hW, hsame.mono hc hs⟩
theorem doneA (X : Stand p l e R s m args below meth c T locs cells slots) (hx : p.tables.exec = Jvm.exec) {pc : Nat} {Ls : Array Slot} {z : Addr} {rest : List Value} {t : FieldType} (hret : meth.sig.returnType = some t) (ht : t.isReference = true) (hlk : meth.locks = false) (hd : decode c.code pc = .ok (.areturn, 1))
    (hQ : Q (some (.ref z)) T.heap locs) (hc : cells ≤ R.cells) (hs : slots ≤ R.slots) : Done p e below s R Q T (mkF m pc Ls (.ref z :: rest)) := by
  obtain ⟨fs, hr, hrun, hended, hW, hsame⟩ := X.leave (v := some (.ref z)) (fun h => by rw [hret] at h; cases h) hlk
  exact ⟨_, _, retA X hx hret ht hd hr, hrun, hended, _, _, rfl, hQ, ⟨_, rfl⟩, hW, hsame.mono hc hs⟩
theorem doneV (X : Stand p l e R s m args below meth c T locs cells slots) (hx : p.tables.exec = Jvm.exec) {pc : Nat} {Ls : Array Slot} (hret : meth.sig.returnType = none) (hlk : meth.locks = false) (hd : decode c.code pc = .ok (.return_, 1))
    (hQ : Q none T.heap locs) (hc : cells ≤ R.cells) (hs : slots ≤ R.slots) : Done p e below s R Q T (mkF m pc Ls []) := by
  obtain ⟨fs, hr, hrun, hended, hW, hsame⟩ := X.leave (v := none) (fun _ => rfl) hlk
  exact ⟨_, _, X.returnOut hx hret hd hr, hrun, hended, _, _, rfl, hQ, ⟨_, rfl⟩, hW, hsame.mono hc hs⟩
end Ends
theorem lcLt_t {x y : Int64} (h : x < y) : ifCond.holds .lt (lcmpW x y) = true ∧ ifCond.holds .ge (lcmpW x y) = false := ⟨(if0 _ _).trans (tlt ((lw_lt x y).mpr h)).1, (if0 _ _).trans (tlt ((lw_lt x y).mpr h)).2.1⟩
theorem lcLt_f {x y : Int64} (h : ¬ x < y) : ifCond.holds .lt (lcmpW x y) = false ∧ ifCond.holds .ge (lcmpW x y) = true := ⟨(if0 _ _).trans (flt (fun q => h ((lw_lt x y).mp q))).1, (if0 _ _).trans (flt (fun q => h ((lw_lt x y).mp q))).2.1⟩
theorem lcGt_t {x y : Int64} (h : y < x) : ifCond.holds .gt (lcmpW x y) = true ∧ ifCond.holds .le (lcmpW x y) = false := ⟨(if0 _ _).trans (tlt ((lw_gt x y).mpr h)).2.2.1, (if0 _ _).trans (tlt ((lw_gt x y).mpr h)).2.2.2⟩
theorem lcGt_f {x y : Int64} (h : ¬ y < x) : ifCond.holds .gt (lcmpW x y) = false ∧ ifCond.holds .le (lcmpW x y) = true := ⟨(if0 _ _).trans (flt (fun q => h ((lw_gt x y).mp q))).2.2.1, (if0 _ _).trans (flt (fun q => h ((lw_gt x y).mp q))).2.2.2⟩
theorem lcEq_t {x y : Int64} (h : x = y) : ifCond.holds .eq (lcmpW x y) = true ∧ ifCond.holds .ne (lcmpW x y) = false := ⟨(if0 _ _).trans (teq ((lw_eq x y).mpr h)).1, (if0 _ _).trans (teq ((lw_eq x y).mpr h)).2⟩
theorem lcEq_f {x y : Int64} (h : ¬ x = y) : ifCond.holds .eq (lcmpW x y) = false ∧ ifCond.holds .ne (lcmpW x y) = true := ⟨(if0 _ _).trans (feq (fun q => h ((lw_eq x y).mp q))).1, (if0 _ _).trans (feq (fun q => h ((lw_eq x y).mp q))).2⟩
theorem own_selP {s : State} {args : Array Value} {y : MethodName} {n : Nat} (hins : (Cond.instantiable y.cls n).before args s = true) (hpriv : (Cond.privateMethod y).before args s = true) (hinst : (Cond.instanceMethod y).before args s = true) (hy : y.cls ≠ "java/lang/invoke/MethodHandle" ∧ y.cls ≠ "java/lang/invoke/VarHandle") :
    (Cond.selects y.cls y y).before args s = true := by
  obtain ⟨c, k, hc, hk, -, hniab, -, -⟩ := Cond.instantiable_spec hins
  exact selects_self_of_private hc hk (Bool.or_eq_false_iff.mp hniab).1 (Cond.privateMethod_at hpriv) hinst hy
theorem own_hat {c : Cell} {vs : List Int32} {j : Int32} (H : Has c (vs.map Value.int) (.int (0 : Int32))) (hin : ¬ (j < 0 ∨ c.slots.size ≤ j.toNatClampNeg)) : c.slots[j.toNatClampNeg]? = some (.int (vs.getD j.toNatClampNeg 0)) := by
  rw [H j.toNatClampNeg (Nat.lt_of_not_le fun q => hin (Or.inr q))]
  simp only [List.getD_eq_getElem?_getD, List.getElem?_map]
  cases vs[j.toNatClampNeg]? <;> rfl
theorem own_fin {n : Nat} (c : Int32) (h0 : 0 ≤ c.toInt) (h1 : c.toInt < n) : ∃ i : Fin n, c = Int32.ofInt (i.1 : Int) :=
  ⟨⟨c.toInt.toNat, by omega⟩, by show c = Int32.ofInt ((c.toInt.toNat : Nat) : Int); rw [Int.toNat_of_nonneg h0]; exact (Int32.ofInt_toInt c).symm⟩
theorem d1_0 : decode prog_5_method_3_code 0 = .ok (.lload_n 0, 1) := by decide +kernel
theorem d1_1 : decode prog_5_method_3_code 1 = .ok (.lload_n 2, 1) := by decide +kernel
theorem d1_2 : decode prog_5_method_3_code 2 = .ok (.lcmp, 1) := by decide +kernel
theorem d1_3 : decode prog_5_method_3_code 3 = .ok (.ifCond .gt 7, 3) := by decide +kernel
theorem d1_6 : decode prog_5_method_3_code 6 = .ok (.iconst 1, 1) := by decide +kernel
theorem d1_7 : decode prog_5_method_3_code 7 = .ok (.goto 4, 3) := by decide +kernel
theorem d1_10 : decode prog_5_method_3_code 10 = .ok (.iconst 0, 1) := by decide +kernel
theorem d1_11 : decode prog_5_method_3_code 11 = .ok (.ireturn, 1) := by decide +kernel
def F1_0 (q1 : Int64) (q2 : Int64) : Int32 := (if q2 < q1 then (0 : Int32) else (1 : Int32))
set_option maxRecDepth 65536 in
set_option maxHeartbeats 40000000 in
theorem bk1_0 {p : Program} {l : Launch} {e : Env} {s : State} {m : MethodId} {args : Array Value} {below : List Frame} {meth : Method} {c : Code} {T0 : State} {locs : List Loc} {Z : State} {a0 : Array Value} {h0 : Heap} {n0 : Nat}
    (hx : p.tables.exec = Jvm.exec) (hZ : Z.Warmed39 s.vm) (hw : ∀ d ∈ tables_1, d.before a0 Z = true) (hby : c.code = prog_5_method_3_code) (hml : c.maxLocals = 4) (hown : s.vm.findClass "com/example/noreply/noreply/engine/Expiration" = some m.cls) (hnm : meth.name = "isExpired") (hret : meth.sig.returnType = some .boolean) (hlk : meth.locks = false)
    (X0 : Stand p l e ({ frames := 0, cells := 0, slots := 0, locals := 0 } : Room) s m args below meth c T0 locs 0 0) (N0 : Fr n0 locs) (e0 : T0.heap = h0) (q1 : Int64) (q2 : Int64) :
    Done p e below s ({ frames := 0, cells := 0, slots := 0, locals := 0 } : Room) (Qp h0 n0 (.int (F1_0 q1 q2))) T0 (mkF m 0 #[.val (.long q1), .second, .val (.long q2), .second] []) := by
  unfold F1_0
  refine Done.of (T' := T0) (g' := (mkF m 3 #[.val (.long q1), .second, .val (.long q2), .second] [(.int (lcmpW q1 q2))])) (fun t k => ?_) ?_
  · show Steps p.tables e below (T0.setTop (mkF m 0 #[.val (.long q1), .second, .val (.long q2), .second] [])) t
    refine XS.lloadN X0.here hx rfl (hb hby d1_0) rfl ?_
    show Steps p.tables e below (T0.setTop (mkF m 1 #[.val (.long q1), .second, .val (.long q2), .second] [(.long q1)])) t
    refine XS.lloadN X0.here hx rfl (hb hby d1_1) rfl ?_
    show Steps p.tables e below (T0.setTop (mkF m 2 #[.val (.long q1), .second, .val (.long q2), .second] [(.long q2), (.long q1)])) t
    refine XS.lcmp X0.here hx rfl (hb hby d1_2) rfl ?_
    exact k
  by_cases hc3_0 : q2 < q1
  · rw [if_pos hc3_0]
    refine Done.of (T' := T0) (g' := (mkF m 11 #[.val (.long q1), .second, .val (.long q2), .second] [(.int (0 : Int32))])) (fun t k => ?_) ?_
    · show Steps p.tables e below (T0.setTop (mkF m 3 #[.val (.long q1), .second, .val (.long q2), .second] [(.int (lcmpW q1 q2))])) t
      refine XS.ifYes X0.here hx rfl (pc0 := 3) (pc' := 10) rfl (hb hby d1_3) rfl (lcGt_t hc3_0).1 (by decide) (by decide) ?_
      show Steps p.tables e below (T0.setTop (mkF m 10 #[.val (.long q1), .second, .val (.long q2), .second] [])) t
      refine XS.iconst X0.here hx rfl (hb hby d1_10) ?_
      exact k
    exact doneN (t := .boolean) X0 (by simp) hx hret hlk (hb hby d1_11) ⟨rfl, N0, e0⟩ (by decide) (by decide)
  · rw [if_neg hc3_0]
    refine Done.of (T' := T0) (g' := (mkF m 11 #[.val (.long q1), .second, .val (.long q2), .second] [(.int (1 : Int32))])) (fun t k => ?_) ?_
    · show Steps p.tables e below (T0.setTop (mkF m 3 #[.val (.long q1), .second, .val (.long q2), .second] [(.int (lcmpW q1 q2))])) t
      refine XS.ifNo X0.here hx rfl (hb hby d1_3) rfl (lcGt_f hc3_0).1 ?_
      show Steps p.tables e below (T0.setTop (mkF m 6 #[.val (.long q1), .second, .val (.long q2), .second] [])) t
      refine XS.iconst X0.here hx rfl (hb hby d1_6) ?_
      show Steps p.tables e below (T0.setTop (mkF m 7 #[.val (.long q1), .second, .val (.long q2), .second] [(.int (1 : Int32))])) t
      refine XS.goto X0.here hx rfl (pc0 := 7) (pc' := 11) rfl (hb hby d1_7) (by decide) (by decide) ?_
      exact k
    exact doneN (t := .boolean) X0 (by simp) hx hret hlk (hb hby d1_11) ⟨rfl, N0, e0⟩ (by decide) (by decide)
theorem ef_1 (m : MethodId) (q1 : Int64) (q2 : Int64) : entryFrame m #[(.long q1), (.long q2)] 4 = mkF m 0 #[.val (.long q1), .second, .val (.long q2), .second] [] := by first | (simp [entryFrame, mkF, argsToLocals, Value.category, maxLocals]; done) | rfl
theorem pn_1 : plainName "com/example/noreply/noreply/engine/Expiration" = true := by first | (simp [plainName, overriddenIn]; done) | decide +kernel
set_option maxRecDepth 65536 in
set_option maxHeartbeats 40000000 in
theorem rm1 (l : Launch) (Z : State) (a0 : Array Value) (hw : ∀ d ∈ tables_1, d.before a0 Z = true) (ws : List Jvm.Cond) (q1 : Int64) (q2 : Int64) (h0 : Heap) (n0 : Nat) :
    MetFree l (⟨"com/example/noreply/noreply/engine/Expiration", "isExpired", "(JJ)Z"⟩ : MethodName) (head1 (Jvm.Cond.code (⟨"com/example/noreply/noreply/engine/Expiration", "isExpired", "(JJ)Z"⟩ : MethodName) prog_5_method_3_code 4 (some .boolean) :: ws) ({ frames := 0, cells := 0, slots := 0, locals := 0 } : Room)) (fun a U => a = #[(.long q1), (.long q2)] ∧ Z.Warmed39 U.vm ∧ U.heap = h0) (fun _ _ _ _ _ => True) (fun _ U o U' => ∃ v L, o = .returned v ∧ (Qp h0 n0 (.int (F1_0 q1 q2))) v U'.heap L ∧ FrameEnd U o U' L ({ frames := 0, cells := 0, slots := 0, locals := 0 } : Room).cells ({ frames := 0, cells := 0, slots := 0, locals := 0 } : Room).slots) := by
  refine MetFree.of_bodySF (plainFor_of_name pn_1) hisR ?_
  intro p e s m args below meth c s₁ Bd hml0 hP hK
  obtain ⟨rfl, hZ, hh⟩ := hP
  have hown : s.vm.findClass "com/example/noreply/noreply/engine/Expiration" = some m.cls := findClass_of_methodNamed Bd.named
  have hnm := (name_of_methodNamed Bd.named Bd.method).1
  have X0 : Stand p l e ({ frames := 0, cells := 0, slots := 0, locals := 0 } : Room) s m #[(.long q1), (.long q2)] below meth c s₁ [] 0 0 := Stand.of_body Bd
  have e0 : s₁.heap = h0 := by rw [← hh, Bd.state]; rfl
  have d := bk1_0 (n0 := n0) Bd.exec hZ hw Bd.bytes hml0 hown hnm Bd.returns (BodyLoose.notSynchronized Bd) X0 (Fr.nil n0) e0 q1 q2
  have d2 : Done p e below s ({ frames := 0, cells := 0, slots := 0, locals := 0 } : Room) (Qp h0 n0 (.int (F1_0 q1 q2))) s₁ (entryFrame m #[(.long q1), (.long q2)] 4) := by rw [ef_1]; exact d
  exact d2
theorem pd_0 : parseMethodDescriptor "(JJ)Z" = some ⟨[.long, .long], some .boolean⟩ := by decide +kernel
def F0_131 (j0 : Int64) (j2 : Int64) (j4 : Int64) (i6 : Int32) (i7 : Int32) (x0 : Int32) (x1 : Int32) : Int32 := (if x1 = x0 then (1 : Int32) else (0 : Int32))
set_option maxRecDepth 65536 in
set_option maxHeartbeats 40000000 in
theorem bk0_131 {p : Program} {l : Launch} {e : Env} {s : State} {m : MethodId} {args : Array Value} {below : List Frame} {meth : Method} {c : Code} {T0 : State} {locs : List Loc} {Z : State} {a0 : Array Value} {h0 : Heap} {n0 : Nat}
    (hx : p.tables.exec = Jvm.exec) (hZ : Z.Warmed39 s.vm) (hw : ∀ d ∈ tables_1, d.before a0 Z = true) (hby : c.code = code) (hml : c.maxLocals = 8) (hown : s.vm.findClass "com/example/noreply/noreply/engine/ExpirationIsExpiredPinLaw" = some m.cls) (hnm : meth.name = "law") (hret : meth.sig.returnType = some .boolean) (hlk : meth.locks = false)
    (X0 : Stand p l e room_1 s m args below meth c T0 locs 0 0) (N0 : Fr n0 locs) (e0 : T0.heap = h0) (j0 : Int64) (j2 : Int64) (j4 : Int64) (i6 : Int32) (i7 : Int32) (x0 : Int32) (x1 : Int32) :
    Done p e below s room_1 (Ql n0 (.int (F0_131 j0 j2 j4 i6 i7 x0 x1))) T0 (mkF m 131 #[.val (.long j0), .second, .val (.long j2), .second, .val (.long j4), .second, .val (.int i6), .val (.int i7)] [(.int x0), (.int x1)]) := by
  unfold F0_131
  by_cases hc131_0 : x1 = x0
  · rw [if_pos hc131_0]
    refine Done.of (T' := T0) (g' := (mkF m 137 #[.val (.long j0), .second, .val (.long j2), .second, .val (.long j4), .second, .val (.int i6), .val (.int i7)] [(.int (1 : Int32))])) (fun t k => ?_) ?_
    · show Steps p.tables e below (T0.setTop (mkF m 131 #[.val (.long j0), .second, .val (.long j2), .second, .val (.long j4), .second, .val (.int i6), .val (.int i7)] [(.int x0), (.int x1)])) t
      refine XS.icmpYes X0.here hx rfl (pc0 := 131) (pc' := 136) rfl (hb hby at_131) rfl (teq hc131_0).1 (by decide) (by decide) ?_
      show Steps p.tables e below (T0.setTop (mkF m 136 #[.val (.long j0), .second, .val (.long j2), .second, .val (.long j4), .second, .val (.int i6), .val (.int i7)] [])) t
      refine XS.iconst X0.here hx rfl (hb hby at_136) ?_
      exact k
    exact doneN (t := .boolean) X0 (by simp) hx hret hlk (hb hby at_137) ⟨rfl, N0⟩ (by decide) (by decide)
  · rw [if_neg hc131_0]
    refine Done.of (T' := T0) (g' := (mkF m 135 #[.val (.long j0), .second, .val (.long j2), .second, .val (.long j4), .second, .val (.int i6), .val (.int i7)] [(.int (0 : Int32))])) (fun t k => ?_) ?_
    · show Steps p.tables e below (T0.setTop (mkF m 131 #[.val (.long j0), .second, .val (.long j2), .second, .val (.long j4), .second, .val (.int i6), .val (.int i7)] [(.int x0), (.int x1)])) t
      refine XS.icmpNo X0.here hx rfl (hb hby at_131) rfl (feq hc131_0).1 ?_
      show Steps p.tables e below (T0.setTop (mkF m 134 #[.val (.long j0), .second, .val (.long j2), .second, .val (.long j4), .second, .val (.int i6), .val (.int i7)] [])) t
      refine XS.iconst X0.here hx rfl (hb hby at_134) ?_
      exact k
    exact doneN (t := .boolean) X0 (by simp) hx hret hlk (hb hby at_135) ⟨rfl, N0⟩ (by decide) (by decide)
def F0_99 (j0 : Int64) (j2 : Int64) (j4 : Int64) (i6 : Int32) (i7 : Int32) : Int32 := (if (F1_0 (-9223372036854775808 : Int64) j2) = (0 : Int32) then (0 : Int32) else (if j2 = (9223372036854775807 : Int64) then (F0_131 j0 j2 j4 i6 i7 (1 : Int32) (F1_0 (9223372036854775807 : Int64) j2)) else (F0_131 j0 j2 j4 i6 i7 (0 : Int32) (F1_0 (9223372036854775807 : Int64) j2))))
set_option maxRecDepth 65536 in
set_option maxHeartbeats 40000000 in
theorem bk0_99 {p : Program} {l : Launch} {e : Env} {s : State} {m : MethodId} {args : Array Value} {below : List Frame} {meth : Method} {c : Code} {T0 : State} {locs : List Loc} {Z : State} {a0 : Array Value} {h0 : Heap} {n0 : Nat}
    (hx : p.tables.exec = Jvm.exec) (hZ : Z.Warmed39 s.vm) (hw : ∀ d ∈ tables_1, d.before a0 Z = true) (hby : c.code = code) (hml : c.maxLocals = 8) (hown : s.vm.findClass "com/example/noreply/noreply/engine/ExpirationIsExpiredPinLaw" = some m.cls) (hnm : meth.name = "law") (hret : meth.sig.returnType = some .boolean) (hlk : meth.locks = false)
    (X0 : Stand p l e room_1 s m args below meth c T0 locs 0 0) (N0 : Fr n0 locs) (e0 : T0.heap = h0) (j0 : Int64) (j2 : Int64) (j4 : Int64) (i6 : Int32) (i7 : Int32) :
    Done p e below s room_1 (Ql n0 (.int (F0_99 j0 j2 j4 i6 i7))) T0 (mkF m 99 #[.val (.long j0), .second, .val (.long j2), .second, .val (.long j4), .second, .val (.int i6), .val (.int i7)] []) := by
  unfold F0_99
  refine Done.of (T' := T0) (g' := (mkF m 103 #[.val (.long j0), .second, .val (.long j2), .second, .val (.long j4), .second, .val (.int i6), .val (.int i7)] [(.long j2), (.long (-9223372036854775808 : Int64))])) (fun t k => ?_) ?_
  · show Steps p.tables e below (T0.setTop (mkF m 99 #[.val (.long j0), .second, .val (.long j2), .second, .val (.long j4), .second, .val (.int i6), .val (.int i7)] [])) t
    refine X0.ldc2Long hx hown (mvT hZ (hw _ (List.mem_of_getElem? (i := 5) rfl))) (g := (mkF m 99 #[.val (.long j0), .second, .val (.long j2), .second, .val (.long j4), .second, .val (.int i6), .val (.int i7)] [])) rfl (hb hby at_99) _ ?_
    show Steps p.tables e below (T0.setTop (mkF m 102 #[.val (.long j0), .second, .val (.long j2), .second, .val (.long j4), .second, .val (.int i6), .val (.int i7)] [(.long (-9223372036854775808 : Int64))])) t
    refine XS.lloadN X0.here hx rfl (hb hby at_102) rfl ?_
    exact k
  obtain ⟨_, _, ⟨T1, L1, k1, n1⟩, -, X1, ⟨Lc1, hQ1, l1, y1, z1⟩, st1⟩ := Jvm.LawKit.callS X0 hx (y := (⟨"com/example/noreply/noreply/engine/Expiration", "isExpired", "(JJ)Z"⟩ : MethodName)) hown (mvT hZ (hw _ (List.mem_of_getElem? (i := 0) rfl))) (mvT hZ (hw _ (List.mem_of_getElem? (i := 1) rfl))) (mvT hZ (hw _ (List.mem_of_getElem? (i := 2) rfl))) (mvT hZ (hw _ (List.mem_of_getElem? (i := 3) rfl))) (by decide) (backOf (W := 0) (rm1 l Z a0 hw [] (-9223372036854775808 : Int64) j2 h0 n0) hZ (hw _ (List.mem_of_getElem? (i := 3) rfl)) (hw _ (List.mem_of_getElem? (i := 2) rfl)) (by decide) (by decide)) (g := (mkF m 103 #[.val (.long j0), .second, .val (.long j2), .second, .val (.long j4), .second, .val (.int i6), .val (.int i7)] [(.long j2), (.long (-9223372036854775808 : Int64))])) rfl (by rw [hml]; rfl) (argsL := [(.long (-9223372036854775808 : Int64)), (.long j2)]) (rest := []) (lenOf pd_0 rfl) rfl (by show 2 * 0 + _ ≤ _; exact Nat.le_of_eq rfl) (hb hby at_103) (fun _ _ => ⟨rfl, e0, (by decide : 0 + 0 ≤ _), (by decide : 0 + 0 ≤ _)⟩)
  dsimp only [Pt.U, Pt.locs, Pt.cells, Pt.slots] at X1 l1 y1 z1 st1 hQ1
  subst l1 y1 z1
  obtain ⟨rfl, N1q, e1⟩ := hQ1
  have N1 := Fr.app N0 N1q
  replace X1 : Stand p l e room_1 s m args below meth c T1 _ 0 0 := X1
  refine Done.of (g' := (mkF m 106 #[.val (.long j0), .second, .val (.long j2), .second, .val (.long j4), .second, .val (.int i6), .val (.int i7)] [(.int (F1_0 (-9223372036854775808 : Int64) j2))])) st1 ?_
  by_cases hc106_1 : (F1_0 (-9223372036854775808 : Int64) j2) = (0 : Int32)
  · rw [if_pos hc106_1]
    refine Done.of (T' := T1) (g' := (mkF m 110 #[.val (.long j0), .second, .val (.long j2), .second, .val (.long j4), .second, .val (.int i6), .val (.int i7)] [(.int (0 : Int32))])) (fun t k => ?_) ?_
    · show Steps p.tables e below (T1.setTop (mkF m 106 #[.val (.long j0), .second, .val (.long j2), .second, .val (.long j4), .second, .val (.int i6), .val (.int i7)] [(.int (F1_0 (-9223372036854775808 : Int64) j2))])) t
      refine XS.ifNo X1.here hx rfl (hb hby at_106) rfl ((if0 _ _).trans (teq hc106_1).2) ?_
      show Steps p.tables e below (T1.setTop (mkF m 109 #[.val (.long j0), .second, .val (.long j2), .second, .val (.long j4), .second, .val (.int i6), .val (.int i7)] [])) t
      refine XS.iconst X1.here hx rfl (hb hby at_109) ?_
      exact k
    exact doneN (t := .boolean) X1 (by simp) hx hret hlk (hb hby at_110) ⟨rfl, N1⟩ (by decide) (by decide)
  · rw [if_neg hc106_1]
    refine Done.of (T' := T1) (g' := (mkF m 115 #[.val (.long j0), .second, .val (.long j2), .second, .val (.long j4), .second, .val (.int i6), .val (.int i7)] [(.long j2), (.long (9223372036854775807 : Int64))])) (fun t k => ?_) ?_
    · show Steps p.tables e below (T1.setTop (mkF m 106 #[.val (.long j0), .second, .val (.long j2), .second, .val (.long j4), .second, .val (.int i6), .val (.int i7)] [(.int (F1_0 (-9223372036854775808 : Int64) j2))])) t
      refine XS.ifYes X1.here hx rfl (pc0 := 106) (pc' := 111) rfl (hb hby at_106) rfl ((if0 _ _).trans (feq hc106_1).2) (by decide) (by decide) ?_
      show Steps p.tables e below (T1.setTop (mkF m 111 #[.val (.long j0), .second, .val (.long j2), .second, .val (.long j4), .second, .val (.int i6), .val (.int i7)] [])) t
      refine X1.ldc2Long hx hown (mvT hZ (hw _ (List.mem_of_getElem? (i := 4) rfl))) (g := (mkF m 111 #[.val (.long j0), .second, .val (.long j2), .second, .val (.long j4), .second, .val (.int i6), .val (.int i7)] [])) rfl (hb hby at_111) _ ?_
      show Steps p.tables e below (T1.setTop (mkF m 114 #[.val (.long j0), .second, .val (.long j2), .second, .val (.long j4), .second, .val (.int i6), .val (.int i7)] [(.long (9223372036854775807 : Int64))])) t
      refine XS.lloadN X1.here hx rfl (hb hby at_114) rfl ?_
      exact k
    obtain ⟨_, _, ⟨T3, L3, k3, n3⟩, -, X3, ⟨Lc3, hQ3, l3, y3, z3⟩, st3⟩ := Jvm.LawKit.callS X1 hx (y := (⟨"com/example/noreply/noreply/engine/Expiration", "isExpired", "(JJ)Z"⟩ : MethodName)) hown (mvT hZ (hw _ (List.mem_of_getElem? (i := 0) rfl))) (mvT hZ (hw _ (List.mem_of_getElem? (i := 1) rfl))) (mvT hZ (hw _ (List.mem_of_getElem? (i := 2) rfl))) (mvT hZ (hw _ (List.mem_of_getElem? (i := 3) rfl))) (by decide) (backOf (W := 0) (rm1 l Z a0 hw [] (9223372036854775807 : Int64) j2 h0 n0) hZ (hw _ (List.mem_of_getElem? (i := 3) rfl)) (hw _ (List.mem_of_getElem? (i := 2) rfl)) (by decide) (by decide)) (g := (mkF m 115 #[.val (.long j0), .second, .val (.long j2), .second, .val (.long j4), .second, .val (.int i6), .val (.int i7)] [(.long j2), (.long (9223372036854775807 : Int64))])) rfl (by rw [hml]; rfl) (argsL := [(.long (9223372036854775807 : Int64)), (.long j2)]) (rest := []) (lenOf pd_0 rfl) rfl (by show 2 * 0 + _ ≤ _; exact Nat.le_of_eq rfl) (hb hby at_115) (fun _ _ => ⟨rfl, e1, (by decide : 0 + 0 ≤ _), (by decide : 0 + 0 ≤ _)⟩)
    dsimp only [Pt.U, Pt.locs, Pt.cells, Pt.slots] at X3 l3 y3 z3 st3 hQ3
    subst l3 y3 z3
    obtain ⟨rfl, N3q, e3⟩ := hQ3
    have N3 := Fr.app N1 N3q
    replace X3 : Stand p l e room_1 s m args below meth c T3 _ 0 0 := X3
    refine Done.of (g' := (mkF m 118 #[.val (.long j0), .second, .val (.long j2), .second, .val (.long j4), .second, .val (.int i6), .val (.int i7)] [(.int (F1_0 (9223372036854775807 : Int64) j2))])) st3 ?_
    refine Done.of (T' := T3) (g' := (mkF m 123 #[.val (.long j0), .second, .val (.long j2), .second, .val (.long j4), .second, .val (.int i6), .val (.int i7)] [(.int (lcmpW j2 (9223372036854775807 : Int64))), (.int (F1_0 (9223372036854775807 : Int64) j2))])) (fun t k => ?_) ?_
    · show Steps p.tables e below (T3.setTop (mkF m 118 #[.val (.long j0), .second, .val (.long j2), .second, .val (.long j4), .second, .val (.int i6), .val (.int i7)] [(.int (F1_0 (9223372036854775807 : Int64) j2))])) t
      refine XS.lloadN X3.here hx rfl (hb hby at_118) rfl ?_
      show Steps p.tables e below (T3.setTop (mkF m 119 #[.val (.long j0), .second, .val (.long j2), .second, .val (.long j4), .second, .val (.int i6), .val (.int i7)] [(.long j2), (.int (F1_0 (9223372036854775807 : Int64) j2))])) t
      refine X3.ldc2Long hx hown (mvT hZ (hw _ (List.mem_of_getElem? (i := 4) rfl))) (g := (mkF m 119 #[.val (.long j0), .second, .val (.long j2), .second, .val (.long j4), .second, .val (.int i6), .val (.int i7)] [(.long j2), (.int (F1_0 (9223372036854775807 : Int64) j2))])) rfl (hb hby at_119) _ ?_
      show Steps p.tables e below (T3.setTop (mkF m 122 #[.val (.long j0), .second, .val (.long j2), .second, .val (.long j4), .second, .val (.int i6), .val (.int i7)] [(.long (9223372036854775807 : Int64)), (.long j2), (.int (F1_0 (9223372036854775807 : Int64) j2))])) t
      refine XS.lcmp X3.here hx rfl (hb hby at_122) rfl ?_
      exact k
    by_cases hc123_3 : j2 = (9223372036854775807 : Int64)
    · rw [if_pos hc123_3]
      refine Done.of (T' := T3) (g' := (mkF m 131 #[.val (.long j0), .second, .val (.long j2), .second, .val (.long j4), .second, .val (.int i6), .val (.int i7)] [(.int (1 : Int32)), (.int (F1_0 (9223372036854775807 : Int64) j2))])) (fun t k => ?_) ?_
      · show Steps p.tables e below (T3.setTop (mkF m 123 #[.val (.long j0), .second, .val (.long j2), .second, .val (.long j4), .second, .val (.int i6), .val (.int i7)] [(.int (lcmpW j2 (9223372036854775807 : Int64))), (.int (F1_0 (9223372036854775807 : Int64) j2))])) t
        refine XS.ifNo X3.here hx rfl (hb hby at_123) rfl (lcEq_t hc123_3).2 ?_
        show Steps p.tables e below (T3.setTop (mkF m 126 #[.val (.long j0), .second, .val (.long j2), .second, .val (.long j4), .second, .val (.int i6), .val (.int i7)] [(.int (F1_0 (9223372036854775807 : Int64) j2))])) t
        refine XS.iconst X3.here hx rfl (hb hby at_126) ?_
        show Steps p.tables e below (T3.setTop (mkF m 127 #[.val (.long j0), .second, .val (.long j2), .second, .val (.long j4), .second, .val (.int i6), .val (.int i7)] [(.int (1 : Int32)), (.int (F1_0 (9223372036854775807 : Int64) j2))])) t
        refine XS.goto X3.here hx rfl (pc0 := 127) (pc' := 131) rfl (hb hby at_127) (by decide) (by decide) ?_
        exact k
      exact bk0_131 hx hZ hw hby hml hown hnm hret hlk X3 N3 e3 j0 j2 j4 i6 i7 (1 : Int32) (F1_0 (9223372036854775807 : Int64) j2)
    · rw [if_neg hc123_3]
      refine Done.of (T' := T3) (g' := (mkF m 131 #[.val (.long j0), .second, .val (.long j2), .second, .val (.long j4), .second, .val (.int i6), .val (.int i7)] [(.int (0 : Int32)), (.int (F1_0 (9223372036854775807 : Int64) j2))])) (fun t k => ?_) ?_
      · show Steps p.tables e below (T3.setTop (mkF m 123 #[.val (.long j0), .second, .val (.long j2), .second, .val (.long j4), .second, .val (.int i6), .val (.int i7)] [(.int (lcmpW j2 (9223372036854775807 : Int64))), (.int (F1_0 (9223372036854775807 : Int64) j2))])) t
        refine XS.ifYes X3.here hx rfl (pc0 := 123) (pc' := 130) rfl (hb hby at_123) rfl (lcEq_f hc123_3).2 (by decide) (by decide) ?_
        show Steps p.tables e below (T3.setTop (mkF m 130 #[.val (.long j0), .second, .val (.long j2), .second, .val (.long j4), .second, .val (.int i6), .val (.int i7)] [(.int (F1_0 (9223372036854775807 : Int64) j2))])) t
        refine XS.iconst X3.here hx rfl (hb hby at_130) ?_
        exact k
      exact bk0_131 hx hZ hw hby hml hown hnm hret hlk X3 N3 e3 j0 j2 j4 i6 i7 (0 : Int32) (F1_0 (9223372036854775807 : Int64) j2)
def F0_79 (j0 : Int64) (j2 : Int64) (j4 : Int64) (i6 : Int32) (i7 : Int32) : Int32 := (if j2 = (9223372036854775807 : Int64) then (F0_99 j0 j2 j4 i6 i7) else (if (F1_0 (j2 + (1 : Int64)) j2) = (0 : Int32) then (F0_99 j0 j2 j4 i6 i7) else (0 : Int32)))
set_option maxRecDepth 65536 in
set_option maxHeartbeats 40000000 in
theorem bk0_79 {p : Program} {l : Launch} {e : Env} {s : State} {m : MethodId} {args : Array Value} {below : List Frame} {meth : Method} {c : Code} {T0 : State} {locs : List Loc} {Z : State} {a0 : Array Value} {h0 : Heap} {n0 : Nat}
    (hx : p.tables.exec = Jvm.exec) (hZ : Z.Warmed39 s.vm) (hw : ∀ d ∈ tables_1, d.before a0 Z = true) (hby : c.code = code) (hml : c.maxLocals = 8) (hown : s.vm.findClass "com/example/noreply/noreply/engine/ExpirationIsExpiredPinLaw" = some m.cls) (hnm : meth.name = "law") (hret : meth.sig.returnType = some .boolean) (hlk : meth.locks = false)
    (X0 : Stand p l e room_1 s m args below meth c T0 locs 0 0) (N0 : Fr n0 locs) (e0 : T0.heap = h0) (j0 : Int64) (j2 : Int64) (j4 : Int64) (i6 : Int32) (i7 : Int32) :
    Done p e below s room_1 (Ql n0 (.int (F0_79 j0 j2 j4 i6 i7))) T0 (mkF m 79 #[.val (.long j0), .second, .val (.long j2), .second, .val (.long j4), .second, .val (.int i6), .val (.int i7)] []) := by
  unfold F0_79
  refine Done.of (T' := T0) (g' := (mkF m 84 #[.val (.long j0), .second, .val (.long j2), .second, .val (.long j4), .second, .val (.int i6), .val (.int i7)] [(.int (lcmpW j2 (9223372036854775807 : Int64)))])) (fun t k => ?_) ?_
  · show Steps p.tables e below (T0.setTop (mkF m 79 #[.val (.long j0), .second, .val (.long j2), .second, .val (.long j4), .second, .val (.int i6), .val (.int i7)] [])) t
    refine XS.lloadN X0.here hx rfl (hb hby at_79) rfl ?_
    show Steps p.tables e below (T0.setTop (mkF m 80 #[.val (.long j0), .second, .val (.long j2), .second, .val (.long j4), .second, .val (.int i6), .val (.int i7)] [(.long j2)])) t
    refine X0.ldc2Long hx hown (mvT hZ (hw _ (List.mem_of_getElem? (i := 4) rfl))) (g := (mkF m 80 #[.val (.long j0), .second, .val (.long j2), .second, .val (.long j4), .second, .val (.int i6), .val (.int i7)] [(.long j2)])) rfl (hb hby at_80) _ ?_
    show Steps p.tables e below (T0.setTop (mkF m 83 #[.val (.long j0), .second, .val (.long j2), .second, .val (.long j4), .second, .val (.int i6), .val (.int i7)] [(.long (9223372036854775807 : Int64)), (.long j2)])) t
    refine XS.lcmp X0.here hx rfl (hb hby at_83) rfl ?_
    exact k
  by_cases hc84_0 : j2 = (9223372036854775807 : Int64)
  · rw [if_pos hc84_0]
    refine Done.of (T' := T0) (g' := (mkF m 99 #[.val (.long j0), .second, .val (.long j2), .second, .val (.long j4), .second, .val (.int i6), .val (.int i7)] [])) (fun t k => ?_) ?_
    · show Steps p.tables e below (T0.setTop (mkF m 84 #[.val (.long j0), .second, .val (.long j2), .second, .val (.long j4), .second, .val (.int i6), .val (.int i7)] [(.int (lcmpW j2 (9223372036854775807 : Int64)))])) t
      refine XS.ifYes X0.here hx rfl (pc0 := 84) (pc' := 99) rfl (hb hby at_84) rfl (lcEq_t hc84_0).1 (by decide) (by decide) ?_
      exact k
    exact bk0_99 hx hZ hw hby hml hown hnm hret hlk X0 N0 e0 j0 j2 j4 i6 i7
  · rw [if_neg hc84_0]
    refine Done.of (T' := T0) (g' := (mkF m 91 #[.val (.long j0), .second, .val (.long j2), .second, .val (.long j4), .second, .val (.int i6), .val (.int i7)] [(.long j2), (.long (j2 + (1 : Int64)))])) (fun t k => ?_) ?_
    · show Steps p.tables e below (T0.setTop (mkF m 84 #[.val (.long j0), .second, .val (.long j2), .second, .val (.long j4), .second, .val (.int i6), .val (.int i7)] [(.int (lcmpW j2 (9223372036854775807 : Int64)))])) t
      refine XS.ifNo X0.here hx rfl (hb hby at_84) rfl (lcEq_f hc84_0).1 ?_
      show Steps p.tables e below (T0.setTop (mkF m 87 #[.val (.long j0), .second, .val (.long j2), .second, .val (.long j4), .second, .val (.int i6), .val (.int i7)] [])) t
      refine XS.lloadN X0.here hx rfl (hb hby at_87) rfl ?_
      show Steps p.tables e below (T0.setTop (mkF m 88 #[.val (.long j0), .second, .val (.long j2), .second, .val (.long j4), .second, .val (.int i6), .val (.int i7)] [(.long j2)])) t
      refine XS.lconst X0.here hx rfl (hb hby at_88) ?_
      show Steps p.tables e below (T0.setTop (mkF m 89 #[.val (.long j0), .second, .val (.long j2), .second, .val (.long j4), .second, .val (.int i6), .val (.int i7)] [(.long (1 : Int64)), (.long j2)])) t
      refine XS.ladd X0.here hx rfl (hb hby at_89) rfl ?_
      show Steps p.tables e below (T0.setTop (mkF m 90 #[.val (.long j0), .second, .val (.long j2), .second, .val (.long j4), .second, .val (.int i6), .val (.int i7)] [(.long (j2 + (1 : Int64)))])) t
      refine XS.lloadN X0.here hx rfl (hb hby at_90) rfl ?_
      exact k
    obtain ⟨_, _, ⟨T2, L2, k2, n2⟩, -, X2, ⟨Lc2, hQ2, l2, y2, z2⟩, st2⟩ := Jvm.LawKit.callS X0 hx (y := (⟨"com/example/noreply/noreply/engine/Expiration", "isExpired", "(JJ)Z"⟩ : MethodName)) hown (mvT hZ (hw _ (List.mem_of_getElem? (i := 0) rfl))) (mvT hZ (hw _ (List.mem_of_getElem? (i := 1) rfl))) (mvT hZ (hw _ (List.mem_of_getElem? (i := 2) rfl))) (mvT hZ (hw _ (List.mem_of_getElem? (i := 3) rfl))) (by decide) (backOf (W := 0) (rm1 l Z a0 hw [] (j2 + (1 : Int64)) j2 h0 n0) hZ (hw _ (List.mem_of_getElem? (i := 3) rfl)) (hw _ (List.mem_of_getElem? (i := 2) rfl)) (by decide) (by decide)) (g := (mkF m 91 #[.val (.long j0), .second, .val (.long j2), .second, .val (.long j4), .second, .val (.int i6), .val (.int i7)] [(.long j2), (.long (j2 + (1 : Int64)))])) rfl (by rw [hml]; rfl) (argsL := [(.long (j2 + (1 : Int64))), (.long j2)]) (rest := []) (lenOf pd_0 rfl) rfl (by show 2 * 0 + _ ≤ _; exact Nat.le_of_eq rfl) (hb hby at_91) (fun _ _ => ⟨rfl, e0, (by decide : 0 + 0 ≤ _), (by decide : 0 + 0 ≤ _)⟩)
    dsimp only [Pt.U, Pt.locs, Pt.cells, Pt.slots] at X2 l2 y2 z2 st2 hQ2
    subst l2 y2 z2
    obtain ⟨rfl, N2q, e2⟩ := hQ2
    have N2 := Fr.app N0 N2q
    replace X2 : Stand p l e room_1 s m args below meth c T2 _ 0 0 := X2
    refine Done.of (g' := (mkF m 94 #[.val (.long j0), .second, .val (.long j2), .second, .val (.long j4), .second, .val (.int i6), .val (.int i7)] [(.int (F1_0 (j2 + (1 : Int64)) j2))])) st2 ?_
    by_cases hc94_2 : (F1_0 (j2 + (1 : Int64)) j2) = (0 : Int32)
    · rw [if_pos hc94_2]
      refine Done.of (T' := T2) (g' := (mkF m 99 #[.val (.long j0), .second, .val (.long j2), .second, .val (.long j4), .second, .val (.int i6), .val (.int i7)] [])) (fun t k => ?_) ?_
      · show Steps p.tables e below (T2.setTop (mkF m 94 #[.val (.long j0), .second, .val (.long j2), .second, .val (.long j4), .second, .val (.int i6), .val (.int i7)] [(.int (F1_0 (j2 + (1 : Int64)) j2))])) t
        refine XS.ifYes X2.here hx rfl (pc0 := 94) (pc' := 99) rfl (hb hby at_94) rfl ((if0 _ _).trans (teq hc94_2).1) (by decide) (by decide) ?_
        exact k
      exact bk0_99 hx hZ hw hby hml hown hnm hret hlk X2 N2 e2 j0 j2 j4 i6 i7
    · rw [if_neg hc94_2]
      refine Done.of (T' := T2) (g' := (mkF m 98 #[.val (.long j0), .second, .val (.long j2), .second, .val (.long j4), .second, .val (.int i6), .val (.int i7)] [(.int (0 : Int32))])) (fun t k => ?_) ?_
      · show Steps p.tables e below (T2.setTop (mkF m 94 #[.val (.long j0), .second, .val (.long j2), .second, .val (.long j4), .second, .val (.int i6), .val (.int i7)] [(.int (F1_0 (j2 + (1 : Int64)) j2))])) t
        refine XS.ifNo X2.here hx rfl (hb hby at_94) rfl ((if0 _ _).trans (feq hc94_2).1) ?_
        show Steps p.tables e below (T2.setTop (mkF m 97 #[.val (.long j0), .second, .val (.long j2), .second, .val (.long j4), .second, .val (.int i6), .val (.int i7)] [])) t
        refine XS.iconst X2.here hx rfl (hb hby at_97) ?_
        exact k
      exact doneN (t := .boolean) X2 (by simp) hx hret hlk (hb hby at_98) ⟨rfl, N2⟩ (by decide) (by decide)
def F0_54 (j0 : Int64) (j2 : Int64) (j4 : Int64) (i6 : Int32) (i7 : Int32) : Int32 := (if i6 = (0 : Int32) then (F0_79 j0 j2 j4 i6 i7) else (if (F1_0 j2 j4) = (0 : Int32) then (F0_79 j0 j2 j4 i6 i7) else (if (F1_0 j0 j4) = (0 : Int32) then (0 : Int32) else (F0_79 j0 j2 j4 i6 i7))))
set_option maxRecDepth 65536 in
set_option maxHeartbeats 40000000 in
theorem bk0_54 {p : Program} {l : Launch} {e : Env} {s : State} {m : MethodId} {args : Array Value} {below : List Frame} {meth : Method} {c : Code} {T0 : State} {locs : List Loc} {Z : State} {a0 : Array Value} {h0 : Heap} {n0 : Nat}
    (hx : p.tables.exec = Jvm.exec) (hZ : Z.Warmed39 s.vm) (hw : ∀ d ∈ tables_1, d.before a0 Z = true) (hby : c.code = code) (hml : c.maxLocals = 8) (hown : s.vm.findClass "com/example/noreply/noreply/engine/ExpirationIsExpiredPinLaw" = some m.cls) (hnm : meth.name = "law") (hret : meth.sig.returnType = some .boolean) (hlk : meth.locks = false)
    (X0 : Stand p l e room_1 s m args below meth c T0 locs 0 0) (N0 : Fr n0 locs) (e0 : T0.heap = h0) (j0 : Int64) (j2 : Int64) (j4 : Int64) (i6 : Int32) (i7 : Int32) :
    Done p e below s room_1 (Ql n0 (.int (F0_54 j0 j2 j4 i6 i7))) T0 (mkF m 54 #[.val (.long j0), .second, .val (.long j2), .second, .val (.long j4), .second, .val (.int i6), .val (.int i7)] []) := by
  unfold F0_54
  refine Done.of (T' := T0) (g' := (mkF m 56 #[.val (.long j0), .second, .val (.long j2), .second, .val (.long j4), .second, .val (.int i6), .val (.int i7)] [(.int i6)])) (fun t k => ?_) ?_
  · show Steps p.tables e below (T0.setTop (mkF m 54 #[.val (.long j0), .second, .val (.long j2), .second, .val (.long j4), .second, .val (.int i6), .val (.int i7)] [])) t
    refine XS.iload X0.here hx rfl (hb hby at_54) rfl ?_
    exact k
  by_cases hc56_0 : i6 = (0 : Int32)
  · rw [if_pos hc56_0]
    refine Done.of (T' := T0) (g' := (mkF m 79 #[.val (.long j0), .second, .val (.long j2), .second, .val (.long j4), .second, .val (.int i6), .val (.int i7)] [])) (fun t k => ?_) ?_
    · show Steps p.tables e below (T0.setTop (mkF m 56 #[.val (.long j0), .second, .val (.long j2), .second, .val (.long j4), .second, .val (.int i6), .val (.int i7)] [(.int i6)])) t
      refine XS.ifYes X0.here hx rfl (pc0 := 56) (pc' := 79) rfl (hb hby at_56) rfl ((if0 _ _).trans (teq hc56_0).1) (by decide) (by decide) ?_
      exact k
    exact bk0_79 hx hZ hw hby hml hown hnm hret hlk X0 N0 e0 j0 j2 j4 i6 i7
  · rw [if_neg hc56_0]
    refine Done.of (T' := T0) (g' := (mkF m 62 #[.val (.long j0), .second, .val (.long j2), .second, .val (.long j4), .second, .val (.int i6), .val (.int i7)] [(.long j4), (.long j2)])) (fun t k => ?_) ?_
    · show Steps p.tables e below (T0.setTop (mkF m 56 #[.val (.long j0), .second, .val (.long j2), .second, .val (.long j4), .second, .val (.int i6), .val (.int i7)] [(.int i6)])) t
      refine XS.ifNo X0.here hx rfl (hb hby at_56) rfl ((if0 _ _).trans (feq hc56_0).1) ?_
      show Steps p.tables e below (T0.setTop (mkF m 59 #[.val (.long j0), .second, .val (.long j2), .second, .val (.long j4), .second, .val (.int i6), .val (.int i7)] [])) t
      refine XS.lloadN X0.here hx rfl (hb hby at_59) rfl ?_
      show Steps p.tables e below (T0.setTop (mkF m 60 #[.val (.long j0), .second, .val (.long j2), .second, .val (.long j4), .second, .val (.int i6), .val (.int i7)] [(.long j2)])) t
      refine XS.lload X0.here hx rfl (hb hby at_60) rfl ?_
      exact k
    obtain ⟨_, _, ⟨T2, L2, k2, n2⟩, -, X2, ⟨Lc2, hQ2, l2, y2, z2⟩, st2⟩ := Jvm.LawKit.callS X0 hx (y := (⟨"com/example/noreply/noreply/engine/Expiration", "isExpired", "(JJ)Z"⟩ : MethodName)) hown (mvT hZ (hw _ (List.mem_of_getElem? (i := 0) rfl))) (mvT hZ (hw _ (List.mem_of_getElem? (i := 1) rfl))) (mvT hZ (hw _ (List.mem_of_getElem? (i := 2) rfl))) (mvT hZ (hw _ (List.mem_of_getElem? (i := 3) rfl))) (by decide) (backOf (W := 0) (rm1 l Z a0 hw [] j2 j4 h0 n0) hZ (hw _ (List.mem_of_getElem? (i := 3) rfl)) (hw _ (List.mem_of_getElem? (i := 2) rfl)) (by decide) (by decide)) (g := (mkF m 62 #[.val (.long j0), .second, .val (.long j2), .second, .val (.long j4), .second, .val (.int i6), .val (.int i7)] [(.long j4), (.long j2)])) rfl (by rw [hml]; rfl) (argsL := [(.long j2), (.long j4)]) (rest := []) (lenOf pd_0 rfl) rfl (by show 2 * 0 + _ ≤ _; exact Nat.le_of_eq rfl) (hb hby at_62) (fun _ _ => ⟨rfl, e0, (by decide : 0 + 0 ≤ _), (by decide : 0 + 0 ≤ _)⟩)
    dsimp only [Pt.U, Pt.locs, Pt.cells, Pt.slots] at X2 l2 y2 z2 st2 hQ2
    subst l2 y2 z2
    obtain ⟨rfl, N2q, e2⟩ := hQ2
    have N2 := Fr.app N0 N2q
    replace X2 : Stand p l e room_1 s m args below meth c T2 _ 0 0 := X2
    refine Done.of (g' := (mkF m 65 #[.val (.long j0), .second, .val (.long j2), .second, .val (.long j4), .second, .val (.int i6), .val (.int i7)] [(.int (F1_0 j2 j4))])) st2 ?_
    by_cases hc65_2 : (F1_0 j2 j4) = (0 : Int32)
    · rw [if_pos hc65_2]
      refine Done.of (T' := T2) (g' := (mkF m 79 #[.val (.long j0), .second, .val (.long j2), .second, .val (.long j4), .second, .val (.int i6), .val (.int i7)] [])) (fun t k => ?_) ?_
      · show Steps p.tables e below (T2.setTop (mkF m 65 #[.val (.long j0), .second, .val (.long j2), .second, .val (.long j4), .second, .val (.int i6), .val (.int i7)] [(.int (F1_0 j2 j4))])) t
        refine XS.ifYes X2.here hx rfl (pc0 := 65) (pc' := 79) rfl (hb hby at_65) rfl ((if0 _ _).trans (teq hc65_2).1) (by decide) (by decide) ?_
        exact k
      exact bk0_79 hx hZ hw hby hml hown hnm hret hlk X2 N2 e2 j0 j2 j4 i6 i7
    · rw [if_neg hc65_2]
      refine Done.of (T' := T2) (g' := (mkF m 71 #[.val (.long j0), .second, .val (.long j2), .second, .val (.long j4), .second, .val (.int i6), .val (.int i7)] [(.long j4), (.long j0)])) (fun t k => ?_) ?_
      · show Steps p.tables e below (T2.setTop (mkF m 65 #[.val (.long j0), .second, .val (.long j2), .second, .val (.long j4), .second, .val (.int i6), .val (.int i7)] [(.int (F1_0 j2 j4))])) t
        refine XS.ifNo X2.here hx rfl (hb hby at_65) rfl ((if0 _ _).trans (feq hc65_2).1) ?_
        show Steps p.tables e below (T2.setTop (mkF m 68 #[.val (.long j0), .second, .val (.long j2), .second, .val (.long j4), .second, .val (.int i6), .val (.int i7)] [])) t
        refine XS.lloadN X2.here hx rfl (hb hby at_68) rfl ?_
        show Steps p.tables e below (T2.setTop (mkF m 69 #[.val (.long j0), .second, .val (.long j2), .second, .val (.long j4), .second, .val (.int i6), .val (.int i7)] [(.long j0)])) t
        refine XS.lload X2.here hx rfl (hb hby at_69) rfl ?_
        exact k
      obtain ⟨_, _, ⟨T4, L4, k4, n4⟩, -, X4, ⟨Lc4, hQ4, l4, y4, z4⟩, st4⟩ := Jvm.LawKit.callS X2 hx (y := (⟨"com/example/noreply/noreply/engine/Expiration", "isExpired", "(JJ)Z"⟩ : MethodName)) hown (mvT hZ (hw _ (List.mem_of_getElem? (i := 0) rfl))) (mvT hZ (hw _ (List.mem_of_getElem? (i := 1) rfl))) (mvT hZ (hw _ (List.mem_of_getElem? (i := 2) rfl))) (mvT hZ (hw _ (List.mem_of_getElem? (i := 3) rfl))) (by decide) (backOf (W := 0) (rm1 l Z a0 hw [] j0 j4 h0 n0) hZ (hw _ (List.mem_of_getElem? (i := 3) rfl)) (hw _ (List.mem_of_getElem? (i := 2) rfl)) (by decide) (by decide)) (g := (mkF m 71 #[.val (.long j0), .second, .val (.long j2), .second, .val (.long j4), .second, .val (.int i6), .val (.int i7)] [(.long j4), (.long j0)])) rfl (by rw [hml]; rfl) (argsL := [(.long j0), (.long j4)]) (rest := []) (lenOf pd_0 rfl) rfl (by show 2 * 0 + _ ≤ _; exact Nat.le_of_eq rfl) (hb hby at_71) (fun _ _ => ⟨rfl, e2, (by decide : 0 + 0 ≤ _), (by decide : 0 + 0 ≤ _)⟩)
      dsimp only [Pt.U, Pt.locs, Pt.cells, Pt.slots] at X4 l4 y4 z4 st4 hQ4
      subst l4 y4 z4
      obtain ⟨rfl, N4q, e4⟩ := hQ4
      have N4 := Fr.app N2 N4q
      replace X4 : Stand p l e room_1 s m args below meth c T4 _ 0 0 := X4
      refine Done.of (g' := (mkF m 74 #[.val (.long j0), .second, .val (.long j2), .second, .val (.long j4), .second, .val (.int i6), .val (.int i7)] [(.int (F1_0 j0 j4))])) st4 ?_
      by_cases hc74_4 : (F1_0 j0 j4) = (0 : Int32)
      · rw [if_pos hc74_4]
        refine Done.of (T' := T4) (g' := (mkF m 78 #[.val (.long j0), .second, .val (.long j2), .second, .val (.long j4), .second, .val (.int i6), .val (.int i7)] [(.int (0 : Int32))])) (fun t k => ?_) ?_
        · show Steps p.tables e below (T4.setTop (mkF m 74 #[.val (.long j0), .second, .val (.long j2), .second, .val (.long j4), .second, .val (.int i6), .val (.int i7)] [(.int (F1_0 j0 j4))])) t
          refine XS.ifNo X4.here hx rfl (hb hby at_74) rfl ((if0 _ _).trans (teq hc74_4).2) ?_
          show Steps p.tables e below (T4.setTop (mkF m 77 #[.val (.long j0), .second, .val (.long j2), .second, .val (.long j4), .second, .val (.int i6), .val (.int i7)] [])) t
          refine XS.iconst X4.here hx rfl (hb hby at_77) ?_
          exact k
        exact doneN (t := .boolean) X4 (by simp) hx hret hlk (hb hby at_78) ⟨rfl, N4⟩ (by decide) (by decide)
      · rw [if_neg hc74_4]
        refine Done.of (T' := T4) (g' := (mkF m 79 #[.val (.long j0), .second, .val (.long j2), .second, .val (.long j4), .second, .val (.int i6), .val (.int i7)] [])) (fun t k => ?_) ?_
        · show Steps p.tables e below (T4.setTop (mkF m 74 #[.val (.long j0), .second, .val (.long j2), .second, .val (.long j4), .second, .val (.int i6), .val (.int i7)] [(.int (F1_0 j0 j4))])) t
          refine XS.ifYes X4.here hx rfl (pc0 := 74) (pc' := 79) rfl (hb hby at_74) rfl ((if0 _ _).trans (feq hc74_4).2) (by decide) (by decide) ?_
          exact k
        exact bk0_79 hx hZ hw hby hml hown hnm hret hlk X4 N4 e4 j0 j2 j4 i6 i7
def F0_36 (j0 : Int64) (j2 : Int64) (j4 : Int64) (i6 : Int32) (i7 : Int32) : Int32 := (if j0 = j2 then (F0_54 j0 j2 j4 i6 i7) else (if i6 = (0 : Int32) then (F0_54 j0 j2 j4 i6 i7) else (if i7 = (0 : Int32) then (F0_54 j0 j2 j4 i6 i7) else (0 : Int32))))
set_option maxRecDepth 65536 in
set_option maxHeartbeats 40000000 in
theorem bk0_36 {p : Program} {l : Launch} {e : Env} {s : State} {m : MethodId} {args : Array Value} {below : List Frame} {meth : Method} {c : Code} {T0 : State} {locs : List Loc} {Z : State} {a0 : Array Value} {h0 : Heap} {n0 : Nat}
    (hx : p.tables.exec = Jvm.exec) (hZ : Z.Warmed39 s.vm) (hw : ∀ d ∈ tables_1, d.before a0 Z = true) (hby : c.code = code) (hml : c.maxLocals = 8) (hown : s.vm.findClass "com/example/noreply/noreply/engine/ExpirationIsExpiredPinLaw" = some m.cls) (hnm : meth.name = "law") (hret : meth.sig.returnType = some .boolean) (hlk : meth.locks = false)
    (X0 : Stand p l e room_1 s m args below meth c T0 locs 0 0) (N0 : Fr n0 locs) (e0 : T0.heap = h0) (j0 : Int64) (j2 : Int64) (j4 : Int64) (i6 : Int32) (i7 : Int32) :
    Done p e below s room_1 (Ql n0 (.int (F0_36 j0 j2 j4 i6 i7))) T0 (mkF m 36 #[.val (.long j0), .second, .val (.long j2), .second, .val (.long j4), .second, .val (.int i6), .val (.int i7)] []) := by
  unfold F0_36
  refine Done.of (T' := T0) (g' := (mkF m 39 #[.val (.long j0), .second, .val (.long j2), .second, .val (.long j4), .second, .val (.int i6), .val (.int i7)] [(.int (lcmpW j0 j2))])) (fun t k => ?_) ?_
  · show Steps p.tables e below (T0.setTop (mkF m 36 #[.val (.long j0), .second, .val (.long j2), .second, .val (.long j4), .second, .val (.int i6), .val (.int i7)] [])) t
    refine XS.lloadN X0.here hx rfl (hb hby at_36) rfl ?_
    show Steps p.tables e below (T0.setTop (mkF m 37 #[.val (.long j0), .second, .val (.long j2), .second, .val (.long j4), .second, .val (.int i6), .val (.int i7)] [(.long j0)])) t
    refine XS.lloadN X0.here hx rfl (hb hby at_37) rfl ?_
    show Steps p.tables e below (T0.setTop (mkF m 38 #[.val (.long j0), .second, .val (.long j2), .second, .val (.long j4), .second, .val (.int i6), .val (.int i7)] [(.long j2), (.long j0)])) t
    refine XS.lcmp X0.here hx rfl (hb hby at_38) rfl ?_
    exact k
  by_cases hc39_0 : j0 = j2
  · rw [if_pos hc39_0]
    refine Done.of (T' := T0) (g' := (mkF m 54 #[.val (.long j0), .second, .val (.long j2), .second, .val (.long j4), .second, .val (.int i6), .val (.int i7)] [])) (fun t k => ?_) ?_
    · show Steps p.tables e below (T0.setTop (mkF m 39 #[.val (.long j0), .second, .val (.long j2), .second, .val (.long j4), .second, .val (.int i6), .val (.int i7)] [(.int (lcmpW j0 j2))])) t
      refine XS.ifYes X0.here hx rfl (pc0 := 39) (pc' := 54) rfl (hb hby at_39) rfl (lcEq_t hc39_0).1 (by decide) (by decide) ?_
      exact k
    exact bk0_54 hx hZ hw hby hml hown hnm hret hlk X0 N0 e0 j0 j2 j4 i6 i7
  · rw [if_neg hc39_0]
    refine Done.of (T' := T0) (g' := (mkF m 44 #[.val (.long j0), .second, .val (.long j2), .second, .val (.long j4), .second, .val (.int i6), .val (.int i7)] [(.int i6)])) (fun t k => ?_) ?_
    · show Steps p.tables e below (T0.setTop (mkF m 39 #[.val (.long j0), .second, .val (.long j2), .second, .val (.long j4), .second, .val (.int i6), .val (.int i7)] [(.int (lcmpW j0 j2))])) t
      refine XS.ifNo X0.here hx rfl (hb hby at_39) rfl (lcEq_f hc39_0).1 ?_
      show Steps p.tables e below (T0.setTop (mkF m 42 #[.val (.long j0), .second, .val (.long j2), .second, .val (.long j4), .second, .val (.int i6), .val (.int i7)] [])) t
      refine XS.iload X0.here hx rfl (hb hby at_42) rfl ?_
      exact k
    by_cases hc44_1 : i6 = (0 : Int32)
    · rw [if_pos hc44_1]
      refine Done.of (T' := T0) (g' := (mkF m 54 #[.val (.long j0), .second, .val (.long j2), .second, .val (.long j4), .second, .val (.int i6), .val (.int i7)] [])) (fun t k => ?_) ?_
      · show Steps p.tables e below (T0.setTop (mkF m 44 #[.val (.long j0), .second, .val (.long j2), .second, .val (.long j4), .second, .val (.int i6), .val (.int i7)] [(.int i6)])) t
        refine XS.ifYes X0.here hx rfl (pc0 := 44) (pc' := 54) rfl (hb hby at_44) rfl ((if0 _ _).trans (teq hc44_1).1) (by decide) (by decide) ?_
        exact k
      exact bk0_54 hx hZ hw hby hml hown hnm hret hlk X0 N0 e0 j0 j2 j4 i6 i7
    · rw [if_neg hc44_1]
      refine Done.of (T' := T0) (g' := (mkF m 49 #[.val (.long j0), .second, .val (.long j2), .second, .val (.long j4), .second, .val (.int i6), .val (.int i7)] [(.int i7)])) (fun t k => ?_) ?_
      · show Steps p.tables e below (T0.setTop (mkF m 44 #[.val (.long j0), .second, .val (.long j2), .second, .val (.long j4), .second, .val (.int i6), .val (.int i7)] [(.int i6)])) t
        refine XS.ifNo X0.here hx rfl (hb hby at_44) rfl ((if0 _ _).trans (feq hc44_1).1) ?_
        show Steps p.tables e below (T0.setTop (mkF m 47 #[.val (.long j0), .second, .val (.long j2), .second, .val (.long j4), .second, .val (.int i6), .val (.int i7)] [])) t
        refine XS.iload X0.here hx rfl (hb hby at_47) rfl ?_
        exact k
      by_cases hc49_2 : i7 = (0 : Int32)
      · rw [if_pos hc49_2]
        refine Done.of (T' := T0) (g' := (mkF m 54 #[.val (.long j0), .second, .val (.long j2), .second, .val (.long j4), .second, .val (.int i6), .val (.int i7)] [])) (fun t k => ?_) ?_
        · show Steps p.tables e below (T0.setTop (mkF m 49 #[.val (.long j0), .second, .val (.long j2), .second, .val (.long j4), .second, .val (.int i6), .val (.int i7)] [(.int i7)])) t
          refine XS.ifYes X0.here hx rfl (pc0 := 49) (pc' := 54) rfl (hb hby at_49) rfl ((if0 _ _).trans (teq hc49_2).1) (by decide) (by decide) ?_
          exact k
        exact bk0_54 hx hZ hw hby hml hown hnm hret hlk X0 N0 e0 j0 j2 j4 i6 i7
      · rw [if_neg hc49_2]
        refine Done.of (T' := T0) (g' := (mkF m 53 #[.val (.long j0), .second, .val (.long j2), .second, .val (.long j4), .second, .val (.int i6), .val (.int i7)] [(.int (0 : Int32))])) (fun t k => ?_) ?_
        · show Steps p.tables e below (T0.setTop (mkF m 49 #[.val (.long j0), .second, .val (.long j2), .second, .val (.long j4), .second, .val (.int i6), .val (.int i7)] [(.int i7)])) t
          refine XS.ifNo X0.here hx rfl (hb hby at_49) rfl ((if0 _ _).trans (feq hc49_2).1) ?_
          show Steps p.tables e below (T0.setTop (mkF m 52 #[.val (.long j0), .second, .val (.long j2), .second, .val (.long j4), .second, .val (.int i6), .val (.int i7)] [])) t
          refine XS.iconst X0.here hx rfl (hb hby at_52) ?_
          exact k
        exact doneN (t := .boolean) X0 (by simp) hx hret hlk (hb hby at_53) ⟨rfl, N0⟩ (by decide) (by decide)
def F0_0 (q1 : Int64) (q2 : Int64) (q3 : Int64) : Int32 := (if (F1_0 q1 q1) = (0 : Int32) then (0 : Int32) else (if (F1_0 q1 q2) = (0 : Int32) then (if (F1_0 q2 q1) = (0 : Int32) then (0 : Int32) else (F0_36 q1 q2 q3 (F1_0 q1 q2) (F1_0 q2 q1))) else (F0_36 q1 q2 q3 (F1_0 q1 q2) (F1_0 q2 q1))))
set_option maxRecDepth 65536 in
set_option maxHeartbeats 40000000 in
theorem bk0_0 {p : Program} {l : Launch} {e : Env} {s : State} {m : MethodId} {args : Array Value} {below : List Frame} {meth : Method} {c : Code} {T0 : State} {locs : List Loc} {Z : State} {a0 : Array Value} {h0 : Heap} {n0 : Nat}
    (hx : p.tables.exec = Jvm.exec) (hZ : Z.Warmed39 s.vm) (hw : ∀ d ∈ tables_1, d.before a0 Z = true) (hby : c.code = code) (hml : c.maxLocals = 8) (hown : s.vm.findClass "com/example/noreply/noreply/engine/ExpirationIsExpiredPinLaw" = some m.cls) (hnm : meth.name = "law") (hret : meth.sig.returnType = some .boolean) (hlk : meth.locks = false)
    (X0 : Stand p l e room_1 s m args below meth c T0 locs 0 0) (N0 : Fr n0 locs) (e0 : T0.heap = h0) (q1 : Int64) (q2 : Int64) (q3 : Int64) :
    Done p e below s room_1 (Ql n0 (.int (F0_0 q1 q2 q3))) T0 (mkF m 0 #[.val (.long q1), .second, .val (.long q2), .second, .val (.long q3), .second, .unset, .unset] []) := by
  unfold F0_0
  refine Done.of (T' := T0) (g' := (mkF m 2 #[.val (.long q1), .second, .val (.long q2), .second, .val (.long q3), .second, .unset, .unset] [(.long q2), (.long q1)])) (fun t k => ?_) ?_
  · show Steps p.tables e below (T0.setTop (mkF m 0 #[.val (.long q1), .second, .val (.long q2), .second, .val (.long q3), .second, .unset, .unset] [])) t
    refine XS.lloadN X0.here hx rfl (hb hby at_0) rfl ?_
    show Steps p.tables e below (T0.setTop (mkF m 1 #[.val (.long q1), .second, .val (.long q2), .second, .val (.long q3), .second, .unset, .unset] [(.long q1)])) t
    refine XS.lloadN X0.here hx rfl (hb hby at_1) rfl ?_
    exact k
  obtain ⟨_, _, ⟨T1, L1, k1, n1⟩, -, X1, ⟨Lc1, hQ1, l1, y1, z1⟩, st1⟩ := Jvm.LawKit.callS X0 hx (y := (⟨"com/example/noreply/noreply/engine/Expiration", "isExpired", "(JJ)Z"⟩ : MethodName)) hown (mvT hZ (hw _ (List.mem_of_getElem? (i := 0) rfl))) (mvT hZ (hw _ (List.mem_of_getElem? (i := 1) rfl))) (mvT hZ (hw _ (List.mem_of_getElem? (i := 2) rfl))) (mvT hZ (hw _ (List.mem_of_getElem? (i := 3) rfl))) (by decide) (backOf (W := 0) (rm1 l Z a0 hw [] q1 q2 h0 n0) hZ (hw _ (List.mem_of_getElem? (i := 3) rfl)) (hw _ (List.mem_of_getElem? (i := 2) rfl)) (by decide) (by decide)) (g := (mkF m 2 #[.val (.long q1), .second, .val (.long q2), .second, .val (.long q3), .second, .unset, .unset] [(.long q2), (.long q1)])) rfl (by rw [hml]; rfl) (argsL := [(.long q1), (.long q2)]) (rest := []) (lenOf pd_0 rfl) rfl (by show 2 * 0 + _ ≤ _; exact Nat.le_of_eq rfl) (hb hby at_2) (fun _ _ => ⟨rfl, e0, (by decide : 0 + 0 ≤ _), (by decide : 0 + 0 ≤ _)⟩)
  dsimp only [Pt.U, Pt.locs, Pt.cells, Pt.slots] at X1 l1 y1 z1 st1 hQ1
  subst l1 y1 z1
  obtain ⟨rfl, N1q, e1⟩ := hQ1
  have N1 := Fr.app N0 N1q
  replace X1 : Stand p l e room_1 s m args below meth c T1 _ 0 0 := X1
  refine Done.of (g' := (mkF m 5 #[.val (.long q1), .second, .val (.long q2), .second, .val (.long q3), .second, .unset, .unset] [(.int (F1_0 q1 q2))])) st1 ?_
  refine Done.of (T' := T1) (g' := (mkF m 9 #[.val (.long q1), .second, .val (.long q2), .second, .val (.long q3), .second, .val (.int (F1_0 q1 q2)), .unset] [(.long q1), (.long q1)])) (fun t k => ?_) ?_
  · show Steps p.tables e below (T1.setTop (mkF m 5 #[.val (.long q1), .second, .val (.long q2), .second, .val (.long q3), .second, .unset, .unset] [(.int (F1_0 q1 q2))])) t
    refine XS.istore X1.here hx rfl (hb hby at_5) rfl (l' := #[.val (.long q1), .second, .val (.long q2), .second, .val (.long q3), .second, .val (.int (F1_0 q1 q2)), .unset]) rfl ?_
    show Steps p.tables e below (T1.setTop (mkF m 7 #[.val (.long q1), .second, .val (.long q2), .second, .val (.long q3), .second, .val (.int (F1_0 q1 q2)), .unset] [])) t
    refine XS.lloadN X1.here hx rfl (hb hby at_7) rfl ?_
    show Steps p.tables e below (T1.setTop (mkF m 8 #[.val (.long q1), .second, .val (.long q2), .second, .val (.long q3), .second, .val (.int (F1_0 q1 q2)), .unset] [(.long q1)])) t
    refine XS.lloadN X1.here hx rfl (hb hby at_8) rfl ?_
    exact k
  obtain ⟨_, _, ⟨T2, L2, k2, n2⟩, -, X2, ⟨Lc2, hQ2, l2, y2, z2⟩, st2⟩ := Jvm.LawKit.callS X1 hx (y := (⟨"com/example/noreply/noreply/engine/Expiration", "isExpired", "(JJ)Z"⟩ : MethodName)) hown (mvT hZ (hw _ (List.mem_of_getElem? (i := 0) rfl))) (mvT hZ (hw _ (List.mem_of_getElem? (i := 1) rfl))) (mvT hZ (hw _ (List.mem_of_getElem? (i := 2) rfl))) (mvT hZ (hw _ (List.mem_of_getElem? (i := 3) rfl))) (by decide) (backOf (W := 0) (rm1 l Z a0 hw [] q1 q1 h0 n0) hZ (hw _ (List.mem_of_getElem? (i := 3) rfl)) (hw _ (List.mem_of_getElem? (i := 2) rfl)) (by decide) (by decide)) (g := (mkF m 9 #[.val (.long q1), .second, .val (.long q2), .second, .val (.long q3), .second, .val (.int (F1_0 q1 q2)), .unset] [(.long q1), (.long q1)])) rfl (by rw [hml]; rfl) (argsL := [(.long q1), (.long q1)]) (rest := []) (lenOf pd_0 rfl) rfl (by show 2 * 0 + _ ≤ _; exact Nat.le_of_eq rfl) (hb hby at_9) (fun _ _ => ⟨rfl, e1, (by decide : 0 + 0 ≤ _), (by decide : 0 + 0 ≤ _)⟩)
  dsimp only [Pt.U, Pt.locs, Pt.cells, Pt.slots] at X2 l2 y2 z2 st2 hQ2
  subst l2 y2 z2
  obtain ⟨rfl, N2q, e2⟩ := hQ2
  have N2 := Fr.app N1 N2q
  replace X2 : Stand p l e room_1 s m args below meth c T2 _ 0 0 := X2
  refine Done.of (g' := (mkF m 12 #[.val (.long q1), .second, .val (.long q2), .second, .val (.long q3), .second, .val (.int (F1_0 q1 q2)), .unset] [(.int (F1_0 q1 q1))])) st2 ?_
  by_cases hc12_2 : (F1_0 q1 q1) = (0 : Int32)
  · rw [if_pos hc12_2]
    refine Done.of (T' := T2) (g' := (mkF m 16 #[.val (.long q1), .second, .val (.long q2), .second, .val (.long q3), .second, .val (.int (F1_0 q1 q2)), .unset] [(.int (0 : Int32))])) (fun t k => ?_) ?_
    · show Steps p.tables e below (T2.setTop (mkF m 12 #[.val (.long q1), .second, .val (.long q2), .second, .val (.long q3), .second, .val (.int (F1_0 q1 q2)), .unset] [(.int (F1_0 q1 q1))])) t
      refine XS.ifNo X2.here hx rfl (hb hby at_12) rfl ((if0 _ _).trans (teq hc12_2).2) ?_
      show Steps p.tables e below (T2.setTop (mkF m 15 #[.val (.long q1), .second, .val (.long q2), .second, .val (.long q3), .second, .val (.int (F1_0 q1 q2)), .unset] [])) t
      refine XS.iconst X2.here hx rfl (hb hby at_15) ?_
      exact k
    exact doneN (t := .boolean) X2 (by simp) hx hret hlk (hb hby at_16) ⟨rfl, N2⟩ (by decide) (by decide)
  · rw [if_neg hc12_2]
    refine Done.of (T' := T2) (g' := (mkF m 19 #[.val (.long q1), .second, .val (.long q2), .second, .val (.long q3), .second, .val (.int (F1_0 q1 q2)), .unset] [(.long q1), (.long q2)])) (fun t k => ?_) ?_
    · show Steps p.tables e below (T2.setTop (mkF m 12 #[.val (.long q1), .second, .val (.long q2), .second, .val (.long q3), .second, .val (.int (F1_0 q1 q2)), .unset] [(.int (F1_0 q1 q1))])) t
      refine XS.ifYes X2.here hx rfl (pc0 := 12) (pc' := 17) rfl (hb hby at_12) rfl ((if0 _ _).trans (feq hc12_2).2) (by decide) (by decide) ?_
      show Steps p.tables e below (T2.setTop (mkF m 17 #[.val (.long q1), .second, .val (.long q2), .second, .val (.long q3), .second, .val (.int (F1_0 q1 q2)), .unset] [])) t
      refine XS.lloadN X2.here hx rfl (hb hby at_17) rfl ?_
      show Steps p.tables e below (T2.setTop (mkF m 18 #[.val (.long q1), .second, .val (.long q2), .second, .val (.long q3), .second, .val (.int (F1_0 q1 q2)), .unset] [(.long q2)])) t
      refine XS.lloadN X2.here hx rfl (hb hby at_18) rfl ?_
      exact k
    obtain ⟨_, _, ⟨T4, L4, k4, n4⟩, -, X4, ⟨Lc4, hQ4, l4, y4, z4⟩, st4⟩ := Jvm.LawKit.callS X2 hx (y := (⟨"com/example/noreply/noreply/engine/Expiration", "isExpired", "(JJ)Z"⟩ : MethodName)) hown (mvT hZ (hw _ (List.mem_of_getElem? (i := 0) rfl))) (mvT hZ (hw _ (List.mem_of_getElem? (i := 1) rfl))) (mvT hZ (hw _ (List.mem_of_getElem? (i := 2) rfl))) (mvT hZ (hw _ (List.mem_of_getElem? (i := 3) rfl))) (by decide) (backOf (W := 0) (rm1 l Z a0 hw [] q2 q1 h0 n0) hZ (hw _ (List.mem_of_getElem? (i := 3) rfl)) (hw _ (List.mem_of_getElem? (i := 2) rfl)) (by decide) (by decide)) (g := (mkF m 19 #[.val (.long q1), .second, .val (.long q2), .second, .val (.long q3), .second, .val (.int (F1_0 q1 q2)), .unset] [(.long q1), (.long q2)])) rfl (by rw [hml]; rfl) (argsL := [(.long q2), (.long q1)]) (rest := []) (lenOf pd_0 rfl) rfl (by show 2 * 0 + _ ≤ _; exact Nat.le_of_eq rfl) (hb hby at_19) (fun _ _ => ⟨rfl, e2, (by decide : 0 + 0 ≤ _), (by decide : 0 + 0 ≤ _)⟩)
    dsimp only [Pt.U, Pt.locs, Pt.cells, Pt.slots] at X4 l4 y4 z4 st4 hQ4
    subst l4 y4 z4
    obtain ⟨rfl, N4q, e4⟩ := hQ4
    have N4 := Fr.app N2 N4q
    replace X4 : Stand p l e room_1 s m args below meth c T4 _ 0 0 := X4
    refine Done.of (g' := (mkF m 22 #[.val (.long q1), .second, .val (.long q2), .second, .val (.long q3), .second, .val (.int (F1_0 q1 q2)), .unset] [(.int (F1_0 q2 q1))])) st4 ?_
    refine Done.of (T' := T4) (g' := (mkF m 26 #[.val (.long q1), .second, .val (.long q2), .second, .val (.long q3), .second, .val (.int (F1_0 q1 q2)), .val (.int (F1_0 q2 q1))] [(.int (F1_0 q1 q2))])) (fun t k => ?_) ?_
    · show Steps p.tables e below (T4.setTop (mkF m 22 #[.val (.long q1), .second, .val (.long q2), .second, .val (.long q3), .second, .val (.int (F1_0 q1 q2)), .unset] [(.int (F1_0 q2 q1))])) t
      refine XS.istore X4.here hx rfl (hb hby at_22) rfl (l' := #[.val (.long q1), .second, .val (.long q2), .second, .val (.long q3), .second, .val (.int (F1_0 q1 q2)), .val (.int (F1_0 q2 q1))]) rfl ?_
      show Steps p.tables e below (T4.setTop (mkF m 24 #[.val (.long q1), .second, .val (.long q2), .second, .val (.long q3), .second, .val (.int (F1_0 q1 q2)), .val (.int (F1_0 q2 q1))] [])) t
      refine XS.iload X4.here hx rfl (hb hby at_24) rfl ?_
      exact k
    by_cases hc26_4 : (F1_0 q1 q2) = (0 : Int32)
    · rw [if_pos hc26_4]
      refine Done.of (T' := T4) (g' := (mkF m 31 #[.val (.long q1), .second, .val (.long q2), .second, .val (.long q3), .second, .val (.int (F1_0 q1 q2)), .val (.int (F1_0 q2 q1))] [(.int (F1_0 q2 q1))])) (fun t k => ?_) ?_
      · show Steps p.tables e below (T4.setTop (mkF m 26 #[.val (.long q1), .second, .val (.long q2), .second, .val (.long q3), .second, .val (.int (F1_0 q1 q2)), .val (.int (F1_0 q2 q1))] [(.int (F1_0 q1 q2))])) t
        refine XS.ifNo X4.here hx rfl (hb hby at_26) rfl ((if0 _ _).trans (teq hc26_4).2) ?_
        show Steps p.tables e below (T4.setTop (mkF m 29 #[.val (.long q1), .second, .val (.long q2), .second, .val (.long q3), .second, .val (.int (F1_0 q1 q2)), .val (.int (F1_0 q2 q1))] [])) t
        refine XS.iload X4.here hx rfl (hb hby at_29) rfl ?_
        exact k
      by_cases hc31_5 : (F1_0 q2 q1) = (0 : Int32)
      · rw [if_pos hc31_5]
        refine Done.of (T' := T4) (g' := (mkF m 35 #[.val (.long q1), .second, .val (.long q2), .second, .val (.long q3), .second, .val (.int (F1_0 q1 q2)), .val (.int (F1_0 q2 q1))] [(.int (0 : Int32))])) (fun t k => ?_) ?_
        · show Steps p.tables e below (T4.setTop (mkF m 31 #[.val (.long q1), .second, .val (.long q2), .second, .val (.long q3), .second, .val (.int (F1_0 q1 q2)), .val (.int (F1_0 q2 q1))] [(.int (F1_0 q2 q1))])) t
          refine XS.ifNo X4.here hx rfl (hb hby at_31) rfl ((if0 _ _).trans (teq hc31_5).2) ?_
          show Steps p.tables e below (T4.setTop (mkF m 34 #[.val (.long q1), .second, .val (.long q2), .second, .val (.long q3), .second, .val (.int (F1_0 q1 q2)), .val (.int (F1_0 q2 q1))] [])) t
          refine XS.iconst X4.here hx rfl (hb hby at_34) ?_
          exact k
        exact doneN (t := .boolean) X4 (by simp) hx hret hlk (hb hby at_35) ⟨rfl, N4⟩ (by decide) (by decide)
      · rw [if_neg hc31_5]
        refine Done.of (T' := T4) (g' := (mkF m 36 #[.val (.long q1), .second, .val (.long q2), .second, .val (.long q3), .second, .val (.int (F1_0 q1 q2)), .val (.int (F1_0 q2 q1))] [])) (fun t k => ?_) ?_
        · show Steps p.tables e below (T4.setTop (mkF m 31 #[.val (.long q1), .second, .val (.long q2), .second, .val (.long q3), .second, .val (.int (F1_0 q1 q2)), .val (.int (F1_0 q2 q1))] [(.int (F1_0 q2 q1))])) t
          refine XS.ifYes X4.here hx rfl (pc0 := 31) (pc' := 36) rfl (hb hby at_31) rfl ((if0 _ _).trans (feq hc31_5).2) (by decide) (by decide) ?_
          exact k
        exact bk0_36 hx hZ hw hby hml hown hnm hret hlk X4 N4 e4 q1 q2 q3 (F1_0 q1 q2) (F1_0 q2 q1)
    · rw [if_neg hc26_4]
      refine Done.of (T' := T4) (g' := (mkF m 36 #[.val (.long q1), .second, .val (.long q2), .second, .val (.long q3), .second, .val (.int (F1_0 q1 q2)), .val (.int (F1_0 q2 q1))] [])) (fun t k => ?_) ?_
      · show Steps p.tables e below (T4.setTop (mkF m 26 #[.val (.long q1), .second, .val (.long q2), .second, .val (.long q3), .second, .val (.int (F1_0 q1 q2)), .val (.int (F1_0 q2 q1))] [(.int (F1_0 q1 q2))])) t
        refine XS.ifYes X4.here hx rfl (pc0 := 26) (pc' := 36) rfl (hb hby at_26) rfl ((if0 _ _).trans (feq hc26_4).2) (by decide) (by decide) ?_
        exact k
      exact bk0_36 hx hZ hw hby hml hown hnm hret hlk X4 N4 e4 q1 q2 q3 (F1_0 q1 q2) (F1_0 q2 q1)
theorem own_z (a b : Int64) : (F1_0 a b = 0) ↔ b.toInt < a.toInt := by
  unfold F1_0; rw [← Int64.lt_iff_toInt_lt]; by_cases h : b < a <;> simp [h]
theorem own_o (a b : Int64) : (F1_0 a b = 1) ↔ ¬ b.toInt < a.toInt := by
  unfold F1_0; rw [← Int64.lt_iff_toInt_lt]; by_cases h : b < a <;> simp [h]
theorem own_n (a b : Int64) (h : ¬ b.toInt < a.toInt) : ¬ F1_0 a b = 0 := fun q => h ((own_z a b).mp q)
theorem own_99 (j0 j2 j4 : Int64) (i6 i7 : Int32) : F0_99 j0 j2 j4 i6 i7 = 1 := by
  have r := rng64 j2
  have lm : (-9223372036854775808 : Int64).toInt = -9223372036854775808 := rfl
  have lM : (9223372036854775807 : Int64).toInt = 9223372036854775807 := rfl
  unfold F0_99 F0_131
  rw [if_neg (own_n _ _ (by omega))]
  by_cases h : j2 = (9223372036854775807 : Int64)
  · rw [if_pos h, if_pos ((own_o _ _).mpr (by rw [h]; omega))]
  · rw [if_neg h, if_pos ((own_z _ _).mpr (by rw [← Int64.toInt_inj] at h; omega))]
theorem own_79 (j0 j2 j4 : Int64) (i6 i7 : Int32) : F0_79 j0 j2 j4 i6 i7 = 1 := by
  have r := rng64 j2
  have lM : (9223372036854775807 : Int64).toInt = 9223372036854775807 := rfl
  have l1 : (1 : Int64).toInt = 1 := rfl
  have ha := c_ladd j2 1
  have ra := rng64 (j2 + 1)
  unfold F0_79
  by_cases h : j2 = (9223372036854775807 : Int64)
  · rw [if_pos h]; exact own_99 _ _ _ _ _
  · rw [if_neg h, if_pos ((own_z _ _).mpr (by rw [← Int64.toInt_inj] at h; omega))]; exact own_99 _ _ _ _ _
theorem own_54 (j0 j2 j4 : Int64) (i7 : Int32) : F0_54 j0 j2 j4 (F1_0 j0 j2) i7 = 1 := by
  unfold F0_54
  by_cases h : F1_0 j0 j2 = 0
  · rw [if_pos h]; exact own_79 _ _ _ _ _
  · rw [if_neg h]
    by_cases h2 : F1_0 j2 j4 = 0
    · rw [if_pos h2]; exact own_79 _ _ _ _ _
    · rw [if_neg h2, if_neg (own_n _ _ (by rw [own_z] at h h2; omega))]; exact own_79 _ _ _ _ _
theorem own_36 (j0 j2 j4 : Int64) : F0_36 j0 j2 j4 (F1_0 j0 j2) (F1_0 j2 j0) = 1 := by
  unfold F0_36
  by_cases h : j0 = j2
  · rw [if_pos h]; exact own_54 _ _ _ _
  · rw [if_neg h]
    by_cases h1 : F1_0 j0 j2 = 0
    · rw [if_pos h1]; exact own_54 _ _ _ _
    · rw [if_neg h1]
      have h2 : F1_0 j2 j0 = 0 := by
        rw [own_z] at h1 ⊢; rw [← Int64.toInt_inj] at h; omega
      rw [if_pos h2]; exact own_54 _ _ _ _
theorem own_law (q1 q2 q3 : Int64) : F0_0 q1 q2 q3 = 1 := by
  unfold F0_0
  rw [if_neg (own_n _ _ (by omega))]
  by_cases h : F1_0 q1 q2 = 0
  · rw [if_pos h, if_neg (own_n _ _ (by rw [own_z] at h; omega))]; exact own_36 _ _ _
  · rw [if_neg h]; exact own_36 _ _ _
theorem ef_0 (m : MethodId) (q1 : Int64) (q2 : Int64) (q3 : Int64) : entryFrame m #[(.long q1), (.long q2), (.long q3)] maxLocals = mkF m 0 #[.val (.long q1), .second, .val (.long q2), .second, .val (.long q3), .second, .unset, .unset] [] := by first | (simp [entryFrame, mkF, argsToLocals, Value.category, maxLocals]; done) | rfl
theorem pn_0 : plainName "com/example/noreply/noreply/engine/ExpirationIsExpiredPinLaw" = true := by first | (simp [plainName, overriddenIn]; done) | decide +kernel
set_option maxRecDepth 65536 in
set_option maxHeartbeats 40000000 in
theorem rm0 (l : Launch) (Z : State) (a0 : Array Value) (hw : ∀ d ∈ tables_1, d.before a0 Z = true) (ws : List Jvm.Cond) (q1 : Int64) (q2 : Int64) (q3 : Int64) (h0 : Heap) (n0 : Nat) :
    MetFree l x (head1 (Jvm.Cond.code x code maxLocals ret :: ws) room_1) (fun a U => a = #[(.long q1), (.long q2), (.long q3)] ∧ Z.Warmed39 U.vm ∧ U.heap = h0) (fun _ _ _ _ _ => True) (fun _ U o U' => ∃ v L, o = .returned v ∧ (Ql n0 (.int 1)) v U'.heap L ∧ FrameEnd U o U' L room_1.cells room_1.slots) := by
  refine MetFree.of_bodySF (plainFor_of_name pn_0) hisR ?_
  intro p e s m args below meth c s₁ Bd hml0 hP hK
  obtain ⟨rfl, hZ, hh⟩ := hP
  have hown : s.vm.findClass "com/example/noreply/noreply/engine/ExpirationIsExpiredPinLaw" = some m.cls := findClass_of_methodNamed Bd.named
  have hnm := (name_of_methodNamed Bd.named Bd.method).1
  have X0 : Stand p l e room_1 s m #[(.long q1), (.long q2), (.long q3)] below meth c s₁ [] 0 0 := Stand.of_body Bd
  have e0 : s₁.heap = h0 := by rw [← hh, Bd.state]; rfl
  have d := bk0_0 (n0 := n0) Bd.exec hZ hw Bd.bytes hml0 hown hnm Bd.returns (BodyLoose.notSynchronized Bd) X0 (Fr.nil n0) e0 q1 q2 q3
  rw [own_law q1 q2 q3] at d
  have d2 : Done p e below s room_1 (Ql n0 (.int 1)) s₁ (entryFrame m #[(.long q1), (.long q2), (.long q3)] maxLocals) := by rw [ef_0]; exact d
  exact d2
set_option maxRecDepth 65536 in
set_option maxHeartbeats 40000000 in
theorem comes_1 {Post : Tables → Env → Array Value → State → Outcome → State → Prop} (hpost : ∀ tb e args s v u, (limb_1_1.after args s (.returned v) u = true ∧ limb_1_2.after args s (.returned v) u = true ∧ True) → FrameEnd s (.returned v) u (Jvm.fieldLocs frame_1_writes args s ++ Jvm.arrayLocs frame_1_arrays args s ++ Jvm.staticLocs frame_1_statics s) 0 0 → Post tb e args s (.returned v) u) :
    ArmFor flags0 classFile x code maxLocals ret World_1 tables_1 room_1 Calls_1 rest_1 Pre_1 Post := by
  intro l hfl _ _ p e ha hc hk s m args below hf hA hF happ hP
  obtain ⟨hcalls, hrest, hpre⟩ := hP
  obtain ⟨-, -, -, hnamed, -, -, -, hat⟩ := (Spec.applies_iff hf).mp happ
  obtain ⟨hg, hn⟩ := and_e (Cond.before_iff.mp (show (Jvm.Cond.and given_1 narrow_1).before args s = true from hpre))
  obtain ⟨g0, r0⟩ := and_e hg
  obtain ⟨v0, r1⟩ := and_e r0
  obtain ⟨v1, r2⟩ := and_e r1
  obtain ⟨w0, w1, w2, rfl⟩ : ∃ w0 w1 w2 : Value, args = #[w0, w1, w2] := by
    have hs : args.size = 3 := by simpa [Cond.value, given_1] using g0
    obtain ⟨L⟩ := args
    match L, hs with
    | [w0, w1, w2], _ => exact ⟨w0, w1, w2, rfl⟩
  have hw := fun d (hd : d ∈ tables_1) => atoms_spec (ws := Jvm.Cond.code x code maxLocals ret :: tables_1) hat d (List.mem_cons_of_mem _ hd)
  obtain ⟨i0, ei0⟩ := isL_v v0
  obtain rfl : w0 = (.long i0) := Option.some.inj ei0
  obtain ⟨i1, ei1⟩ := isL_v v1
  obtain rfl : w1 = (.long i1) := Option.some.inj ei1
  obtain ⟨i2, ei2⟩ := isL_v r2
  obtain rfl : w2 = (.long i2) := Option.some.inj ei2
  obtain ⟨n, o, h1, h2, h3, _, L, rfl, ⟨rfl, N⟩, hq⟩ := rm0 l s _ hw tables_1 i0 i1 i2 s.heap s.heap.size p e ha hc hk s m _ below hf ((Spec.applies_iff_loose hf).mp happ).1 ⟨rfl, State.Warmed39.refl s, rfl⟩ trivial
  refine ⟨n, _, h1, h2, h3, hpost _ _ _ _ _ _ ⟨Cond.after_iff.mpr rfl, Cond.after_iff.mpr (eq_i res_at (Term.int_eval (1)) rfl), trivial⟩ ⟨hq.1, hq.2.1, (hq.2.2.sift fun y hy => Or.inr (N y hy)).mono (by decide) (by decide)⟩⟩
theorem main_1_1 : Claimed_1_1 := comes_1 fun _ _ _ _ _ _ h hF => ⟨h.1, hF⟩
theorem main_1_2 : Claimed_1_2 := comes_1 fun _ _ _ _ _ _ h hF => ⟨h.2.1, hF⟩
end Jvm.Pilot.@@N@@
namespace Jvm.Pilot.@@N@@
open Jvm Jvm.ClassFile Sem Op Lib Jvm.Free Jvm.Stand Jvm.Pilot.@@N@@.Jvm.D
/-! MADE BY PROGRAM (witnessworld.py) out of the Statement's table words and the real class files: 7 classes; the members and pool entries that the words name. The judged class is class 1, her method 1. -/
namespace start1
open Jvm.ClassFile
def u (s : String) : CpInfo := .utf8 (stringToUtf16 s)
/-- a pool by its gaps: so many unusable entries, then the entry; so many at the end -/
def gap : Nat → List CpInfo → List CpInfo
  | 0, r => r
  | n + 1, r => .unusable :: gap n r
def poolList (es : List (Nat × CpInfo)) (last : Nat) : List CpInfo := es.foldr (fun e r => gap e.1 (e.2 :: r)) (gap last [])
def pool (es : List (Nat × CpInfo)) (last : Nat) : Array CpInfo := ⟨poolList es last⟩
def fileOf (pool : Array CpInfo) (this : Nat) (attrs : Array Attribute := #[]) (ms : Array MethodInfo := #[]) (fl : Nat := 33) (sup : Nat := 0) (ifs : Array Nat := #[]) (fds : Array FieldInfo := #[]) : ClassFile where
  minorVersion := 0
  majorVersion := 65
  constantPool := pool
  accessFlags := fl
  thisClass := this
  superClass := sup
  interfaces := ifs
  fields := fds
  methods := ms
  attributes := attrs
def plain (name : String) (sup : Option ClassId) : Class where
  name := name
  kind := .ordinary
  loader := none
  accessFlags := 33
  super := sup
  interfaces := #[]
  cf := none
  fields := #[]
  methods := #[]
  instanceTypes := #[]
  staticTypes := #[]
  resolved := #[]
  callSites := []
  init := .initialized
  statics := none
  mirror := none

def pool0 : Array CpInfo := pool [(5, u "<init>"), (0, u "()V"), (1, .class_ 10), (1, u "java/lang/Object")] 113

def k0m0 : Method := { name := "<init>", desc := "()V", sig := { parameters := [], returnType := none }, accessFlags := 1, code := none }
/-- java/lang/Object -/
def k0 : Class := { plain "java/lang/Object" none with
  accessFlags := 33
  interfaces := #[]
  cf := some (fileOf pool0 8 #[] #[{ accessFlags := 1, nameIndex := 5, descriptorIndex := 6, attributes := #[] }] 33 0 #[] #[])
  fields := #[]
  methods := #[k0m0]
  instanceTypes := #[]
  staticTypes := #[]
  resolved := Array.replicate 124 none
  statics := none }

def pool1 : Array CpInfo := pool [(2, .class_ 4), (1, u "java/lang/Object"), (0, u "<init>"), (0, u "()V"), (0, .methodref 8 9), (0, .class_ 10), (0, .nameAndType 11 12), (0, u "com/example/noreply/noreply/engine/Expiration"), (0, u "isExpired"), (0, u "(JJ)Z"), (2, .long 9223372036854775807), (1, .long 9223372036854775808), (1, .class_ 20), (0, u "com/example/noreply/noreply/engine/ExpirationIsExpiredPinLaw"), (2, u "law"), (0, u "(JJJ)Z")] 3

def k1m0 : Method := { name := "<init>", desc := "()V", sig := { parameters := [], returnType := none }, accessFlags := 2, code := none }
def k1c1 : Code := { maxStack := 5, maxLocals := 8, code := code, exceptionTable := #[], attributes := #[] }
def k1m1 : Method := { name := "law", desc := "(JJJ)Z", sig := { parameters := [.long, .long, .long], returnType := some .boolean }, accessFlags := 9, code := some k1c1 }
/-- com/example/noreply/noreply/engine/ExpirationIsExpiredPinLaw -/
def k1 : Class := { plain "com/example/noreply/noreply/engine/ExpirationIsExpiredPinLaw" (some 0) with
  accessFlags := 49
  interfaces := #[]
  cf := some (fileOf pool1 19 #[] #[{ accessFlags := 2, nameIndex := 5, descriptorIndex := 6, attributes := #[] }, { accessFlags := 9, nameIndex := 23, descriptorIndex := 24, attributes := #[] }] 49 2 #[] #[])
  fields := #[]
  methods := #[k1m0, k1m1]
  instanceTypes := #[]
  staticTypes := #[]
  resolved := Array.replicate 28 none
  statics := none }

def pool2 : Array CpInfo := pool [(4, .class_ 6), (1, u "java/lang/Object"), (0, u "<init>"), (0, u "()V"), (0, .class_ 10), (0, u "com/example/noreply/noreply/engine/Expiration"), (10, u "NEVER"), (0, u "J"), (1, u "MAX_RELATIVE_SECONDS"), (0, u "ALREADY_EXPIRED"), (0, u "MILLIS_PER_SECOND"), (5, u "isExpired"), (0, u "(JJ)Z")] 2

def k2m0 : Method := { name := "<init>", desc := "()V", sig := { parameters := [], returnType := none }, accessFlags := 2, code := none }
def k2c1 : Code := { maxStack := 4, maxLocals := 4, code := prog_5_method_3_code, exceptionTable := #[], attributes := #[] }
def k2m1 : Method := { name := "isExpired", desc := "(JJ)Z", sig := { parameters := [.long, .long], returnType := some .boolean }, accessFlags := 9, code := some k2c1 }
/-- com/example/noreply/noreply/engine/Expiration -/
def k2 : Class := { plain "com/example/noreply/noreply/engine/Expiration" (some 0) with
  accessFlags := 49
  interfaces := #[]
  cf := some (fileOf pool2 9 #[] #[{ accessFlags := 2, nameIndex := 7, descriptorIndex := 8, attributes := #[] }, { accessFlags := 9, nameIndex := 32, descriptorIndex := 33, attributes := #[] }] 49 4 #[] #[{ accessFlags := 25, nameIndex := 21, descriptorIndex := 22, attributes := #[] }, { accessFlags := 25, nameIndex := 24, descriptorIndex := 22, attributes := #[] }, { accessFlags := 26, nameIndex := 25, descriptorIndex := 22, attributes := #[] }, { accessFlags := 26, nameIndex := 26, descriptorIndex := 22, attributes := #[] }])
  fields := #[{ name := "NEVER", type := .long, accessFlags := 25, slot := 0, constantValue := 0 }, { name := "MAX_RELATIVE_SECONDS", type := .long, accessFlags := 25, slot := 1, constantValue := 0 }, { name := "ALREADY_EXPIRED", type := .long, accessFlags := 26, slot := 2, constantValue := 0 }, { name := "MILLIS_PER_SECOND", type := .long, accessFlags := 26, slot := 3, constantValue := 0 }]
  methods := #[k2m0, k2m1]
  instanceTypes := #[]
  staticTypes := #[.long, .long, .long, .long]
  resolved := Array.replicate 36 none
  statics := none }

def pool3 : Array CpInfo := pool [(1, u "java/lang/Cloneable"), (0, .class_ 1), (0, u "java/lang/Object"), (0, .class_ 3)] 3

/-- java/lang/Cloneable -/
def k3 : Class := { plain "java/lang/Cloneable" (some 0) with
  accessFlags := 1537
  interfaces := #[]
  cf := some (fileOf pool3 2 #[] #[] 1537 4 #[] #[])
  fields := #[]
  methods := #[]
  instanceTypes := #[]
  staticTypes := #[]
  resolved := Array.replicate 8 none
  statics := none }

def pool4 : Array CpInfo := pool [(1, u "java/io/Serializable"), (0, .class_ 1), (0, u "java/lang/Object"), (0, .class_ 3)] 3

/-- java/io/Serializable -/
def k4 : Class := { plain "java/io/Serializable" (some 0) with
  accessFlags := 1537
  interfaces := #[]
  cf := some (fileOf pool4 2 #[] #[] 1537 4 #[] #[])
  fields := #[]
  methods := #[]
  instanceTypes := #[]
  staticTypes := #[]
  resolved := Array.replicate 8 none
  statics := none }

/-- the primitive byte -/
def k5 : Class := { plain "byte" none with kind := .primitive 'B', accessFlags := 0x411 }
/-- [B -/
def k6 : Class := { plain "[B" (some 0) with kind := .array 5 .byte, interfaces := #[3, 4], accessFlags := 1041 }

def heap : Heap := #[]
def classes : Array Class := #[k0, k1, k2, k3, k4, k5, k6]
def interned : List (Array UInt16 × Addr) := []
def slotsUsed : Nat := 0
def theMethod : MethodId := ⟨1, 1⟩
def args0 : Array Value := #[.long 5, .long 5, .long 5]
def aboutOver (below : List Frame) : State where
  vm := { classes := classes, interned := interned.toArray }
  heap := heap
  slotsUsed := slotsUsed
  threads := #[{ frames := .invoking theMethod args0 :: below }]
def below0 : List Frame := [.native { method := ⟨0, 0⟩, args := #[] }]
def about1 : State := aboutOver below0
def p0 : Program := .bare "" "" ""
def e0 : Env := launch0.env 0 0 0
theorem w_frames : about1.frames = Frame.invoking theMethod args0 :: below0 := rfl
set_option maxRecDepth 65536 in
theorem w_args : argsFit about1.vm theMethod args0 = true := by decide +kernel
set_option maxRecDepth 65536 in
theorem w_heap : heapFits about1 = true := by decide +kernel
set_option maxRecDepth 65536 in
theorem w_runnable : about1.curStatus? = some .runnable := by decide +kernel
set_option maxRecDepth 65536 in
theorem w_alone : about1.alone = true := by decide +kernel
set_option maxRecDepth 65536 in
theorem w_named : about1.methodNamed? x = some theMethod := by decide +kernel
set_option maxRecDepth 65536 in
theorem w_hears : about1.hears theMethod below0 = true := by decide +kernel
set_option maxRecDepth 65536 in
theorem w_ripe : about1.ripe theMethod args0 below0 = true := by decide +kernel
theorem w_running : about1.status = .running := rfl
set_option maxRecDepth 65536 in
theorem w_room : about1.hasRoom e0.platform room_1 = true :=
  launch0.hasRoom_least _ room_1 (by decide +kernel) (by decide +kernel) (by decide +kernel) (by decide +kernel) (by decide +kernel) (by decide +kernel)
theorem allAtoms_all (ts : List Jvm.Cond) (a : Array Jvm.Value) (st : Jvm.State) : (allAtoms ts).before a st = ts.all (fun c => c.before a st) := by
  induction ts with
  | nil => rfl
  | cons c t ih =>
    show (Jvm.Cond.and c (allAtoms t)).before a st = _
    rw [Jvm.Cond.before_and, ih, List.all_cons]
def words1 : List Jvm.Cond := Jvm.Cond.code x code maxLocals ret :: tables_1
/-- a 'code' word, met by the world's own term for the bytes: nothing is compared byte by byte -/
theorem code_word {y : MethodName} {bytes : ByteArray} {mx : Nat} {rt : Option FieldType} {a : Array Value} {s : State} {m : MethodId} {meth : Method} {c : Code} (h1 : s.methodNamed? y = some m) (h2 : s.vm.method? m = some meth) (h3 : meth.code = some c) (h4 : c.code = bytes)
    (h5 : (c.maxLocals == mx && c.exceptionTable.isEmpty && decide (c.maxStack ≤ mostOperands) && decide (meth.sig.returnType = rt) && !meth.locks && decide (parseMethodDescriptor y.desc = some meth.sig)) = true) : (Jvm.Cond.code y bytes mx rt).before a s = true := by
  simp only [Bool.and_eq_true, beq_iff_eq, Bool.not_eq_true', decide_eq_true_eq] at h5
  obtain ⟨⟨⟨⟨⟨g1, g2⟩, g3⟩, g4⟩, g5⟩, g6⟩ := h5
  simp [Cond.before, Cond.holds, Cond.value, h1, h2, h3, h4, g1, g2, g3, g4, g5, g6]
def isCode : Jvm.Cond → Bool
  | .code _ _ _ _ => true
  | _ => false
theorem all_split {L : List Jvm.Cond} {P : Jvm.Cond → Bool} (h1 : L.all (fun c => isCode c || P c) = true) (h2 : ∀ c ∈ L.filter isCode, P c = true) : L.all P = true := by
  refine List.all_eq_true.mpr fun c hc => ?_
  have h := List.all_eq_true.mp h1 c hc
  rcases Bool.eq_false_or_eq_true (isCode c) with hi | hi
  · exact h2 c (List.mem_filter.mpr ⟨hc, hi⟩)
  · simpa [hi] using h
set_option maxRecDepth 65536 in
theorem w_c0 : (Jvm.Cond.code x code maxLocals ret).before args0 about1 = true := code_word (m := ⟨1, 1⟩) (meth := k1m1) (c := k1c1) (by decide +kernel) rfl rfl rfl (by decide +kernel)
set_option maxRecDepth 65536 in
theorem w_c1 : (Jvm.Cond.code ({ cls := "com/example/noreply/noreply/engine/Expiration", name := "isExpired", desc := "(JJ)Z" } : Jvm.MethodName) prog_5_method_3_code (4 : Nat) (Option.some Jvm.ClassFile.FieldType.boolean)).before args0 about1 = true := code_word (m := ⟨2, 1⟩) (meth := k2m1) (c := k2c1) (by decide +kernel) rfl rfl rfl (by decide +kernel)
def codes1 : List Jvm.Cond := [Jvm.Cond.code x code maxLocals ret, Jvm.Cond.code ({ cls := "com/example/noreply/noreply/engine/Expiration", name := "isExpired", desc := "(JJ)Z" } : Jvm.MethodName) prog_5_method_3_code (4 : Nat) (Option.some Jvm.ClassFile.FieldType.boolean)]
set_option maxRecDepth 65536 in
theorem codes_eq : words1.filter isCode = codes1 := rfl
theorem w_codes : ∀ c ∈ words1.filter isCode, c.before args0 about1 = true := by
  rw [codes_eq]
  intro c hc
  simp only [codes1, List.mem_cons, List.not_mem_nil, or_false] at hc
  rcases hc with rfl | rfl
  · exact w_c0
  · exact w_c1
set_option maxRecDepth 65536 in
theorem w_t1 : words1.all (fun c => isCode c || c.before args0 about1) = true := by decide +kernel
theorem w_tables : (allAtoms (Jvm.Cond.code x code maxLocals ret :: tables_1)).before args0 about1 = true := by
  rw [allAtoms_all]
  show words1.all (fun c => c.before args0 about1) = true
  refine all_split ?_ w_codes
  rw [w_t1]
set_option maxRecDepth 65536 in
theorem w_case : (Jvm.Cond.and given_1 narrow_1).before args0 about1 = true := by decide +kernel
theorem w_applies : (headSpec (Jvm.Cond.code x code maxLocals ret :: tables_1) room_1).applies x e0.platform about1 = true :=
  (Spec.applies_iff w_frames).mpr ⟨w_running, w_runnable, w_alone, w_named, w_hears, w_ripe, w_room, w_tables⟩
theorem atStart : AtStart classFile x code maxLocals ret World_1 tables_1 room_1 Calls_1 rest_1 Pre_1 launch0 p0 e0 about1 theMethod args0 below0 :=
  ⟨lists_1, trivial, launch0.admits_env _ _ _, launch0.least_env, fairChoices_fair.cas, fairChoices_fair.clock, w_frames, w_args, w_heap, w_applies, trivial, trivial, w_case⟩
end start1
theorem witness_1 : WitnessClaimed_1 := ⟨start1.p0, start1.e0, start1.about1, start1.theMethod, start1.args0, start1.below0, start1.atStart⟩
end Jvm.Pilot.@@N@@
