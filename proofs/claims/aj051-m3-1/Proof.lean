import JvmDerived
import JvmDerived.Pilot.@@N@@Statement
import JvmDerived.Pilot.@@N@@Code
set_option linter.unusedVariables false
set_option linter.unusedSimpArgs false
namespace Jvm.RoadKit
open Sem ClassFile Op Lib Jvm.Stand Jvm.Free Jvm.LawKit
section New
variable {p : Program} {l : Launch} {e : Env} {R : Room} {s : State} {m : MethodId} {args : Array Value} {below : List Frame} {meth : Method} {c : Code} {T : State} {locs : List Loc} {cells slots : Nat}
theorem retI (X : Stand p l e R s m args below meth c T locs cells slots) (hx : p.tables.exec = Jvm.exec) {pc : Nat} {Ls : Array Slot} {z : Int32} {rest : List Value} (hret : meth.sig.returnType = some .int) (hd : decode c.code pc = .ok (.ireturn, 1)) {fs : List Frame}
    (hl : ∀ (f : JFrame) (acts : List Action), f.method = m → f.locked = none → f.entered = [] → (doReturn e (T.setTop f) acts (some (.int z))).1 = T.setFrames fs) : Steps p.tables e below (T.setTop (mkF m pc Ls (.int z :: rest))) (T.setFrames fs) :=
  retOut X hx hret rfl (Or.inl ⟨rfl, Or.inl rfl, _, rfl⟩) hd hl
end New
end Jvm.RoadKit
namespace Jvm.Pilot.@@N@@
open Jvm Jvm.ClassFile Sem Op Lib Jvm.Free Jvm.Stand Jvm.LawKit Jvm.RoadKit Bundle Jvm.Pilot.@@N@@.Jvm.D
/-! own_Goes: from A the run comes to a state of which P holds -/
def own_Goes (p : Program) (e : Env) (below : List Frame) (P : State → Prop) (A : State) : Prop := ∃ B, Steps p.tables e below A B ∧ P B
def own_Fin (s : State) (below : List Frame) (QQ : Option Value → Heap → List Loc → Prop) (C N : Nat) (B : State) : Prop := ∃ v L, B.status = .running ∧ Ended B below (.returned v) ∧ QQ v B.heap L ∧ FrameEnd s (.returned v) B L C N
theorem own_via {p : Program} {e : Env} {below : List Frame} {P : State → Prop} {A : State} (B : State) (h : ∀ t, Steps p.tables e below B t → Steps p.tables e below A t) (k : own_Goes p e below P B) : own_Goes p e below P A := by
  obtain ⟨t, h1, h2⟩ := k
  exact ⟨t, h t h1, h2⟩
theorem own_body {p : Program} {e : Env} {below : List Frame} {s s₁ : State} {QQ : Option Value → Heap → List Loc → Prop} {C N ml : Nat} {m : MethodId} {args : Array Value} {F : JFrame} (hF : entryFrame m args ml = F) (k : own_Goes p e below (own_Fin s below QQ C N) (s₁.setTop F)) :
    ∃ s₂ o, Steps p.tables e below (s₁.setTop (entryFrame m args ml)) s₂ ∧ s₂.status = .running ∧ Ended s₂ below o ∧ (∃ v L, o = .returned v ∧ QQ v s₂.heap L ∧ FrameEnd s o s₂ L C N) := by
  obtain ⟨B, h1, v, L, h2, h3, h4, h5⟩ := k
  exact ⟨B, .returned v, hF ▸ h1, h2, h3, v, L, rfl, h4, h5⟩
theorem own_leave {p : Program} {l : Launch} {e : Env} {R : Room} {s : State} {m : MethodId} {args : Array Value} {below : List Frame} {meth : Method} {c : Code} {T : State} {locs : List Loc} {cells slots : Nat} {QQ : Option Value → Heap → List Loc → Prop} {C N : Nat}
    (X : Stand p l e R s m args below meth c T locs cells slots) (hlocks : meth.locks = false) {v : Option Value} (hv : meth.sig.returnType = none → v = none) {F : JFrame}
    (hstep : ∀ fs, (∀ (f : JFrame) (acts : List Action), f.method = m → f.locked = none → f.entered = [] → (doReturn e (T.setTop f) acts v).1 = T.setFrames fs) → Steps p.tables e below (T.setTop F) (T.setFrames fs))
    (hq : QQ v T.heap locs) (hc : cells ≤ C) (hn : slots ≤ N) : own_Goes p e below (own_Fin s below QQ C N) (T.setTop F) := by
  obtain ⟨fs, hr, hrun, hended, hW, hsame⟩ := X.leave hv hlocks
  exact ⟨_, hstep fs hr, v, locs, hrun, hended, hq, ⟨_, rfl⟩, hW, hsame.mono hc hn⟩
/-- what a body that writes nothing leaves -/
def own_Q (r : Option Value) (h0 : Heap) (n0 : Nat) (v : Option Value) (h : Heap) (L : List Loc) : Prop := v = r ∧ Fr n0 L ∧ h = h0
def own_f2 (p0 : Int32) : Int32 := (if p0 = (0 : Int32) then (1 : Int32) else (2 : Int32))
theorem d2_0 : decode prog_82_method_7_code 0 = .ok (.iload_n 0, 1) := by decide +kernel
theorem d2_1 : decode prog_82_method_7_code 1 = .ok (.ifCond .eq 7, 3) := by decide +kernel
theorem d2_4 : decode prog_82_method_7_code 4 = .ok (.iconst 2, 1) := by decide +kernel
theorem d2_5 : decode prog_82_method_7_code 5 = .ok (.goto 4, 3) := by decide +kernel
theorem d2_8 : decode prog_82_method_7_code 8 = .ok (.iconst 1, 1) := by decide +kernel
theorem d2_9 : decode prog_82_method_7_code 9 = .ok (.ireturn, 1) := by decide +kernel
theorem pn_com_example_unweave_unweave_uw_Expr : plainName "com/example/unweave/unweave/uw/Expr" = true := by first | (simp [plainName, overriddenIn]; done) | decide +kernel
theorem ef_2 (m : MethodId) (p0 : Int32) : entryFrame m #[(.int p0)] 1 = mkF m 0 #[.val (.int p0)] [] := by first | (simp [entryFrame, mkF, argsToLocals, Value.category]; done) | rfl
set_option maxRecDepth 65536 in
set_option maxHeartbeats 40000000 in
theorem rm2 (l : Launch) (Z : State) (a0 : Array Value) (hw : ∀ d ∈ tables_1, d.before a0 Z = true) (ws : List Jvm.Cond) (p0 : Int32) (h0 : Heap) (n0 : Nat) (Z0 : n0 ≤ h0.size)  :
    MetFree l (⟨"com/example/unweave/unweave/uw/Expr", "valuesOf", "(Z)I"⟩ : MethodName) (head1 (Jvm.Cond.code (⟨"com/example/unweave/unweave/uw/Expr", "valuesOf", "(Z)I"⟩ : MethodName) prog_82_method_7_code 1 (some .int) :: ws) ({ frames := 0, cells := 0, slots := 0, locals := 0 } : Room)) (fun a U => a = #[(.int p0)] ∧ Z.Warmed39 U.vm ∧ U.heap = h0) (fun _ _ _ _ _ => True) (fun _ U o U' => ∃ v L, o = .returned v ∧ (own_Q (some (.int (own_f2 p0))) h0 n0) v U'.heap L ∧ FrameEnd U o U' L ({ frames := 0, cells := 0, slots := 0, locals := 0 } : Room).cells ({ frames := 0, cells := 0, slots := 0, locals := 0 } : Room).slots) := by
  refine MetFree.of_bodySF (plainFor_of_name pn_com_example_unweave_unweave_uw_Expr) hisR ?_
  intro p e s m args below meth c s₁ Bd hml0 hP hK
  obtain ⟨rfl, hZ, hh⟩ := hP
  have hx := Bd.exec
  have hby := Bd.bytes
  have hml : c.maxLocals = 1 := hml0
  have hown : s.vm.findClass "com/example/unweave/unweave/uw/Expr" = some m.cls := findClass_of_methodNamed Bd.named
  have hnm := (name_of_methodNamed Bd.named Bd.method).1
  have X0 : Stand p l e ({ frames := 0, cells := 0, slots := 0, locals := 0 } : Room) s m #[(.int p0)] below meth c s₁ [] 0 0 := Stand.of_body Bd
  have e0 : s₁.heap = h0 := by rw [← hh, Bd.state]; rfl
  have N0 := Fr.nil n0
  refine own_body (QQ := (own_Q (some (.int (own_f2 p0))) h0 n0)) (ef_2 m p0) ?_
  refine own_via (s₁.setTop (mkF m 1 #[.val (.int p0)] [(.int p0)])) (fun t k => XS.iloadN X0.here hx rfl (hb hby d2_0) rfl  k) ?_
  by_cases hc1_2 : p0 = (0 : Int32)
  · refine own_via (s₁.setTop (mkF m 8 #[.val (.int p0)] [])) (fun t k => XS.ifYes X0.here hx rfl (pc0 := 1) (pc' := 8) rfl (hb hby d2_1) rfl ((if0 _ _).trans (teq hc1_2).1) (by decide) (by decide) k) ?_
    refine own_via (s₁.setTop (mkF m 9 #[.val (.int p0)] [(.int (1 : Int32))])) (fun t k => XS.iconst X0.here hx rfl (hb hby d2_8) k) ?_
    refine own_leave X0 Bd.notSynchronized (v := some (.int (1 : Int32))) (fun h => by rw [Bd.returns] at h; cases h) (fun fs hr => retI X0 hx Bd.returns (hb hby d2_9) hr) ?_ (by decide) (by decide)
    refine ⟨?_, N0, e0⟩
    show some (Value.int _) = some (Value.int _); unfold own_f2; rw [if_pos hc1_2]
  · refine own_via (s₁.setTop (mkF m 4 #[.val (.int p0)] [])) (fun t k => XS.ifNo X0.here hx rfl (hb hby d2_1) rfl ((if0 _ _).trans (feq hc1_2).1) k) ?_
    refine own_via (s₁.setTop (mkF m 5 #[.val (.int p0)] [(.int (2 : Int32))])) (fun t k => XS.iconst X0.here hx rfl (hb hby d2_4) k) ?_
    refine own_via (s₁.setTop (mkF m 9 #[.val (.int p0)] [(.int (2 : Int32))])) (fun t k => XS.goto X0.here hx rfl (pc0 := 5) (pc' := 9) rfl (hb hby d2_5) (by decide) (by decide) k) ?_
    refine own_leave X0 Bd.notSynchronized (v := some (.int (2 : Int32))) (fun h => by rw [Bd.returns] at h; cases h) (fun fs hr => retI X0 hx Bd.returns (hb hby d2_9) hr) ?_ (by decide) (by decide)
    refine ⟨?_, N0, e0⟩
    show some (Value.int _) = some (Value.int _); unfold own_f2; rw [if_neg hc1_2]
def own_f1 (p0 : Int32) (p1 : Int32) : Int32 := (if (p0 &&& (own_f2 p1)) = (0 : Int32) then (0 : Int32) else (1 : Int32))
theorem d1_0 : decode prog_82_method_8_code 0 = .ok (.iload_n 0, 1) := by decide +kernel
theorem d1_1 : decode prog_82_method_8_code 1 = .ok (.iload_n 1, 1) := by decide +kernel
theorem d1_2 : decode prog_82_method_8_code 2 = .ok (.invokestatic 20, 3) := by decide +kernel
theorem d1_5 : decode prog_82_method_8_code 5 = .ok (.iand, 1) := by decide +kernel
theorem d1_6 : decode prog_82_method_8_code 6 = .ok (.ifCond .eq 7, 3) := by decide +kernel
theorem d1_9 : decode prog_82_method_8_code 9 = .ok (.iconst 1, 1) := by decide +kernel
theorem d1_10 : decode prog_82_method_8_code 10 = .ok (.goto 4, 3) := by decide +kernel
theorem d1_13 : decode prog_82_method_8_code 13 = .ok (.iconst 0, 1) := by decide +kernel
theorem d1_14 : decode prog_82_method_8_code 14 = .ok (.ireturn, 1) := by decide +kernel
theorem pd_0 : parseMethodDescriptor "(Z)I" = some ⟨[.boolean], some .int⟩ := by decide +kernel
theorem ef_1 (m : MethodId) (p0 : Int32) (p1 : Int32) : entryFrame m #[(.int p0), (.int p1)] 2 = mkF m 0 #[.val (.int p0), .val (.int p1)] [] := by first | (simp [entryFrame, mkF, argsToLocals, Value.category]; done) | rfl
set_option maxRecDepth 65536 in
set_option maxHeartbeats 40000000 in
theorem rm1 (l : Launch) (Z : State) (a0 : Array Value) (hw : ∀ d ∈ tables_1, d.before a0 Z = true) (ws : List Jvm.Cond) (p0 : Int32) (p1 : Int32) (h0 : Heap) (n0 : Nat) (Z0 : n0 ≤ h0.size)  :
    MetFree l (⟨"com/example/unweave/unweave/uw/Expr", "canBe", "(IZ)Z"⟩ : MethodName) (head1 (Jvm.Cond.code (⟨"com/example/unweave/unweave/uw/Expr", "canBe", "(IZ)Z"⟩ : MethodName) prog_82_method_8_code 2 (some .boolean) :: ws) ({ frames := 1, cells := 0, slots := 0, locals := 13 } : Room)) (fun a U => a = #[(.int p0), (.int p1)] ∧ Z.Warmed39 U.vm ∧ U.heap = h0) (fun _ _ _ _ _ => True) (fun _ U o U' => ∃ v L, o = .returned v ∧ (own_Q (some (.int (own_f1 p0 p1))) h0 n0) v U'.heap L ∧ FrameEnd U o U' L ({ frames := 1, cells := 0, slots := 0, locals := 13 } : Room).cells ({ frames := 1, cells := 0, slots := 0, locals := 13 } : Room).slots) := by
  refine MetFree.of_bodySF (plainFor_of_name pn_com_example_unweave_unweave_uw_Expr) hisR ?_
  intro p e s m args below meth c s₁ Bd hml0 hP hK
  obtain ⟨rfl, hZ, hh⟩ := hP
  have hx := Bd.exec
  have hby := Bd.bytes
  have hml : c.maxLocals = 2 := hml0
  have hown : s.vm.findClass "com/example/unweave/unweave/uw/Expr" = some m.cls := findClass_of_methodNamed Bd.named
  have hnm := (name_of_methodNamed Bd.named Bd.method).1
  have X0 : Stand p l e ({ frames := 1, cells := 0, slots := 0, locals := 13 } : Room) s m #[(.int p0), (.int p1)] below meth c s₁ [] 0 0 := Stand.of_body Bd
  have e0 : s₁.heap = h0 := by rw [← hh, Bd.state]; rfl
  have N0 := Fr.nil n0
  refine own_body (QQ := (own_Q (some (.int (own_f1 p0 p1))) h0 n0)) (ef_1 m p0 p1) ?_
  refine own_via (s₁.setTop (mkF m 1 #[.val (.int p0), .val (.int p1)] [(.int p0)])) (fun t k => XS.iloadN X0.here hx rfl (hb hby d1_0) rfl  k) ?_
  refine own_via (s₁.setTop (mkF m 2 #[.val (.int p0), .val (.int p1)] [(.int p1), (.int p0)])) (fun t k => XS.iloadN X0.here hx rfl (hb hby d1_1) rfl  k) ?_
  obtain ⟨_, _, ⟨T5, L5, k5, n5⟩, -, X5, ⟨Lc5, hQ5, l5, y5, z5⟩, st5⟩ := Jvm.LawKit.callS X0 hx (y := (⟨"com/example/unweave/unweave/uw/Expr", "valuesOf", "(Z)I"⟩ : MethodName)) hown (mvT hZ (hw _ (List.mem_of_getElem? (i := 4) rfl))) (mvT hZ (hw _ (List.mem_of_getElem? (i := 5) rfl))) (mvT hZ (hw _ (List.mem_of_getElem? (i := 2) rfl))) (mvT hZ (hw _ (List.mem_of_getElem? (i := 6) rfl))) (by decide) (backOf (W := 1) (rm2 l Z a0 hw [] p1 h0 n0 Z0) hZ (hw _ (List.mem_of_getElem? (i := 6) rfl)) (hw _ (List.mem_of_getElem? (i := 2) rfl)) (by decide) (by decide)) (g := (mkF m 2 #[.val (.int p0), .val (.int p1)] [(.int p1), (.int p0)])) rfl (by rw [hml]; rfl) (argsL := [(.int p1)]) (rest := [(.int p0)]) (lenOf pd_0 rfl) rfl (by show 2 * 0 + _ ≤ _; exact Nat.le_of_eq rfl) (hb hby d1_2) (fun _ _ => ⟨rfl, e0, (by decide : 0 + 0 ≤ _), (by decide : 0 + 0 ≤ _)⟩)
  dsimp only [Pt.U, Pt.locs, Pt.cells, Pt.slots] at X5 l5 y5 z5 st5 hQ5
  subst l5 y5 z5
  obtain ⟨rfl, N5q, e5⟩ := hQ5
  have N5 := Fr.app N0 N5q
  refine own_via (T5.setTop (mkF m 5 #[.val (.int p0), .val (.int p1)] [(.int (own_f2 p1)), (.int p0)])) (fun t k => st5 t k) ?_
  refine own_via (T5.setTop (mkF m 6 #[.val (.int p0), .val (.int p1)] [(.int (p0 &&& (own_f2 p1)))])) (fun t k => XS.iand X5.here hx rfl (hb hby d1_5) rfl k) ?_
  by_cases hc6_6 : (p0 &&& (own_f2 p1)) = (0 : Int32)
  · refine own_via (T5.setTop (mkF m 13 #[.val (.int p0), .val (.int p1)] [])) (fun t k => XS.ifYes X5.here hx rfl (pc0 := 6) (pc' := 13) rfl (hb hby d1_6) rfl ((if0 _ _).trans (teq hc6_6).1) (by decide) (by decide) k) ?_
    refine own_via (T5.setTop (mkF m 14 #[.val (.int p0), .val (.int p1)] [(.int (0 : Int32))])) (fun t k => XS.iconst X5.here hx rfl (hb hby d1_13) k) ?_
    refine own_leave X5 Bd.notSynchronized (v := some (.int (0 : Int32))) (fun h => by rw [Bd.returns] at h; cases h) (fun fs hr => retN X5 hx (t := .boolean) Bd.returns (by simp) (hb hby d1_14) hr) ?_ (by decide) (by decide)
    refine ⟨?_, N5, e5⟩
    show some (Value.int _) = some (Value.int _); unfold own_f1; rw [if_pos hc6_6]
  · refine own_via (T5.setTop (mkF m 9 #[.val (.int p0), .val (.int p1)] [])) (fun t k => XS.ifNo X5.here hx rfl (hb hby d1_6) rfl ((if0 _ _).trans (feq hc6_6).1) k) ?_
    refine own_via (T5.setTop (mkF m 10 #[.val (.int p0), .val (.int p1)] [(.int (1 : Int32))])) (fun t k => XS.iconst X5.here hx rfl (hb hby d1_9) k) ?_
    refine own_via (T5.setTop (mkF m 14 #[.val (.int p0), .val (.int p1)] [(.int (1 : Int32))])) (fun t k => XS.goto X5.here hx rfl (pc0 := 10) (pc' := 14) rfl (hb hby d1_10) (by decide) (by decide) k) ?_
    refine own_leave X5 Bd.notSynchronized (v := some (.int (1 : Int32))) (fun h => by rw [Bd.returns] at h; cases h) (fun fs hr => retN X5 hx (t := .boolean) Bd.returns (by simp) (hb hby d1_14) hr) ?_ (by decide) (by decide)
    refine ⟨?_, N5, e5⟩
    show some (Value.int _) = some (Value.int _); unfold own_f1; rw [if_neg hc6_6]
theorem own_b2 (n : Int32) : (n &&& (2 : Int32)) = 0 ↔ (((n.toUInt32 >>> ((1 : Int32) &&& 31).toUInt32).toInt32) &&& (1 : Int32)) = (0 : Int32) := by
  have e : ((n.toUInt32 >>> ((1 : Int32) &&& 31).toUInt32).toInt32).toBitVec = n.toBitVec >>> 1 := by
    apply BitVec.eq_of_toNat_eq
    show (n.toBitVec >>> (((1 : Int32) &&& 31).toBitVec % 32)).toNat = _
    rw [BitVec.ushiftRight_eq', show (((1 : Int32) &&& 31).toBitVec % 32).toNat = 1 from by decide]
  rw [← Int32.toBitVec_inj, ← Int32.toBitVec_inj, Int32.toBitVec_and, Int32.toBitVec_and, e]
  constructor
  · intro h
    apply BitVec.eq_of_getLsbD_eq
    intro i hi
    have := congrArg (fun b : BitVec 32 => b.getLsbD 1) h
    have m : ∀ i : Fin 32, (1 : Int32).toBitVec.getLsbD i.val = decide (i.val = 0) := by decide +kernel
    have m1 := m ⟨i, hi⟩
    have m2 : (2 : Int32).toBitVec.getLsbD 1 = true := by decide
    have m3 : (0 : Int32).toBitVec.getLsbD 1 = false := by decide
    have m4 : (0 : Int32).toBitVec.getLsbD i = false := by show (0#32).getLsbD i = false; simp
    simp only [BitVec.getLsbD_and, m2, m3, Bool.and_true] at this
    rw [BitVec.getLsbD_and, BitVec.getLsbD_ushiftRight, m4]
    simp only at m1
    rw [m1]
    by_cases h0 : i = 0
    · subst h0; rw [this]; rfl
    · simp [h0]
  · intro h
    apply BitVec.eq_of_getLsbD_eq
    intro i hi
    have := congrArg (fun b : BitVec 32 => b.getLsbD 0) h
    have m : ∀ i : Fin 32, (2 : Int32).toBitVec.getLsbD i.val = decide (i.val = 1) := by decide +kernel
    have m1 := m ⟨i, hi⟩
    have m2 : (1 : Int32).toBitVec.getLsbD 0 = true := by decide
    have m3 : (0 : Int32).toBitVec.getLsbD 0 = false := by decide
    have m4 : (0 : Int32).toBitVec.getLsbD i = false := by show (0#32).getLsbD i = false; simp
    simp only [BitVec.getLsbD_and, BitVec.getLsbD_ushiftRight, m2, m3, Bool.and_true] at this
    rw [BitVec.getLsbD_and, m4]
    simp only at m1
    rw [m1]
    by_cases h0 : i = 1
    · subst h0; simpa using this
    · simp [h0]
theorem own_law (n b : Int32) (hb : b = 0 ∨ b = 1) : own_f1 n b = (if b = (0 : Int32) then (if (n &&& (1 : Int32)) = (0 : Int32) then (0 : Int32) else (1 : Int32)) else (if (((n.toUInt32 >>> ((1 : Int32) &&& 31).toUInt32).toInt32) &&& (1 : Int32)) = (0 : Int32) then (0 : Int32) else (1 : Int32))) ∧
    ¬ own_f1 (if b = (0 : Int32) then (1 : Int32) else (2 : Int32)) b = 0 ∧ own_f1 (if b = (0 : Int32) then (1 : Int32) else (2 : Int32)) (if b = (0 : Int32) then (1 : Int32) else (0 : Int32)) = 0 ∧ ¬ own_f1 3 b = 0 ∧ own_f1 0 b = 0 := by
  rcases hb with rfl | rfl
  · refine ⟨?_, by decide, by decide, by decide, by decide⟩
    rfl
  · refine ⟨?_, by decide, by decide, by decide, by decide⟩
    show (if (n &&& (2 : Int32)) = 0 then (0 : Int32) else 1) = (if (((n.toUInt32 >>> ((1 : Int32) &&& 31).toUInt32).toInt32) &&& (1 : Int32)) = (0 : Int32) then (0 : Int32) else (1 : Int32))
    by_cases h : (n &&& (2 : Int32)) = 0
    · rw [if_pos h, if_pos ((own_b2 n).mp h)]
    · rw [if_neg h, if_neg (fun q => h ((own_b2 n).mpr q))]
theorem own_01 {b x : Int32} (h : b = (if x = (0 : Int32) then (0 : Int32) else (1 : Int32))) : b = 0 ∨ b = 1 := by rw [h]; split <;> simp
def own_Q0 (n0 : Nat) (v : Option Value) (h : Heap) (L : List Loc) : Prop := v = some (.int 1) ∧ Fr n0 L
theorem pd_1 : parseMethodDescriptor "(IZ)Z" = some ⟨[.int, .boolean], some .boolean⟩ := by decide +kernel
theorem pn_com_example_unweave_unweave_uw_ExprCanBePinLaw : plainName "com/example/unweave/unweave/uw/ExprCanBePinLaw" = true := by first | (simp [plainName, overriddenIn]; done) | decide +kernel
theorem ef_0 (m : MethodId) (p0 : Int32) (p1 : Int32) : entryFrame m #[(.int p0), (.int p1)] maxLocals = mkF m 0 #[.val (.int p0), .val (.int p1), .unset, .unset, .unset, .unset, .unset, .unset, .unset] [] := by first | (simp [entryFrame, mkF, argsToLocals, Value.category, maxLocals]; done) | rfl
set_option maxRecDepth 65536 in
set_option maxHeartbeats 40000000 in
theorem rm0 (l : Launch) (Z : State) (a0 : Array Value) (hw : ∀ d ∈ tables_1, d.before a0 Z = true) (ws : List Jvm.Cond) (p0 : Int32) (p1 : Int32) (h0 : Heap) (n0 : Nat) (Z0 : n0 ≤ h0.size)  :
    MetFree l x (head1 (Jvm.Cond.code x code maxLocals ret :: ws) room_1) (fun a U => a = #[(.int p0), (.int p1)] ∧ Z.Warmed39 U.vm ∧ U.heap = h0) (fun _ _ _ _ _ => True) (fun _ U o U' => ∃ v L, o = .returned v ∧ (own_Q0 n0) v U'.heap L ∧ FrameEnd U o U' L room_1.cells room_1.slots) := by
  refine MetFree.of_bodySF (plainFor_of_name pn_com_example_unweave_unweave_uw_ExprCanBePinLaw) hisR ?_
  intro p e s m args below meth c s₁ Bd hml0 hP hK
  obtain ⟨rfl, hZ, hh⟩ := hP
  have hx := Bd.exec
  have hby := Bd.bytes
  have hml : c.maxLocals = 9 := hml0
  have hown : s.vm.findClass "com/example/unweave/unweave/uw/ExprCanBePinLaw" = some m.cls := findClass_of_methodNamed Bd.named
  have hnm := (name_of_methodNamed Bd.named Bd.method).1
  have X0 : Stand p l e room_1 s m #[(.int p0), (.int p1)] below meth c s₁ [] 0 0 := Stand.of_body Bd
  have e0 : s₁.heap = h0 := by rw [← hh, Bd.state]; rfl
  have N0 := Fr.nil n0
  refine own_body (QQ := (own_Q0 n0)) (ef_0 m p0 p1) ?_
  refine own_via (s₁.setTop (mkF m 1 #[.val (.int p0), .val (.int p1), .unset, .unset, .unset, .unset, .unset, .unset, .unset] [(.int p1)])) (fun t k => XS.iloadN X0.here hx rfl (hb hby at_0) rfl  k) ?_
  refine own_via (s₁.setTop (mkF m 2 #[.val (.int p0), .val (.int p1), .unset, .unset, .unset, .unset, .unset, .unset, .unset] [(.int (1 : Int32)), (.int p1)])) (fun t k => XS.iconst X0.here hx rfl (hb hby at_1) k) ?_
  refine own_via (s₁.setTop (mkF m 3 #[.val (.int p0), .val (.int p1), .unset, .unset, .unset, .unset, .unset, .unset, .unset] [(.int (p1 &&& (1 : Int32)))])) (fun t k => XS.iand X0.here hx rfl (hb hby at_2) rfl k) ?_
  obtain ⟨z7, hz7⟩ : ∃ z : Int32, z = (if (p1 &&& (1 : Int32)) = (0 : Int32) then (0 : Int32) else (1 : Int32)) := ⟨_, rfl⟩
  refine own_via (s₁.setTop (mkF m 11 #[.val (.int p0), .val (.int p1), .unset, .unset, .unset, .unset, .unset, .unset, .unset] [(.int z7)])) (fun t k => ?_) ?_
  · skip
    by_cases hj3_8 : (p1 &&& (1 : Int32)) = (0 : Int32)
    · refine XS.ifYes X0.here hx rfl (pc0 := 3) (pc' := 10) rfl (hb hby at_3) rfl ((if0 _ _).trans (teq hj3_8).1) (by decide) (by decide) (?_ : Steps p.tables e below (s₁.setTop (mkF m 10 #[.val (.int p0), .val (.int p1), .unset, .unset, .unset, .unset, .unset, .unset, .unset] [])) t)
      refine XS.iconst X0.here hx rfl (hb hby at_10) (?_ : Steps p.tables e below (s₁.setTop (mkF m 11 #[.val (.int p0), .val (.int p1), .unset, .unset, .unset, .unset, .unset, .unset, .unset] [(.int (0 : Int32))])) t)
      have q_z7 := (hz7.trans (if_pos hj3_8))
      subst q_z7
      exact k
    · refine XS.ifNo X0.here hx rfl (hb hby at_3) rfl ((if0 _ _).trans (feq hj3_8).1) (?_ : Steps p.tables e below (s₁.setTop (mkF m 6 #[.val (.int p0), .val (.int p1), .unset, .unset, .unset, .unset, .unset, .unset, .unset] [])) t)
      refine XS.iconst X0.here hx rfl (hb hby at_6) (?_ : Steps p.tables e below (s₁.setTop (mkF m 7 #[.val (.int p0), .val (.int p1), .unset, .unset, .unset, .unset, .unset, .unset, .unset] [(.int (1 : Int32))])) t)
      refine XS.goto X0.here hx rfl (pc0 := 7) (pc' := 11) rfl (hb hby at_7) (by decide) (by decide) (?_ : Steps p.tables e below (s₁.setTop (mkF m 11 #[.val (.int p0), .val (.int p1), .unset, .unset, .unset, .unset, .unset, .unset, .unset] [(.int (1 : Int32))])) t)
      have q_z7 := (hz7.trans (if_neg hj3_8))
      subst q_z7
      exact k
  refine own_via (s₁.setTop (mkF m 12 #[.val (.int p0), .val (.int p1), .val (.int z7), .unset, .unset, .unset, .unset, .unset, .unset] [])) (fun t k => XS.istoreN X0.here hx rfl (hb hby at_11) rfl (l' := #[.val (.int p0), .val (.int p1), .val (.int z7), .unset, .unset, .unset, .unset, .unset, .unset]) rfl k) ?_
  refine own_via (s₁.setTop (mkF m 13 #[.val (.int p0), .val (.int p1), .val (.int z7), .unset, .unset, .unset, .unset, .unset, .unset] [(.int z7)])) (fun t k => XS.iloadN X0.here hx rfl (hb hby at_12) rfl  k) ?_
  obtain ⟨z9, hz9⟩ : ∃ z : Int32, z = (if z7 = (0 : Int32) then (if (p0 &&& (1 : Int32)) = (0 : Int32) then (0 : Int32) else (1 : Int32)) else (if (((p0.toUInt32 >>> ((1 : Int32) &&& 31).toUInt32).toInt32) &&& (1 : Int32)) = (0 : Int32) then (0 : Int32) else (1 : Int32))) := ⟨_, rfl⟩
  refine own_via (s₁.setTop (mkF m 43 #[.val (.int p0), .val (.int p1), .val (.int z7), .unset, .unset, .unset, .unset, .unset, .unset] [(.int z9)])) (fun t k => ?_) ?_
  · skip
    by_cases hj13_10 : z7 = (0 : Int32)
    · refine XS.ifYes X0.here hx rfl (pc0 := 13) (pc' := 32) rfl (hb hby at_13) rfl ((if0 _ _).trans (teq hj13_10).1) (by decide) (by decide) (?_ : Steps p.tables e below (s₁.setTop (mkF m 32 #[.val (.int p0), .val (.int p1), .val (.int z7), .unset, .unset, .unset, .unset, .unset, .unset] [])) t)
      refine XS.iloadN X0.here hx rfl (hb hby at_32) rfl  (?_ : Steps p.tables e below (s₁.setTop (mkF m 33 #[.val (.int p0), .val (.int p1), .val (.int z7), .unset, .unset, .unset, .unset, .unset, .unset] [(.int p0)])) t)
      refine XS.iconst X0.here hx rfl (hb hby at_33) (?_ : Steps p.tables e below (s₁.setTop (mkF m 34 #[.val (.int p0), .val (.int p1), .val (.int z7), .unset, .unset, .unset, .unset, .unset, .unset] [(.int (1 : Int32)), (.int p0)])) t)
      refine XS.iand X0.here hx rfl (hb hby at_34) rfl (?_ : Steps p.tables e below (s₁.setTop (mkF m 35 #[.val (.int p0), .val (.int p1), .val (.int z7), .unset, .unset, .unset, .unset, .unset, .unset] [(.int (p0 &&& (1 : Int32)))])) t)
      by_cases hj35_11 : (p0 &&& (1 : Int32)) = (0 : Int32)
      · refine XS.ifYes X0.here hx rfl (pc0 := 35) (pc' := 42) rfl (hb hby at_35) rfl ((if0 _ _).trans (teq hj35_11).1) (by decide) (by decide) (?_ : Steps p.tables e below (s₁.setTop (mkF m 42 #[.val (.int p0), .val (.int p1), .val (.int z7), .unset, .unset, .unset, .unset, .unset, .unset] [])) t)
        refine XS.iconst X0.here hx rfl (hb hby at_42) (?_ : Steps p.tables e below (s₁.setTop (mkF m 43 #[.val (.int p0), .val (.int p1), .val (.int z7), .unset, .unset, .unset, .unset, .unset, .unset] [(.int (0 : Int32))])) t)
        have q_z9 := ((hz9.trans (if_pos hj13_10)).trans (if_pos hj35_11))
        subst q_z9
        exact k
      · refine XS.ifNo X0.here hx rfl (hb hby at_35) rfl ((if0 _ _).trans (feq hj35_11).1) (?_ : Steps p.tables e below (s₁.setTop (mkF m 38 #[.val (.int p0), .val (.int p1), .val (.int z7), .unset, .unset, .unset, .unset, .unset, .unset] [])) t)
        refine XS.iconst X0.here hx rfl (hb hby at_38) (?_ : Steps p.tables e below (s₁.setTop (mkF m 39 #[.val (.int p0), .val (.int p1), .val (.int z7), .unset, .unset, .unset, .unset, .unset, .unset] [(.int (1 : Int32))])) t)
        refine XS.goto X0.here hx rfl (pc0 := 39) (pc' := 43) rfl (hb hby at_39) (by decide) (by decide) (?_ : Steps p.tables e below (s₁.setTop (mkF m 43 #[.val (.int p0), .val (.int p1), .val (.int z7), .unset, .unset, .unset, .unset, .unset, .unset] [(.int (1 : Int32))])) t)
        have q_z9 := ((hz9.trans (if_pos hj13_10)).trans (if_neg hj35_11))
        subst q_z9
        exact k
    · refine XS.ifNo X0.here hx rfl (hb hby at_13) rfl ((if0 _ _).trans (feq hj13_10).1) (?_ : Steps p.tables e below (s₁.setTop (mkF m 16 #[.val (.int p0), .val (.int p1), .val (.int z7), .unset, .unset, .unset, .unset, .unset, .unset] [])) t)
      refine XS.iloadN X0.here hx rfl (hb hby at_16) rfl  (?_ : Steps p.tables e below (s₁.setTop (mkF m 17 #[.val (.int p0), .val (.int p1), .val (.int z7), .unset, .unset, .unset, .unset, .unset, .unset] [(.int p0)])) t)
      refine XS.iconst X0.here hx rfl (hb hby at_17) (?_ : Steps p.tables e below (s₁.setTop (mkF m 18 #[.val (.int p0), .val (.int p1), .val (.int z7), .unset, .unset, .unset, .unset, .unset, .unset] [(.int (1 : Int32)), (.int p0)])) t)
      refine XS.iushr X0.here hx rfl (hb hby at_18) rfl (?_ : Steps p.tables e below (s₁.setTop (mkF m 19 #[.val (.int p0), .val (.int p1), .val (.int z7), .unset, .unset, .unset, .unset, .unset, .unset] [(.int ((p0.toUInt32 >>> ((1 : Int32) &&& 31).toUInt32).toInt32))])) t)
      refine XS.iconst X0.here hx rfl (hb hby at_19) (?_ : Steps p.tables e below (s₁.setTop (mkF m 20 #[.val (.int p0), .val (.int p1), .val (.int z7), .unset, .unset, .unset, .unset, .unset, .unset] [(.int (1 : Int32)), (.int ((p0.toUInt32 >>> ((1 : Int32) &&& 31).toUInt32).toInt32))])) t)
      refine XS.iand X0.here hx rfl (hb hby at_20) rfl (?_ : Steps p.tables e below (s₁.setTop (mkF m 21 #[.val (.int p0), .val (.int p1), .val (.int z7), .unset, .unset, .unset, .unset, .unset, .unset] [(.int (((p0.toUInt32 >>> ((1 : Int32) &&& 31).toUInt32).toInt32) &&& (1 : Int32)))])) t)
      by_cases hj21_12 : (((p0.toUInt32 >>> ((1 : Int32) &&& 31).toUInt32).toInt32) &&& (1 : Int32)) = (0 : Int32)
      · refine XS.ifYes X0.here hx rfl (pc0 := 21) (pc' := 28) rfl (hb hby at_21) rfl ((if0 _ _).trans (teq hj21_12).1) (by decide) (by decide) (?_ : Steps p.tables e below (s₁.setTop (mkF m 28 #[.val (.int p0), .val (.int p1), .val (.int z7), .unset, .unset, .unset, .unset, .unset, .unset] [])) t)
        refine XS.iconst X0.here hx rfl (hb hby at_28) (?_ : Steps p.tables e below (s₁.setTop (mkF m 29 #[.val (.int p0), .val (.int p1), .val (.int z7), .unset, .unset, .unset, .unset, .unset, .unset] [(.int (0 : Int32))])) t)
        refine XS.goto X0.here hx rfl (pc0 := 29) (pc' := 43) rfl (hb hby at_29) (by decide) (by decide) (?_ : Steps p.tables e below (s₁.setTop (mkF m 43 #[.val (.int p0), .val (.int p1), .val (.int z7), .unset, .unset, .unset, .unset, .unset, .unset] [(.int (0 : Int32))])) t)
        have q_z9 := ((hz9.trans (if_neg hj13_10)).trans (if_pos hj21_12))
        subst q_z9
        exact k
      · refine XS.ifNo X0.here hx rfl (hb hby at_21) rfl ((if0 _ _).trans (feq hj21_12).1) (?_ : Steps p.tables e below (s₁.setTop (mkF m 24 #[.val (.int p0), .val (.int p1), .val (.int z7), .unset, .unset, .unset, .unset, .unset, .unset] [])) t)
        refine XS.iconst X0.here hx rfl (hb hby at_24) (?_ : Steps p.tables e below (s₁.setTop (mkF m 25 #[.val (.int p0), .val (.int p1), .val (.int z7), .unset, .unset, .unset, .unset, .unset, .unset] [(.int (1 : Int32))])) t)
        refine XS.goto X0.here hx rfl (pc0 := 25) (pc' := 43) rfl (hb hby at_25) (by decide) (by decide) (?_ : Steps p.tables e below (s₁.setTop (mkF m 43 #[.val (.int p0), .val (.int p1), .val (.int z7), .unset, .unset, .unset, .unset, .unset, .unset] [(.int (1 : Int32))])) t)
        have q_z9 := ((hz9.trans (if_neg hj13_10)).trans (if_neg hj21_12))
        subst q_z9
        exact k
  refine own_via (s₁.setTop (mkF m 44 #[.val (.int p0), .val (.int p1), .val (.int z7), .val (.int z9), .unset, .unset, .unset, .unset, .unset] [])) (fun t k => XS.istoreN X0.here hx rfl (hb hby at_43) rfl (l' := #[.val (.int p0), .val (.int p1), .val (.int z7), .val (.int z9), .unset, .unset, .unset, .unset, .unset]) rfl k) ?_
  refine own_via (s₁.setTop (mkF m 45 #[.val (.int p0), .val (.int p1), .val (.int z7), .val (.int z9), .unset, .unset, .unset, .unset, .unset] [(.int p0)])) (fun t k => XS.iloadN X0.here hx rfl (hb hby at_44) rfl  k) ?_
  refine own_via (s₁.setTop (mkF m 46 #[.val (.int p0), .val (.int p1), .val (.int z7), .val (.int z9), .unset, .unset, .unset, .unset, .unset] [(.int z7), (.int p0)])) (fun t k => XS.iloadN X0.here hx rfl (hb hby at_45) rfl  k) ?_
  obtain ⟨_, _, ⟨T13, L13, k13, n13⟩, -, X13, ⟨Lc13, hQ13, l13, y13, z13⟩, st13⟩ := Jvm.LawKit.callS X0 hx (y := (⟨"com/example/unweave/unweave/uw/Expr", "canBe", "(IZ)Z"⟩ : MethodName)) hown (mvT hZ (hw _ (List.mem_of_getElem? (i := 0) rfl))) (mvT hZ (hw _ (List.mem_of_getElem? (i := 1) rfl))) (mvT hZ (hw _ (List.mem_of_getElem? (i := 2) rfl))) (mvT hZ (hw _ (List.mem_of_getElem? (i := 3) rfl))) (by decide) (backOf (W := 0) (rm1 l Z a0 hw [] p0 z7 h0 n0 Z0) hZ (hw _ (List.mem_of_getElem? (i := 3) rfl)) (hw _ (List.mem_of_getElem? (i := 2) rfl)) (by decide) (by decide)) (g := (mkF m 46 #[.val (.int p0), .val (.int p1), .val (.int z7), .val (.int z9), .unset, .unset, .unset, .unset, .unset] [(.int z7), (.int p0)])) rfl (by rw [hml]; rfl) (argsL := [(.int p0), (.int z7)]) (rest := []) (lenOf pd_1 rfl) rfl (by show 2 * 0 + _ ≤ _; exact Nat.le_of_eq rfl) (hb hby at_46) (fun _ _ => ⟨rfl, e0, (by decide : 0 + 0 ≤ _), (by decide : 0 + 0 ≤ _)⟩)
  dsimp only [Pt.U, Pt.locs, Pt.cells, Pt.slots] at X13 l13 y13 z13 st13 hQ13
  subst l13 y13 z13
  obtain ⟨rfl, N13q, e13⟩ := hQ13
  have N13 := Fr.app N0 N13q
  refine own_via (T13.setTop (mkF m 49 #[.val (.int p0), .val (.int p1), .val (.int z7), .val (.int z9), .unset, .unset, .unset, .unset, .unset] [(.int (own_f1 p0 z7))])) (fun t k => st13 t k) ?_
  obtain ⟨z14, hz14⟩ : ∃ z : Int32, z = (own_f1 p0 z7) := ⟨_, rfl⟩
  refine own_via (T13.setTop (mkF m 51 #[.val (.int p0), .val (.int p1), .val (.int z7), .val (.int z9), .val (.int z14), .unset, .unset, .unset, .unset] [])) (fun t k => XS.istore X13.here hx rfl (hb hby at_49) rfl (l' := #[.val (.int p0), .val (.int p1), .val (.int z7), .val (.int z9), .val (.int z14), .unset, .unset, .unset, .unset]) (by rw [hz14]; rfl) k) ?_
  refine own_via (T13.setTop (mkF m 52 #[.val (.int p0), .val (.int p1), .val (.int z7), .val (.int z9), .val (.int z14), .unset, .unset, .unset, .unset] [(.int z7)])) (fun t k => XS.iloadN X13.here hx rfl (hb hby at_51) rfl  k) ?_
  obtain ⟨z15, hz15⟩ : ∃ z : Int32, z = (if z7 = (0 : Int32) then (1 : Int32) else (2 : Int32)) := ⟨_, rfl⟩
  refine own_via (T13.setTop (mkF m 60 #[.val (.int p0), .val (.int p1), .val (.int z7), .val (.int z9), .val (.int z14), .unset, .unset, .unset, .unset] [(.int z15)])) (fun t k => ?_) ?_
  · skip
    by_cases hj52_16 : z7 = (0 : Int32)
    · refine XS.ifYes X13.here hx rfl (pc0 := 52) (pc' := 59) rfl (hb hby at_52) rfl ((if0 _ _).trans (teq hj52_16).1) (by decide) (by decide) (?_ : Steps p.tables e below (T13.setTop (mkF m 59 #[.val (.int p0), .val (.int p1), .val (.int z7), .val (.int z9), .val (.int z14), .unset, .unset, .unset, .unset] [])) t)
      refine XS.iconst X13.here hx rfl (hb hby at_59) (?_ : Steps p.tables e below (T13.setTop (mkF m 60 #[.val (.int p0), .val (.int p1), .val (.int z7), .val (.int z9), .val (.int z14), .unset, .unset, .unset, .unset] [(.int (1 : Int32))])) t)
      have q_z15 := (hz15.trans (if_pos hj52_16))
      subst q_z15
      exact k
    · refine XS.ifNo X13.here hx rfl (hb hby at_52) rfl ((if0 _ _).trans (feq hj52_16).1) (?_ : Steps p.tables e below (T13.setTop (mkF m 55 #[.val (.int p0), .val (.int p1), .val (.int z7), .val (.int z9), .val (.int z14), .unset, .unset, .unset, .unset] [])) t)
      refine XS.iconst X13.here hx rfl (hb hby at_55) (?_ : Steps p.tables e below (T13.setTop (mkF m 56 #[.val (.int p0), .val (.int p1), .val (.int z7), .val (.int z9), .val (.int z14), .unset, .unset, .unset, .unset] [(.int (2 : Int32))])) t)
      refine XS.goto X13.here hx rfl (pc0 := 56) (pc' := 60) rfl (hb hby at_56) (by decide) (by decide) (?_ : Steps p.tables e below (T13.setTop (mkF m 60 #[.val (.int p0), .val (.int p1), .val (.int z7), .val (.int z9), .val (.int z14), .unset, .unset, .unset, .unset] [(.int (2 : Int32))])) t)
      have q_z15 := (hz15.trans (if_neg hj52_16))
      subst q_z15
      exact k
  refine own_via (T13.setTop (mkF m 62 #[.val (.int p0), .val (.int p1), .val (.int z7), .val (.int z9), .val (.int z14), .val (.int z15), .unset, .unset, .unset] [])) (fun t k => XS.istore X13.here hx rfl (hb hby at_60) rfl (l' := #[.val (.int p0), .val (.int p1), .val (.int z7), .val (.int z9), .val (.int z14), .val (.int z15), .unset, .unset, .unset]) rfl k) ?_
  refine own_via (T13.setTop (mkF m 64 #[.val (.int p0), .val (.int p1), .val (.int z7), .val (.int z9), .val (.int z14), .val (.int z15), .unset, .unset, .unset] [(.int z15)])) (fun t k => XS.iload X13.here hx rfl (hb hby at_62) rfl  k) ?_
  refine own_via (T13.setTop (mkF m 65 #[.val (.int p0), .val (.int p1), .val (.int z7), .val (.int z9), .val (.int z14), .val (.int z15), .unset, .unset, .unset] [(.int z7), (.int z15)])) (fun t k => XS.iloadN X13.here hx rfl (hb hby at_64) rfl  k) ?_
  obtain ⟨_, _, ⟨T17, L17, k17, n17⟩, -, X17, ⟨Lc17, hQ17, l17, y17, z17⟩, st17⟩ := Jvm.LawKit.callS X13 hx (y := (⟨"com/example/unweave/unweave/uw/Expr", "canBe", "(IZ)Z"⟩ : MethodName)) hown (mvT hZ (hw _ (List.mem_of_getElem? (i := 0) rfl))) (mvT hZ (hw _ (List.mem_of_getElem? (i := 1) rfl))) (mvT hZ (hw _ (List.mem_of_getElem? (i := 2) rfl))) (mvT hZ (hw _ (List.mem_of_getElem? (i := 3) rfl))) (by decide) (backOf (W := 0) (rm1 l Z a0 hw [] z15 z7 h0 n0 Z0) hZ (hw _ (List.mem_of_getElem? (i := 3) rfl)) (hw _ (List.mem_of_getElem? (i := 2) rfl)) (by decide) (by decide)) (g := (mkF m 65 #[.val (.int p0), .val (.int p1), .val (.int z7), .val (.int z9), .val (.int z14), .val (.int z15), .unset, .unset, .unset] [(.int z7), (.int z15)])) rfl (by rw [hml]; rfl) (argsL := [(.int z15), (.int z7)]) (rest := []) (lenOf pd_1 rfl) rfl (by show 2 * 0 + _ ≤ _; exact Nat.le_of_eq rfl) (hb hby at_65) (fun _ _ => ⟨rfl, e13, (by decide : 0 + 0 ≤ _), (by decide : 0 + 0 ≤ _)⟩)
  dsimp only [Pt.U, Pt.locs, Pt.cells, Pt.slots] at X17 l17 y17 z17 st17 hQ17
  subst l17 y17 z17
  obtain ⟨rfl, N17q, e17⟩ := hQ17
  have N17 := Fr.app N13 N17q
  refine own_via (T17.setTop (mkF m 68 #[.val (.int p0), .val (.int p1), .val (.int z7), .val (.int z9), .val (.int z14), .val (.int z15), .unset, .unset, .unset] [(.int (own_f1 z15 z7))])) (fun t k => st17 t k) ?_
  by_cases hc68_18 : (own_f1 z15 z7) = (0 : Int32)
  · refine own_via (T17.setTop (mkF m 92 #[.val (.int p0), .val (.int p1), .val (.int z7), .val (.int z9), .val (.int z14), .val (.int z15), .unset, .unset, .unset] [])) (fun t k => XS.ifYes X17.here hx rfl (pc0 := 68) (pc' := 92) rfl (hb hby at_68) rfl ((if0 _ _).trans (teq hc68_18).1) (by decide) (by decide) k) ?_
    refine own_via (T17.setTop (mkF m 93 #[.val (.int p0), .val (.int p1), .val (.int z7), .val (.int z9), .val (.int z14), .val (.int z15), .unset, .unset, .unset] [(.int (0 : Int32))])) (fun t k => XS.iconst X17.here hx rfl (hb hby at_92) k) ?_
    refine own_via (T17.setTop (mkF m 95 #[.val (.int p0), .val (.int p1), .val (.int z7), .val (.int z9), .val (.int z14), .val (.int z15), .val (.int (0 : Int32)), .unset, .unset] [])) (fun t k => XS.istore X17.here hx rfl (hb hby at_93) rfl (l' := #[.val (.int p0), .val (.int p1), .val (.int z7), .val (.int z9), .val (.int z14), .val (.int z15), .val (.int (0 : Int32)), .unset, .unset]) rfl k) ?_
    refine own_via (T17.setTop (mkF m 96 #[.val (.int p0), .val (.int p1), .val (.int z7), .val (.int z9), .val (.int z14), .val (.int z15), .val (.int (0 : Int32)), .unset, .unset] [(.int (3 : Int32))])) (fun t k => XS.iconst X17.here hx rfl (hb hby at_95) k) ?_
    refine own_via (T17.setTop (mkF m 97 #[.val (.int p0), .val (.int p1), .val (.int z7), .val (.int z9), .val (.int z14), .val (.int z15), .val (.int (0 : Int32)), .unset, .unset] [(.int z7), (.int (3 : Int32))])) (fun t k => XS.iloadN X17.here hx rfl (hb hby at_96) rfl  k) ?_
    obtain ⟨_, _, ⟨T19, L19, k19, n19⟩, -, X19, ⟨Lc19, hQ19, l19, y19, z19⟩, st19⟩ := Jvm.LawKit.callS X17 hx (y := (⟨"com/example/unweave/unweave/uw/Expr", "canBe", "(IZ)Z"⟩ : MethodName)) hown (mvT hZ (hw _ (List.mem_of_getElem? (i := 0) rfl))) (mvT hZ (hw _ (List.mem_of_getElem? (i := 1) rfl))) (mvT hZ (hw _ (List.mem_of_getElem? (i := 2) rfl))) (mvT hZ (hw _ (List.mem_of_getElem? (i := 3) rfl))) (by decide) (backOf (W := 0) (rm1 l Z a0 hw [] (3 : Int32) z7 h0 n0 Z0) hZ (hw _ (List.mem_of_getElem? (i := 3) rfl)) (hw _ (List.mem_of_getElem? (i := 2) rfl)) (by decide) (by decide)) (g := (mkF m 97 #[.val (.int p0), .val (.int p1), .val (.int z7), .val (.int z9), .val (.int z14), .val (.int z15), .val (.int (0 : Int32)), .unset, .unset] [(.int z7), (.int (3 : Int32))])) rfl (by rw [hml]; rfl) (argsL := [(.int (3 : Int32)), (.int z7)]) (rest := []) (lenOf pd_1 rfl) rfl (by show 2 * 0 + _ ≤ _; exact Nat.le_of_eq rfl) (hb hby at_97) (fun _ _ => ⟨rfl, e17, (by decide : 0 + 0 ≤ _), (by decide : 0 + 0 ≤ _)⟩)
    dsimp only [Pt.U, Pt.locs, Pt.cells, Pt.slots] at X19 l19 y19 z19 st19 hQ19
    subst l19 y19 z19
    obtain ⟨rfl, N19q, e19⟩ := hQ19
    have N19 := Fr.app N17 N19q
    refine own_via (T19.setTop (mkF m 100 #[.val (.int p0), .val (.int p1), .val (.int z7), .val (.int z9), .val (.int z14), .val (.int z15), .val (.int (0 : Int32)), .unset, .unset] [(.int (own_f1 (3 : Int32) z7))])) (fun t k => st19 t k) ?_
    obtain ⟨z20, hz20⟩ : ∃ z : Int32, z = (own_f1 (3 : Int32) z7) := ⟨_, rfl⟩
    refine own_via (T19.setTop (mkF m 102 #[.val (.int p0), .val (.int p1), .val (.int z7), .val (.int z9), .val (.int z14), .val (.int z15), .val (.int (0 : Int32)), .val (.int z20), .unset] [])) (fun t k => XS.istore X19.here hx rfl (hb hby at_100) rfl (l' := #[.val (.int p0), .val (.int p1), .val (.int z7), .val (.int z9), .val (.int z14), .val (.int z15), .val (.int (0 : Int32)), .val (.int z20), .unset]) (by rw [hz20]; rfl) k) ?_
    refine own_via (T19.setTop (mkF m 103 #[.val (.int p0), .val (.int p1), .val (.int z7), .val (.int z9), .val (.int z14), .val (.int z15), .val (.int (0 : Int32)), .val (.int z20), .unset] [(.int (0 : Int32))])) (fun t k => XS.iconst X19.here hx rfl (hb hby at_102) k) ?_
    refine own_via (T19.setTop (mkF m 104 #[.val (.int p0), .val (.int p1), .val (.int z7), .val (.int z9), .val (.int z14), .val (.int z15), .val (.int (0 : Int32)), .val (.int z20), .unset] [(.int z7), (.int (0 : Int32))])) (fun t k => XS.iloadN X19.here hx rfl (hb hby at_103) rfl  k) ?_
    obtain ⟨_, _, ⟨T21, L21, k21, n21⟩, -, X21, ⟨Lc21, hQ21, l21, y21, z21⟩, st21⟩ := Jvm.LawKit.callS X19 hx (y := (⟨"com/example/unweave/unweave/uw/Expr", "canBe", "(IZ)Z"⟩ : MethodName)) hown (mvT hZ (hw _ (List.mem_of_getElem? (i := 0) rfl))) (mvT hZ (hw _ (List.mem_of_getElem? (i := 1) rfl))) (mvT hZ (hw _ (List.mem_of_getElem? (i := 2) rfl))) (mvT hZ (hw _ (List.mem_of_getElem? (i := 3) rfl))) (by decide) (backOf (W := 0) (rm1 l Z a0 hw [] (0 : Int32) z7 h0 n0 Z0) hZ (hw _ (List.mem_of_getElem? (i := 3) rfl)) (hw _ (List.mem_of_getElem? (i := 2) rfl)) (by decide) (by decide)) (g := (mkF m 104 #[.val (.int p0), .val (.int p1), .val (.int z7), .val (.int z9), .val (.int z14), .val (.int z15), .val (.int (0 : Int32)), .val (.int z20), .unset] [(.int z7), (.int (0 : Int32))])) rfl (by rw [hml]; rfl) (argsL := [(.int (0 : Int32)), (.int z7)]) (rest := []) (lenOf pd_1 rfl) rfl (by show 2 * 0 + _ ≤ _; exact Nat.le_of_eq rfl) (hb hby at_104) (fun _ _ => ⟨rfl, e19, (by decide : 0 + 0 ≤ _), (by decide : 0 + 0 ≤ _)⟩)
    dsimp only [Pt.U, Pt.locs, Pt.cells, Pt.slots] at X21 l21 y21 z21 st21 hQ21
    subst l21 y21 z21
    obtain ⟨rfl, N21q, e21⟩ := hQ21
    have N21 := Fr.app N19 N21q
    refine own_via (T21.setTop (mkF m 107 #[.val (.int p0), .val (.int p1), .val (.int z7), .val (.int z9), .val (.int z14), .val (.int z15), .val (.int (0 : Int32)), .val (.int z20), .unset] [(.int (own_f1 (0 : Int32) z7))])) (fun t k => st21 t k) ?_
    obtain ⟨z22, hz22⟩ : ∃ z : Int32, z = (if (own_f1 (0 : Int32) z7) = (0 : Int32) then (1 : Int32) else (0 : Int32)) := ⟨_, rfl⟩
    refine own_via (T21.setTop (mkF m 115 #[.val (.int p0), .val (.int p1), .val (.int z7), .val (.int z9), .val (.int z14), .val (.int z15), .val (.int (0 : Int32)), .val (.int z20), .unset] [(.int z22)])) (fun t k => ?_) ?_
    · skip
      by_cases hj107_23 : (own_f1 (0 : Int32) z7) = (0 : Int32)
      · refine XS.ifNo X21.here hx rfl (hb hby at_107) rfl ((if0 _ _).trans (teq hj107_23).2) (?_ : Steps p.tables e below (T21.setTop (mkF m 110 #[.val (.int p0), .val (.int p1), .val (.int z7), .val (.int z9), .val (.int z14), .val (.int z15), .val (.int (0 : Int32)), .val (.int z20), .unset] [])) t)
        refine XS.iconst X21.here hx rfl (hb hby at_110) (?_ : Steps p.tables e below (T21.setTop (mkF m 111 #[.val (.int p0), .val (.int p1), .val (.int z7), .val (.int z9), .val (.int z14), .val (.int z15), .val (.int (0 : Int32)), .val (.int z20), .unset] [(.int (1 : Int32))])) t)
        refine XS.goto X21.here hx rfl (pc0 := 111) (pc' := 115) rfl (hb hby at_111) (by decide) (by decide) (?_ : Steps p.tables e below (T21.setTop (mkF m 115 #[.val (.int p0), .val (.int p1), .val (.int z7), .val (.int z9), .val (.int z14), .val (.int z15), .val (.int (0 : Int32)), .val (.int z20), .unset] [(.int (1 : Int32))])) t)
        have q_z22 := (hz22.trans (if_pos hj107_23))
        subst q_z22
        exact k
      · refine XS.ifYes X21.here hx rfl (pc0 := 107) (pc' := 114) rfl (hb hby at_107) rfl ((if0 _ _).trans (feq hj107_23).2) (by decide) (by decide) (?_ : Steps p.tables e below (T21.setTop (mkF m 114 #[.val (.int p0), .val (.int p1), .val (.int z7), .val (.int z9), .val (.int z14), .val (.int z15), .val (.int (0 : Int32)), .val (.int z20), .unset] [])) t)
        refine XS.iconst X21.here hx rfl (hb hby at_114) (?_ : Steps p.tables e below (T21.setTop (mkF m 115 #[.val (.int p0), .val (.int p1), .val (.int z7), .val (.int z9), .val (.int z14), .val (.int z15), .val (.int (0 : Int32)), .val (.int z20), .unset] [(.int (0 : Int32))])) t)
        have q_z22 := (hz22.trans (if_neg hj107_23))
        subst q_z22
        exact k
    refine own_via (T21.setTop (mkF m 117 #[.val (.int p0), .val (.int p1), .val (.int z7), .val (.int z9), .val (.int z14), .val (.int z15), .val (.int (0 : Int32)), .val (.int z20), .val (.int z22)] [])) (fun t k => XS.istore X21.here hx rfl (hb hby at_115) rfl (l' := #[.val (.int p0), .val (.int p1), .val (.int z7), .val (.int z9), .val (.int z14), .val (.int z15), .val (.int (0 : Int32)), .val (.int z20), .val (.int z22)]) rfl k) ?_
    refine own_via (T21.setTop (mkF m 119 #[.val (.int p0), .val (.int p1), .val (.int z7), .val (.int z9), .val (.int z14), .val (.int z15), .val (.int (0 : Int32)), .val (.int z20), .val (.int z22)] [(.int z14)])) (fun t k => XS.iload X21.here hx rfl (hb hby at_117) rfl  k) ?_
    refine own_via (T21.setTop (mkF m 120 #[.val (.int p0), .val (.int p1), .val (.int z7), .val (.int z9), .val (.int z14), .val (.int z15), .val (.int (0 : Int32)), .val (.int z20), .val (.int z22)] [(.int z9), (.int z14)])) (fun t k => XS.iloadN X21.here hx rfl (hb hby at_119) rfl  k) ?_
    refine own_via (T21.setTop (mkF m 143 #[.val (.int p0), .val (.int p1), .val (.int z7), .val (.int z9), .val (.int z14), .val (.int z15), .val (.int (0 : Int32)), .val (.int z20), .val (.int z22)] [(.int (0 : Int32))])) (fun t k => ?_) ?_
    · skip
      by_cases hj120_24 : z14 = z9
      · refine XS.icmpNo X21.here hx rfl (hb hby at_120) rfl (teq hj120_24).2 (?_ : Steps p.tables e below (T21.setTop (mkF m 123 #[.val (.int p0), .val (.int p1), .val (.int z7), .val (.int z9), .val (.int z14), .val (.int z15), .val (.int (0 : Int32)), .val (.int z20), .val (.int z22)] [])) t)
        refine XS.iload X21.here hx rfl (hb hby at_123) rfl  (?_ : Steps p.tables e below (T21.setTop (mkF m 125 #[.val (.int p0), .val (.int p1), .val (.int z7), .val (.int z9), .val (.int z14), .val (.int z15), .val (.int (0 : Int32)), .val (.int z20), .val (.int z22)] [(.int (0 : Int32))])) t)
        refine XS.ifYes X21.here hx rfl (pc0 := 125) (pc' := 142) rfl (hb hby at_125) rfl ((if0 _ _).trans (teq (by decide)).1) (by decide) (by decide) (?_ : Steps p.tables e below (T21.setTop (mkF m 142 #[.val (.int p0), .val (.int p1), .val (.int z7), .val (.int z9), .val (.int z14), .val (.int z15), .val (.int (0 : Int32)), .val (.int z20), .val (.int z22)] [])) t)
        refine XS.iconst X21.here hx rfl (hb hby at_142) (?_ : Steps p.tables e below (T21.setTop (mkF m 143 #[.val (.int p0), .val (.int p1), .val (.int z7), .val (.int z9), .val (.int z14), .val (.int z15), .val (.int (0 : Int32)), .val (.int z20), .val (.int z22)] [(.int (0 : Int32))])) t)
        exact k
      · refine XS.icmpYes X21.here hx rfl (pc0 := 120) (pc' := 142) rfl (hb hby at_120) rfl (feq hj120_24).2 (by decide) (by decide) (?_ : Steps p.tables e below (T21.setTop (mkF m 142 #[.val (.int p0), .val (.int p1), .val (.int z7), .val (.int z9), .val (.int z14), .val (.int z15), .val (.int (0 : Int32)), .val (.int z20), .val (.int z22)] [])) t)
        refine XS.iconst X21.here hx rfl (hb hby at_142) (?_ : Steps p.tables e below (T21.setTop (mkF m 143 #[.val (.int p0), .val (.int p1), .val (.int z7), .val (.int z9), .val (.int z14), .val (.int z15), .val (.int (0 : Int32)), .val (.int z20), .val (.int z22)] [(.int (0 : Int32))])) t)
        exact k
    refine own_leave X21 Bd.notSynchronized (v := some (.int (0 : Int32))) (fun h => by rw [Bd.returns] at h; cases h) (fun fs hr => retN X21 hx (t := .boolean) Bd.returns (by simp) (hb hby at_143) hr) ?_ (by decide) (by decide)
    exfalso
    obtain ⟨l1, l2, l3, l4, l5⟩ := own_law p0 z7 (own_01 hz7)
    subst hz15
    exact absurd hc68_18 l2
  · refine own_via (T17.setTop (mkF m 71 #[.val (.int p0), .val (.int p1), .val (.int z7), .val (.int z9), .val (.int z14), .val (.int z15), .unset, .unset, .unset] [])) (fun t k => XS.ifNo X17.here hx rfl (hb hby at_68) rfl ((if0 _ _).trans (feq hc68_18).1) k) ?_
    refine own_via (T17.setTop (mkF m 73 #[.val (.int p0), .val (.int p1), .val (.int z7), .val (.int z9), .val (.int z14), .val (.int z15), .unset, .unset, .unset] [(.int z15)])) (fun t k => XS.iload X17.here hx rfl (hb hby at_71) rfl  k) ?_
    refine own_via (T17.setTop (mkF m 74 #[.val (.int p0), .val (.int p1), .val (.int z7), .val (.int z9), .val (.int z14), .val (.int z15), .unset, .unset, .unset] [(.int z7), (.int z15)])) (fun t k => XS.iloadN X17.here hx rfl (hb hby at_73) rfl  k) ?_
    obtain ⟨z25, hz25⟩ : ∃ z : Int32, z = (if z7 = (0 : Int32) then (1 : Int32) else (0 : Int32)) := ⟨_, rfl⟩
    refine own_via (T17.setTop (mkF m 82 #[.val (.int p0), .val (.int p1), .val (.int z7), .val (.int z9), .val (.int z14), .val (.int z15), .unset, .unset, .unset] [(.int z25), (.int z15)])) (fun t k => ?_) ?_
    · skip
      by_cases hj74_26 : z7 = (0 : Int32)
      · refine XS.ifNo X17.here hx rfl (hb hby at_74) rfl ((if0 _ _).trans (teq hj74_26).2) (?_ : Steps p.tables e below (T17.setTop (mkF m 77 #[.val (.int p0), .val (.int p1), .val (.int z7), .val (.int z9), .val (.int z14), .val (.int z15), .unset, .unset, .unset] [(.int z15)])) t)
        refine XS.iconst X17.here hx rfl (hb hby at_77) (?_ : Steps p.tables e below (T17.setTop (mkF m 78 #[.val (.int p0), .val (.int p1), .val (.int z7), .val (.int z9), .val (.int z14), .val (.int z15), .unset, .unset, .unset] [(.int (1 : Int32)), (.int z15)])) t)
        refine XS.goto X17.here hx rfl (pc0 := 78) (pc' := 82) rfl (hb hby at_78) (by decide) (by decide) (?_ : Steps p.tables e below (T17.setTop (mkF m 82 #[.val (.int p0), .val (.int p1), .val (.int z7), .val (.int z9), .val (.int z14), .val (.int z15), .unset, .unset, .unset] [(.int (1 : Int32)), (.int z15)])) t)
        have q_z25 := (hz25.trans (if_pos hj74_26))
        subst q_z25
        exact k
      · refine XS.ifYes X17.here hx rfl (pc0 := 74) (pc' := 81) rfl (hb hby at_74) rfl ((if0 _ _).trans (feq hj74_26).2) (by decide) (by decide) (?_ : Steps p.tables e below (T17.setTop (mkF m 81 #[.val (.int p0), .val (.int p1), .val (.int z7), .val (.int z9), .val (.int z14), .val (.int z15), .unset, .unset, .unset] [(.int z15)])) t)
        refine XS.iconst X17.here hx rfl (hb hby at_81) (?_ : Steps p.tables e below (T17.setTop (mkF m 82 #[.val (.int p0), .val (.int p1), .val (.int z7), .val (.int z9), .val (.int z14), .val (.int z15), .unset, .unset, .unset] [(.int (0 : Int32)), (.int z15)])) t)
        have q_z25 := (hz25.trans (if_neg hj74_26))
        subst q_z25
        exact k
    obtain ⟨_, _, ⟨T27, L27, k27, n27⟩, -, X27, ⟨Lc27, hQ27, l27, y27, z27⟩, st27⟩ := Jvm.LawKit.callS X17 hx (y := (⟨"com/example/unweave/unweave/uw/Expr", "canBe", "(IZ)Z"⟩ : MethodName)) hown (mvT hZ (hw _ (List.mem_of_getElem? (i := 0) rfl))) (mvT hZ (hw _ (List.mem_of_getElem? (i := 1) rfl))) (mvT hZ (hw _ (List.mem_of_getElem? (i := 2) rfl))) (mvT hZ (hw _ (List.mem_of_getElem? (i := 3) rfl))) (by decide) (backOf (W := 0) (rm1 l Z a0 hw [] z15 z25 h0 n0 Z0) hZ (hw _ (List.mem_of_getElem? (i := 3) rfl)) (hw _ (List.mem_of_getElem? (i := 2) rfl)) (by decide) (by decide)) (g := (mkF m 82 #[.val (.int p0), .val (.int p1), .val (.int z7), .val (.int z9), .val (.int z14), .val (.int z15), .unset, .unset, .unset] [(.int z25), (.int z15)])) rfl (by rw [hml]; rfl) (argsL := [(.int z15), (.int z25)]) (rest := []) (lenOf pd_1 rfl) rfl (by show 2 * 0 + _ ≤ _; exact Nat.le_of_eq rfl) (hb hby at_82) (fun _ _ => ⟨rfl, e17, (by decide : 0 + 0 ≤ _), (by decide : 0 + 0 ≤ _)⟩)
    dsimp only [Pt.U, Pt.locs, Pt.cells, Pt.slots] at X27 l27 y27 z27 st27 hQ27
    subst l27 y27 z27
    obtain ⟨rfl, N27q, e27⟩ := hQ27
    have N27 := Fr.app N17 N27q
    refine own_via (T27.setTop (mkF m 85 #[.val (.int p0), .val (.int p1), .val (.int z7), .val (.int z9), .val (.int z14), .val (.int z15), .unset, .unset, .unset] [(.int (own_f1 z15 z25))])) (fun t k => st27 t k) ?_
    obtain ⟨z28, hz28⟩ : ∃ z : Int32, z = (if (own_f1 z15 z25) = (0 : Int32) then (1 : Int32) else (0 : Int32)) := ⟨_, rfl⟩
    refine own_via (T27.setTop (mkF m 93 #[.val (.int p0), .val (.int p1), .val (.int z7), .val (.int z9), .val (.int z14), .val (.int z15), .unset, .unset, .unset] [(.int z28)])) (fun t k => ?_) ?_
    · skip
      by_cases hj85_29 : (own_f1 z15 z25) = (0 : Int32)
      · refine XS.ifNo X27.here hx rfl (hb hby at_85) rfl ((if0 _ _).trans (teq hj85_29).2) (?_ : Steps p.tables e below (T27.setTop (mkF m 88 #[.val (.int p0), .val (.int p1), .val (.int z7), .val (.int z9), .val (.int z14), .val (.int z15), .unset, .unset, .unset] [])) t)
        refine XS.iconst X27.here hx rfl (hb hby at_88) (?_ : Steps p.tables e below (T27.setTop (mkF m 89 #[.val (.int p0), .val (.int p1), .val (.int z7), .val (.int z9), .val (.int z14), .val (.int z15), .unset, .unset, .unset] [(.int (1 : Int32))])) t)
        refine XS.goto X27.here hx rfl (pc0 := 89) (pc' := 93) rfl (hb hby at_89) (by decide) (by decide) (?_ : Steps p.tables e below (T27.setTop (mkF m 93 #[.val (.int p0), .val (.int p1), .val (.int z7), .val (.int z9), .val (.int z14), .val (.int z15), .unset, .unset, .unset] [(.int (1 : Int32))])) t)
        have q_z28 := (hz28.trans (if_pos hj85_29))
        subst q_z28
        exact k
      · refine XS.ifYes X27.here hx rfl (pc0 := 85) (pc' := 92) rfl (hb hby at_85) rfl ((if0 _ _).trans (feq hj85_29).2) (by decide) (by decide) (?_ : Steps p.tables e below (T27.setTop (mkF m 92 #[.val (.int p0), .val (.int p1), .val (.int z7), .val (.int z9), .val (.int z14), .val (.int z15), .unset, .unset, .unset] [])) t)
        refine XS.iconst X27.here hx rfl (hb hby at_92) (?_ : Steps p.tables e below (T27.setTop (mkF m 93 #[.val (.int p0), .val (.int p1), .val (.int z7), .val (.int z9), .val (.int z14), .val (.int z15), .unset, .unset, .unset] [(.int (0 : Int32))])) t)
        have q_z28 := (hz28.trans (if_neg hj85_29))
        subst q_z28
        exact k
    refine own_via (T27.setTop (mkF m 95 #[.val (.int p0), .val (.int p1), .val (.int z7), .val (.int z9), .val (.int z14), .val (.int z15), .val (.int z28), .unset, .unset] [])) (fun t k => XS.istore X27.here hx rfl (hb hby at_93) rfl (l' := #[.val (.int p0), .val (.int p1), .val (.int z7), .val (.int z9), .val (.int z14), .val (.int z15), .val (.int z28), .unset, .unset]) rfl k) ?_
    refine own_via (T27.setTop (mkF m 96 #[.val (.int p0), .val (.int p1), .val (.int z7), .val (.int z9), .val (.int z14), .val (.int z15), .val (.int z28), .unset, .unset] [(.int (3 : Int32))])) (fun t k => XS.iconst X27.here hx rfl (hb hby at_95) k) ?_
    refine own_via (T27.setTop (mkF m 97 #[.val (.int p0), .val (.int p1), .val (.int z7), .val (.int z9), .val (.int z14), .val (.int z15), .val (.int z28), .unset, .unset] [(.int z7), (.int (3 : Int32))])) (fun t k => XS.iloadN X27.here hx rfl (hb hby at_96) rfl  k) ?_
    obtain ⟨_, _, ⟨T30, L30, k30, n30⟩, -, X30, ⟨Lc30, hQ30, l30, y30, z30⟩, st30⟩ := Jvm.LawKit.callS X27 hx (y := (⟨"com/example/unweave/unweave/uw/Expr", "canBe", "(IZ)Z"⟩ : MethodName)) hown (mvT hZ (hw _ (List.mem_of_getElem? (i := 0) rfl))) (mvT hZ (hw _ (List.mem_of_getElem? (i := 1) rfl))) (mvT hZ (hw _ (List.mem_of_getElem? (i := 2) rfl))) (mvT hZ (hw _ (List.mem_of_getElem? (i := 3) rfl))) (by decide) (backOf (W := 0) (rm1 l Z a0 hw [] (3 : Int32) z7 h0 n0 Z0) hZ (hw _ (List.mem_of_getElem? (i := 3) rfl)) (hw _ (List.mem_of_getElem? (i := 2) rfl)) (by decide) (by decide)) (g := (mkF m 97 #[.val (.int p0), .val (.int p1), .val (.int z7), .val (.int z9), .val (.int z14), .val (.int z15), .val (.int z28), .unset, .unset] [(.int z7), (.int (3 : Int32))])) rfl (by rw [hml]; rfl) (argsL := [(.int (3 : Int32)), (.int z7)]) (rest := []) (lenOf pd_1 rfl) rfl (by show 2 * 0 + _ ≤ _; exact Nat.le_of_eq rfl) (hb hby at_97) (fun _ _ => ⟨rfl, e27, (by decide : 0 + 0 ≤ _), (by decide : 0 + 0 ≤ _)⟩)
    dsimp only [Pt.U, Pt.locs, Pt.cells, Pt.slots] at X30 l30 y30 z30 st30 hQ30
    subst l30 y30 z30
    obtain ⟨rfl, N30q, e30⟩ := hQ30
    have N30 := Fr.app N27 N30q
    refine own_via (T30.setTop (mkF m 100 #[.val (.int p0), .val (.int p1), .val (.int z7), .val (.int z9), .val (.int z14), .val (.int z15), .val (.int z28), .unset, .unset] [(.int (own_f1 (3 : Int32) z7))])) (fun t k => st30 t k) ?_
    obtain ⟨z31, hz31⟩ : ∃ z : Int32, z = (own_f1 (3 : Int32) z7) := ⟨_, rfl⟩
    refine own_via (T30.setTop (mkF m 102 #[.val (.int p0), .val (.int p1), .val (.int z7), .val (.int z9), .val (.int z14), .val (.int z15), .val (.int z28), .val (.int z31), .unset] [])) (fun t k => XS.istore X30.here hx rfl (hb hby at_100) rfl (l' := #[.val (.int p0), .val (.int p1), .val (.int z7), .val (.int z9), .val (.int z14), .val (.int z15), .val (.int z28), .val (.int z31), .unset]) (by rw [hz31]; rfl) k) ?_
    refine own_via (T30.setTop (mkF m 103 #[.val (.int p0), .val (.int p1), .val (.int z7), .val (.int z9), .val (.int z14), .val (.int z15), .val (.int z28), .val (.int z31), .unset] [(.int (0 : Int32))])) (fun t k => XS.iconst X30.here hx rfl (hb hby at_102) k) ?_
    refine own_via (T30.setTop (mkF m 104 #[.val (.int p0), .val (.int p1), .val (.int z7), .val (.int z9), .val (.int z14), .val (.int z15), .val (.int z28), .val (.int z31), .unset] [(.int z7), (.int (0 : Int32))])) (fun t k => XS.iloadN X30.here hx rfl (hb hby at_103) rfl  k) ?_
    obtain ⟨_, _, ⟨T32, L32, k32, n32⟩, -, X32, ⟨Lc32, hQ32, l32, y32, z32⟩, st32⟩ := Jvm.LawKit.callS X30 hx (y := (⟨"com/example/unweave/unweave/uw/Expr", "canBe", "(IZ)Z"⟩ : MethodName)) hown (mvT hZ (hw _ (List.mem_of_getElem? (i := 0) rfl))) (mvT hZ (hw _ (List.mem_of_getElem? (i := 1) rfl))) (mvT hZ (hw _ (List.mem_of_getElem? (i := 2) rfl))) (mvT hZ (hw _ (List.mem_of_getElem? (i := 3) rfl))) (by decide) (backOf (W := 0) (rm1 l Z a0 hw [] (0 : Int32) z7 h0 n0 Z0) hZ (hw _ (List.mem_of_getElem? (i := 3) rfl)) (hw _ (List.mem_of_getElem? (i := 2) rfl)) (by decide) (by decide)) (g := (mkF m 104 #[.val (.int p0), .val (.int p1), .val (.int z7), .val (.int z9), .val (.int z14), .val (.int z15), .val (.int z28), .val (.int z31), .unset] [(.int z7), (.int (0 : Int32))])) rfl (by rw [hml]; rfl) (argsL := [(.int (0 : Int32)), (.int z7)]) (rest := []) (lenOf pd_1 rfl) rfl (by show 2 * 0 + _ ≤ _; exact Nat.le_of_eq rfl) (hb hby at_104) (fun _ _ => ⟨rfl, e30, (by decide : 0 + 0 ≤ _), (by decide : 0 + 0 ≤ _)⟩)
    dsimp only [Pt.U, Pt.locs, Pt.cells, Pt.slots] at X32 l32 y32 z32 st32 hQ32
    subst l32 y32 z32
    obtain ⟨rfl, N32q, e32⟩ := hQ32
    have N32 := Fr.app N30 N32q
    refine own_via (T32.setTop (mkF m 107 #[.val (.int p0), .val (.int p1), .val (.int z7), .val (.int z9), .val (.int z14), .val (.int z15), .val (.int z28), .val (.int z31), .unset] [(.int (own_f1 (0 : Int32) z7))])) (fun t k => st32 t k) ?_
    obtain ⟨z33, hz33⟩ : ∃ z : Int32, z = (if (own_f1 (0 : Int32) z7) = (0 : Int32) then (1 : Int32) else (0 : Int32)) := ⟨_, rfl⟩
    refine own_via (T32.setTop (mkF m 115 #[.val (.int p0), .val (.int p1), .val (.int z7), .val (.int z9), .val (.int z14), .val (.int z15), .val (.int z28), .val (.int z31), .unset] [(.int z33)])) (fun t k => ?_) ?_
    · skip
      by_cases hj107_34 : (own_f1 (0 : Int32) z7) = (0 : Int32)
      · refine XS.ifNo X32.here hx rfl (hb hby at_107) rfl ((if0 _ _).trans (teq hj107_34).2) (?_ : Steps p.tables e below (T32.setTop (mkF m 110 #[.val (.int p0), .val (.int p1), .val (.int z7), .val (.int z9), .val (.int z14), .val (.int z15), .val (.int z28), .val (.int z31), .unset] [])) t)
        refine XS.iconst X32.here hx rfl (hb hby at_110) (?_ : Steps p.tables e below (T32.setTop (mkF m 111 #[.val (.int p0), .val (.int p1), .val (.int z7), .val (.int z9), .val (.int z14), .val (.int z15), .val (.int z28), .val (.int z31), .unset] [(.int (1 : Int32))])) t)
        refine XS.goto X32.here hx rfl (pc0 := 111) (pc' := 115) rfl (hb hby at_111) (by decide) (by decide) (?_ : Steps p.tables e below (T32.setTop (mkF m 115 #[.val (.int p0), .val (.int p1), .val (.int z7), .val (.int z9), .val (.int z14), .val (.int z15), .val (.int z28), .val (.int z31), .unset] [(.int (1 : Int32))])) t)
        have q_z33 := (hz33.trans (if_pos hj107_34))
        subst q_z33
        exact k
      · refine XS.ifYes X32.here hx rfl (pc0 := 107) (pc' := 114) rfl (hb hby at_107) rfl ((if0 _ _).trans (feq hj107_34).2) (by decide) (by decide) (?_ : Steps p.tables e below (T32.setTop (mkF m 114 #[.val (.int p0), .val (.int p1), .val (.int z7), .val (.int z9), .val (.int z14), .val (.int z15), .val (.int z28), .val (.int z31), .unset] [])) t)
        refine XS.iconst X32.here hx rfl (hb hby at_114) (?_ : Steps p.tables e below (T32.setTop (mkF m 115 #[.val (.int p0), .val (.int p1), .val (.int z7), .val (.int z9), .val (.int z14), .val (.int z15), .val (.int z28), .val (.int z31), .unset] [(.int (0 : Int32))])) t)
        have q_z33 := (hz33.trans (if_neg hj107_34))
        subst q_z33
        exact k
    refine own_via (T32.setTop (mkF m 117 #[.val (.int p0), .val (.int p1), .val (.int z7), .val (.int z9), .val (.int z14), .val (.int z15), .val (.int z28), .val (.int z31), .val (.int z33)] [])) (fun t k => XS.istore X32.here hx rfl (hb hby at_115) rfl (l' := #[.val (.int p0), .val (.int p1), .val (.int z7), .val (.int z9), .val (.int z14), .val (.int z15), .val (.int z28), .val (.int z31), .val (.int z33)]) rfl k) ?_
    refine own_via (T32.setTop (mkF m 119 #[.val (.int p0), .val (.int p1), .val (.int z7), .val (.int z9), .val (.int z14), .val (.int z15), .val (.int z28), .val (.int z31), .val (.int z33)] [(.int z14)])) (fun t k => XS.iload X32.here hx rfl (hb hby at_117) rfl  k) ?_
    refine own_via (T32.setTop (mkF m 120 #[.val (.int p0), .val (.int p1), .val (.int z7), .val (.int z9), .val (.int z14), .val (.int z15), .val (.int z28), .val (.int z31), .val (.int z33)] [(.int z9), (.int z14)])) (fun t k => XS.iloadN X32.here hx rfl (hb hby at_119) rfl  k) ?_
    obtain ⟨z35, hz35⟩ : ∃ z : Int32, z = (if z14 = z9 then (if z28 = (0 : Int32) then (0 : Int32) else (if z31 = (0 : Int32) then (0 : Int32) else (if z33 = (0 : Int32) then (0 : Int32) else (1 : Int32)))) else (0 : Int32)) := ⟨_, rfl⟩
    refine own_via (T32.setTop (mkF m 143 #[.val (.int p0), .val (.int p1), .val (.int z7), .val (.int z9), .val (.int z14), .val (.int z15), .val (.int z28), .val (.int z31), .val (.int z33)] [(.int z35)])) (fun t k => ?_) ?_
    · skip
      by_cases hj120_36 : z14 = z9
      · refine XS.icmpNo X32.here hx rfl (hb hby at_120) rfl (teq hj120_36).2 (?_ : Steps p.tables e below (T32.setTop (mkF m 123 #[.val (.int p0), .val (.int p1), .val (.int z7), .val (.int z9), .val (.int z14), .val (.int z15), .val (.int z28), .val (.int z31), .val (.int z33)] [])) t)
        refine XS.iload X32.here hx rfl (hb hby at_123) rfl  (?_ : Steps p.tables e below (T32.setTop (mkF m 125 #[.val (.int p0), .val (.int p1), .val (.int z7), .val (.int z9), .val (.int z14), .val (.int z15), .val (.int z28), .val (.int z31), .val (.int z33)] [(.int z28)])) t)
        by_cases hj125_37 : z28 = (0 : Int32)
        · refine XS.ifYes X32.here hx rfl (pc0 := 125) (pc' := 142) rfl (hb hby at_125) rfl ((if0 _ _).trans (teq hj125_37).1) (by decide) (by decide) (?_ : Steps p.tables e below (T32.setTop (mkF m 142 #[.val (.int p0), .val (.int p1), .val (.int z7), .val (.int z9), .val (.int z14), .val (.int z15), .val (.int z28), .val (.int z31), .val (.int z33)] [])) t)
          refine XS.iconst X32.here hx rfl (hb hby at_142) (?_ : Steps p.tables e below (T32.setTop (mkF m 143 #[.val (.int p0), .val (.int p1), .val (.int z7), .val (.int z9), .val (.int z14), .val (.int z15), .val (.int z28), .val (.int z31), .val (.int z33)] [(.int (0 : Int32))])) t)
          have q_z35 := ((hz35.trans (if_pos hj120_36)).trans (if_pos hj125_37))
          subst q_z35
          exact k
        · refine XS.ifNo X32.here hx rfl (hb hby at_125) rfl ((if0 _ _).trans (feq hj125_37).1) (?_ : Steps p.tables e below (T32.setTop (mkF m 128 #[.val (.int p0), .val (.int p1), .val (.int z7), .val (.int z9), .val (.int z14), .val (.int z15), .val (.int z28), .val (.int z31), .val (.int z33)] [])) t)
          refine XS.iload X32.here hx rfl (hb hby at_128) rfl  (?_ : Steps p.tables e below (T32.setTop (mkF m 130 #[.val (.int p0), .val (.int p1), .val (.int z7), .val (.int z9), .val (.int z14), .val (.int z15), .val (.int z28), .val (.int z31), .val (.int z33)] [(.int z31)])) t)
          by_cases hj130_38 : z31 = (0 : Int32)
          · refine XS.ifYes X32.here hx rfl (pc0 := 130) (pc' := 142) rfl (hb hby at_130) rfl ((if0 _ _).trans (teq hj130_38).1) (by decide) (by decide) (?_ : Steps p.tables e below (T32.setTop (mkF m 142 #[.val (.int p0), .val (.int p1), .val (.int z7), .val (.int z9), .val (.int z14), .val (.int z15), .val (.int z28), .val (.int z31), .val (.int z33)] [])) t)
            refine XS.iconst X32.here hx rfl (hb hby at_142) (?_ : Steps p.tables e below (T32.setTop (mkF m 143 #[.val (.int p0), .val (.int p1), .val (.int z7), .val (.int z9), .val (.int z14), .val (.int z15), .val (.int z28), .val (.int z31), .val (.int z33)] [(.int (0 : Int32))])) t)
            have q_z35 := (((hz35.trans (if_pos hj120_36)).trans (if_neg hj125_37)).trans (if_pos hj130_38))
            subst q_z35
            exact k
          · refine XS.ifNo X32.here hx rfl (hb hby at_130) rfl ((if0 _ _).trans (feq hj130_38).1) (?_ : Steps p.tables e below (T32.setTop (mkF m 133 #[.val (.int p0), .val (.int p1), .val (.int z7), .val (.int z9), .val (.int z14), .val (.int z15), .val (.int z28), .val (.int z31), .val (.int z33)] [])) t)
            refine XS.iload X32.here hx rfl (hb hby at_133) rfl  (?_ : Steps p.tables e below (T32.setTop (mkF m 135 #[.val (.int p0), .val (.int p1), .val (.int z7), .val (.int z9), .val (.int z14), .val (.int z15), .val (.int z28), .val (.int z31), .val (.int z33)] [(.int z33)])) t)
            by_cases hj135_39 : z33 = (0 : Int32)
            · refine XS.ifYes X32.here hx rfl (pc0 := 135) (pc' := 142) rfl (hb hby at_135) rfl ((if0 _ _).trans (teq hj135_39).1) (by decide) (by decide) (?_ : Steps p.tables e below (T32.setTop (mkF m 142 #[.val (.int p0), .val (.int p1), .val (.int z7), .val (.int z9), .val (.int z14), .val (.int z15), .val (.int z28), .val (.int z31), .val (.int z33)] [])) t)
              refine XS.iconst X32.here hx rfl (hb hby at_142) (?_ : Steps p.tables e below (T32.setTop (mkF m 143 #[.val (.int p0), .val (.int p1), .val (.int z7), .val (.int z9), .val (.int z14), .val (.int z15), .val (.int z28), .val (.int z31), .val (.int z33)] [(.int (0 : Int32))])) t)
              have q_z35 := ((((hz35.trans (if_pos hj120_36)).trans (if_neg hj125_37)).trans (if_neg hj130_38)).trans (if_pos hj135_39))
              subst q_z35
              exact k
            · refine XS.ifNo X32.here hx rfl (hb hby at_135) rfl ((if0 _ _).trans (feq hj135_39).1) (?_ : Steps p.tables e below (T32.setTop (mkF m 138 #[.val (.int p0), .val (.int p1), .val (.int z7), .val (.int z9), .val (.int z14), .val (.int z15), .val (.int z28), .val (.int z31), .val (.int z33)] [])) t)
              refine XS.iconst X32.here hx rfl (hb hby at_138) (?_ : Steps p.tables e below (T32.setTop (mkF m 139 #[.val (.int p0), .val (.int p1), .val (.int z7), .val (.int z9), .val (.int z14), .val (.int z15), .val (.int z28), .val (.int z31), .val (.int z33)] [(.int (1 : Int32))])) t)
              refine XS.goto X32.here hx rfl (pc0 := 139) (pc' := 143) rfl (hb hby at_139) (by decide) (by decide) (?_ : Steps p.tables e below (T32.setTop (mkF m 143 #[.val (.int p0), .val (.int p1), .val (.int z7), .val (.int z9), .val (.int z14), .val (.int z15), .val (.int z28), .val (.int z31), .val (.int z33)] [(.int (1 : Int32))])) t)
              have q_z35 := ((((hz35.trans (if_pos hj120_36)).trans (if_neg hj125_37)).trans (if_neg hj130_38)).trans (if_neg hj135_39))
              subst q_z35
              exact k
      · refine XS.icmpYes X32.here hx rfl (pc0 := 120) (pc' := 142) rfl (hb hby at_120) rfl (feq hj120_36).2 (by decide) (by decide) (?_ : Steps p.tables e below (T32.setTop (mkF m 142 #[.val (.int p0), .val (.int p1), .val (.int z7), .val (.int z9), .val (.int z14), .val (.int z15), .val (.int z28), .val (.int z31), .val (.int z33)] [])) t)
        refine XS.iconst X32.here hx rfl (hb hby at_142) (?_ : Steps p.tables e below (T32.setTop (mkF m 143 #[.val (.int p0), .val (.int p1), .val (.int z7), .val (.int z9), .val (.int z14), .val (.int z15), .val (.int z28), .val (.int z31), .val (.int z33)] [(.int (0 : Int32))])) t)
        have q_z35 := (hz35.trans (if_neg hj120_36))
        subst q_z35
        exact k
    refine own_leave X32 Bd.notSynchronized (v := some (.int (nar .boolean z35))) (fun h => by rw [Bd.returns] at h; cases h) (fun fs hr => retN X32 hx (t := .boolean) Bd.returns (by simp) (hb hby at_143) hr) ?_ (by decide) (by decide)
    refine ⟨?_, N32⟩
    obtain ⟨l1, l2, l3, l4, l5⟩ := own_law p0 z7 (own_01 hz7)
    subst hz9 hz14 hz15 hz25 hz28 hz31 hz33 hz35
    rw [if_pos l1, if_pos l3, if_neg (by decide : ¬ (1 : Int32) = 0), if_neg l4, if_pos l5, if_neg (by decide : ¬ (1 : Int32) = 0)]; rfl
set_option maxRecDepth 65536 in
set_option maxHeartbeats 40000000 in
theorem comes_1 {Post : Tables → Env → Array Value → State → Outcome → State → Prop} (hpost : ∀ tb e args s v u, (limb_1_1.after args s (.returned v) u = true ∧ limb_1_2.after args s (.returned v) u = true ∧ True) → FrameEnd s (.returned v) u (Jvm.fieldLocs frame_1_writes args s ++ Jvm.arrayLocs frame_1_arrays args s ++ Jvm.staticLocs frame_1_statics s) 0 0 → Post tb e args s (.returned v) u) :
    ArmFor flags0 classFile x code maxLocals ret World_1 tables_1 room_1 Calls_1 rest_1 Pre_1 Post := by
  intro l hfl _ _ p e ha hc hk s m args below hf hA hF happ hP
  obtain ⟨hcalls, hrest, hpre⟩ := hP
  obtain ⟨-, -, -, hnamed, -, -, -, hat⟩ := (Spec.applies_iff hf).mp happ
  obtain ⟨hg, hn⟩ := and_e (Cond.before_iff.mp (show (Jvm.Cond.and given_1 narrow_1).before args s = true from hpre))
  obtain ⟨g0, g⟩ := and_e hg
  obtain ⟨ga0, g⟩ := and_e g
  have ga1 := g
  obtain ⟨w0, w1, rfl⟩ : ∃ w0 w1 : Value, args = #[w0, w1] := by
    have hs : args.size = 2 := by simpa [Cond.value, given_1] using g0
    obtain ⟨L⟩ := args
    match L, hs with
    | [w0, w1], _ => exact ⟨w0, w1, rfl⟩
  have hw := fun d (hd : d ∈ tables_1) => atoms_spec (ws := Jvm.Cond.code x code maxLocals ret :: tables_1) hat d (List.mem_cons_of_mem _ hd)
  have hfit : Fit s := fun {y c} hc i hi => by
    obtain ⟨ha, rfl⟩ := Array.getElem?_eq_some_iff.mp hc
    have q := List.all_eq_true.mp ((Array.all_eq_true_iff_forall_mem.mp hF) _ (Array.getElem_mem ha)) i (List.mem_range.mpr hi)
    simpa [Array.getElem?_eq_getElem hi] using q
  obtain ⟨i0, ei0⟩ := is_v ga0
  obtain rfl : w0 = (.int i0) := Option.some.inj ei0
  obtain ⟨i1, ei1⟩ := is_v ga1
  obtain rfl : w1 = (.int i1) := Option.some.inj ei1
  obtain ⟨n, o, h1, h2, h3, _, L, rfl, ⟨rfl, N⟩, hq⟩ := rm0 l s _ hw tables_1 i0 i1 s.heap s.heap.size (Nat.le_refl _)  p e ha hc hk s m _ below hf ((Spec.applies_iff_loose hf).mp happ).1 ⟨rfl, State.Warmed39.refl s, rfl⟩ trivial
  refine ⟨n, _, h1, h2, h3, hpost _ _ _ _ _ _ ⟨Cond.after_iff.mpr rfl, Cond.after_iff.mpr (eq_i res_at (Term.int_eval (1)) rfl), trivial⟩ ⟨hq.1, hq.2.1, (hq.2.2.sift fun y hy => Or.inr (N y hy)).mono (by decide) (by decide)⟩⟩
theorem main_1_1 : Claimed_1_1 := comes_1 fun _ _ _ _ _ _ h hF => ⟨h.1, hF⟩
theorem main_1_2 : Claimed_1_2 := comes_1 fun _ _ _ _ _ _ h hF => ⟨h.2.1, hF⟩
end Jvm.Pilot.@@N@@
namespace Jvm.Pilot.@@N@@
open Jvm Jvm.ClassFile Sem Op Lib Jvm.Free Jvm.Stand Jvm.Pilot.@@N@@.Jvm.D
/-! MADE BY PROGRAM (witnessworld.py) out of the Statement's table words and the real class files: 9 classes; the members and pool entries that the words name. The judged class is class 1, her method 1. -/
namespace start1
open Jvm.ClassFile
def u (s : String) : CpInfo := .utf8 (stringToUtf16 s)
/-- a pool by its gaps: so many unusable entries, then the entry; so many at the end -/
def gap : Nat → List CpInfo → List CpInfo
  | 0, r => r
  | n + 1, r => .unusable :: gap n r
def poolList (es : List (Nat × CpInfo)) (last : Nat) : List CpInfo := es.foldr (fun e r => gap e.1 (e.2 :: r)) (gap last [])
def pool (es : List (Nat × CpInfo)) (last : Nat) : Array CpInfo := ⟨poolList es last⟩
def fileOf (pool : Array CpInfo) (this : Nat) (attrs : Array Attribute := #[]) (ms : Array MethodInfo := #[]) (fl : Nat := 33) (sup : Nat := 0) (ifs : Array Nat := #[]) (fds : Array FieldInfo := #[]) : ClassFile where
  minorVersion := 0
  majorVersion := 65
  constantPool := pool
  accessFlags := fl
  thisClass := this
  superClass := sup
  interfaces := ifs
  fields := fds
  methods := ms
  attributes := attrs
def plain (name : String) (sup : Option ClassId) : Class where
  name := name
  kind := .ordinary
  loader := none
  accessFlags := 33
  super := sup
  interfaces := #[]
  cf := none
  fields := #[]
  methods := #[]
  instanceTypes := #[]
  staticTypes := #[]
  resolved := #[]
  callSites := []
  init := .initialized
  statics := none
  mirror := none

def pool0 : Array CpInfo := pool [(5, u "<init>"), (0, u "()V"), (1, .class_ 10), (1, u "java/lang/Object")] 113

def k0m0 : Method := { name := "<init>", desc := "()V", sig := { parameters := [], returnType := none }, accessFlags := 1, code := none }
/-- java/lang/Object -/
def k0 : Class := { plain "java/lang/Object" none with
  accessFlags := 33
  interfaces := #[]
  cf := some (fileOf pool0 8 #[] #[{ accessFlags := 1, nameIndex := 5, descriptorIndex := 6, attributes := #[] }] 33 0 #[] #[])
  fields := #[]
  methods := #[k0m0]
  instanceTypes := #[]
  staticTypes := #[]
  resolved := Array.replicate 124 none
  statics := none }

def pool1 : Array CpInfo := pool [(2, .class_ 4), (1, u "java/lang/Object"), (0, u "<init>"), (0, u "()V"), (0, .methodref 8 9), (0, .class_ 10), (0, .nameAndType 11 12), (0, u "com/example/unweave/unweave/uw/Expr"), (0, u "canBe"), (0, u "(IZ)Z"), (0, .class_ 14), (0, u "com/example/unweave/unweave/uw/ExprCanBePinLaw"), (2, u "law"), (0, u "(II)Z")] 3

def k1m0 : Method := { name := "<init>", desc := "()V", sig := { parameters := [], returnType := none }, accessFlags := 1, code := none }
def k1c1 : Code := { maxStack := 2, maxLocals := 9, code := code, exceptionTable := #[], attributes := #[] }
def k1m1 : Method := { name := "law", desc := "(II)Z", sig := { parameters := [.int, .int], returnType := some .boolean }, accessFlags := 9, code := some k1c1 }
/-- com/example/unweave/unweave/uw/ExprCanBePinLaw -/
def k1 : Class := { plain "com/example/unweave/unweave/uw/ExprCanBePinLaw" (some 0) with
  accessFlags := 49
  interfaces := #[]
  cf := some (fileOf pool1 13 #[] #[{ accessFlags := 1, nameIndex := 5, descriptorIndex := 6, attributes := #[] }, { accessFlags := 9, nameIndex := 17, descriptorIndex := 18, attributes := #[] }] 49 2 #[] #[])
  fields := #[]
  methods := #[k1m0, k1m1]
  instanceTypes := #[]
  staticTypes := #[]
  resolved := Array.replicate 22 none
  statics := none }

def pool2 : Array CpInfo := pool [(1, .class_ 2), (0, u "com/example/unweave/unweave/uw/Expr"), (1, .class_ 6), (1, u "java/lang/Object"), (0, u "<init>"), (0, u "()V"), (11, .methodref 1 21), (0, .nameAndType 22 23), (0, u "valuesOf"), (0, u "(Z)I"), (0, .class_ 25), (0, u "com/example/unweave/unweave/uw/Expr$Constant"), (3, .class_ 30), (0, u "com/example/unweave/unweave/uw/Expr$Linear"), (9, .class_ 41), (0, u "com/example/unweave/unweave/uw/Expr$Read"), (3, .class_ 46), (0, u "com/example/unweave/unweave/uw/Expr$Not"), (3, .class_ 51), (0, u "com/example/unweave/unweave/uw/Expr$Binary"), (3, .class_ 56), (0, u "com/example/unweave/unweave/uw/Expr$Comparison"), (5, u "BOOLEANS"), (0, u "[Z"), (0, u "MAY_BE_FALSE"), (0, u "I"), (2, u "MAY_BE_TRUE"), (1, u "EITHER"), (16, u "canBe"), (0, u "(IZ)Z"), (23, .class_ 113), (0, u "com/example/unweave/unweave/uw/Expr$EComparison"), (0, .class_ 115), (0, u "com/example/unweave/unweave/uw/Expr$EOperator")] 9

def k2m0 : Method := { name := "<init>", desc := "()V", sig := { parameters := [], returnType := none }, accessFlags := 0, code := none }
def k2c1 : Code := { maxStack := 1, maxLocals := 1, code := prog_82_method_7_code, exceptionTable := #[], attributes := #[] }
def k2m1 : Method := { name := "valuesOf", desc := "(Z)I", sig := { parameters := [.boolean], returnType := some .int }, accessFlags := 8, code := some k2c1 }
def k2c2 : Code := { maxStack := 2, maxLocals := 2, code := prog_82_method_8_code, exceptionTable := #[], attributes := #[] }
def k2m2 : Method := { name := "canBe", desc := "(IZ)Z", sig := { parameters := [.int, .boolean], returnType := some .boolean }, accessFlags := 8, code := some k2c2 }
/-- com/example/unweave/unweave/uw/Expr -/
def k2 : Class := { plain "com/example/unweave/unweave/uw/Expr" (some 0) with
  accessFlags := 1056
  interfaces := #[]
  cf := some (fileOf pool2 1 #[.nestMembers #[29, 55, 50, 45, 40, 24, 112, 114]] #[{ accessFlags := 0, nameIndex := 7, descriptorIndex := 8, attributes := #[] }, { accessFlags := 8, nameIndex := 22, descriptorIndex := 23, attributes := #[] }, { accessFlags := 8, nameIndex := 87, descriptorIndex := 88, attributes := #[] }] 1056 4 #[] #[{ accessFlags := 24, nameIndex := 64, descriptorIndex := 65, attributes := #[] }, { accessFlags := 24, nameIndex := 68, descriptorIndex := 65, attributes := #[] }, { accessFlags := 24, nameIndex := 70, descriptorIndex := 65, attributes := #[] }, { accessFlags := 24, nameIndex := 62, descriptorIndex := 63, attributes := #[] }])
  fields := #[{ name := "MAY_BE_FALSE", type := .int, accessFlags := 24, slot := 0, constantValue := 0 }, { name := "MAY_BE_TRUE", type := .int, accessFlags := 24, slot := 1, constantValue := 0 }, { name := "EITHER", type := .int, accessFlags := 24, slot := 2, constantValue := 0 }, { name := "BOOLEANS", type := (.array .boolean), accessFlags := 24, slot := 3, constantValue := 0 }]
  methods := #[k2m0, k2m1, k2m2]
  instanceTypes := #[]
  staticTypes := #[.int, .int, .int, (.array .boolean)]
  resolved := Array.replicate 125 none
  statics := none }

def pool3 : Array CpInfo := pool [(1, u "java/lang/Cloneable"), (0, .class_ 1), (0, u "java/lang/Object"), (0, .class_ 3)] 3

/-- java/lang/Cloneable -/
def k3 : Class := { plain "java/lang/Cloneable" (some 0) with
  accessFlags := 1537
  interfaces := #[]
  cf := some (fileOf pool3 2 #[] #[] 1537 4 #[] #[])
  fields := #[]
  methods := #[]
  instanceTypes := #[]
  staticTypes := #[]
  resolved := Array.replicate 8 none
  statics := none }

def pool4 : Array CpInfo := pool [(1, u "java/io/Serializable"), (0, .class_ 1), (0, u "java/lang/Object"), (0, .class_ 3)] 3

/-- java/io/Serializable -/
def k4 : Class := { plain "java/io/Serializable" (some 0) with
  accessFlags := 1537
  interfaces := #[]
  cf := some (fileOf pool4 2 #[] #[] 1537 4 #[] #[])
  fields := #[]
  methods := #[]
  instanceTypes := #[]
  staticTypes := #[]
  resolved := Array.replicate 8 none
  statics := none }

/-- the primitive byte -/
def k5 : Class := { plain "byte" none with kind := .primitive 'B', accessFlags := 0x411 }
/-- [B -/
def k6 : Class := { plain "[B" (some 0) with kind := .array 5 .byte, interfaces := #[3, 4], accessFlags := 1041 }

/-- the primitive int -/
def k7 : Class := { plain "int" none with kind := .primitive 'I', accessFlags := 0x411 }
/-- [I -/
def k8 : Class := { plain "[I" (some 0) with kind := .array 7 .int, interfaces := #[3, 4], accessFlags := 1041 }

def heap : Heap := #[]
def classes : Array Class := #[k0, k1, k2, k3, k4, k5, k6, k7, k8]
def interned : List (Array UInt16 × Addr) := []
def slotsUsed : Nat := 0
def theMethod : MethodId := ⟨1, 1⟩
def args0 : Array Value := #[.int 5, .int 7]
def aboutOver (below : List Frame) : State where
  vm := { classes := classes, interned := interned.toArray }
  heap := heap
  slotsUsed := slotsUsed
  threads := #[{ frames := .invoking theMethod args0 :: below }]
def below0 : List Frame := [.native { method := ⟨0, 0⟩, args := #[] }]
def about1 : State := aboutOver below0
def p0 : Program := .bare "" "" ""
def e0 : Env := launch0.env 0 0 0
theorem w_frames : about1.frames = Frame.invoking theMethod args0 :: below0 := rfl
set_option maxRecDepth 65536 in
theorem w_args : argsFit about1.vm theMethod args0 = true := by decide +kernel
set_option maxRecDepth 65536 in
theorem w_heap : heapFits about1 = true := by decide +kernel
set_option maxRecDepth 65536 in
theorem w_runnable : about1.curStatus? = some .runnable := by decide +kernel
set_option maxRecDepth 65536 in
theorem w_alone : about1.alone = true := by decide +kernel
set_option maxRecDepth 65536 in
theorem w_named : about1.methodNamed? x = some theMethod := by decide +kernel
set_option maxRecDepth 65536 in
theorem w_hears : about1.hears theMethod below0 = true := by decide +kernel
set_option maxRecDepth 65536 in
theorem w_ripe : about1.ripe theMethod args0 below0 = true := by decide +kernel
theorem w_running : about1.status = .running := rfl
set_option maxRecDepth 65536 in
theorem w_room : about1.hasRoom e0.platform room_1 = true :=
  launch0.hasRoom_least _ room_1 (by decide +kernel) (by decide +kernel) (by decide +kernel) (by decide +kernel) (by decide +kernel) (by decide +kernel)
theorem allAtoms_all (ts : List Jvm.Cond) (a : Array Jvm.Value) (st : Jvm.State) : (allAtoms ts).before a st = ts.all (fun c => c.before a st) := by
  induction ts with
  | nil => rfl
  | cons c t ih =>
    show (Jvm.Cond.and c (allAtoms t)).before a st = _
    rw [Jvm.Cond.before_and, ih, List.all_cons]
def words1 : List Jvm.Cond := Jvm.Cond.code x code maxLocals ret :: tables_1
/-- a 'code' word, met by the world's own term for the bytes: nothing is compared byte by byte -/
theorem code_word {y : MethodName} {bytes : ByteArray} {mx : Nat} {rt : Option FieldType} {a : Array Value} {s : State} {m : MethodId} {meth : Method} {c : Code} (h1 : s.methodNamed? y = some m) (h2 : s.vm.method? m = some meth) (h3 : meth.code = some c) (h4 : c.code = bytes)
    (h5 : (c.maxLocals == mx && c.exceptionTable.isEmpty && decide (c.maxStack ≤ mostOperands) && decide (meth.sig.returnType = rt) && !meth.locks && decide (parseMethodDescriptor y.desc = some meth.sig)) = true) : (Jvm.Cond.code y bytes mx rt).before a s = true := by
  simp only [Bool.and_eq_true, beq_iff_eq, Bool.not_eq_true', decide_eq_true_eq] at h5
  obtain ⟨⟨⟨⟨⟨g1, g2⟩, g3⟩, g4⟩, g5⟩, g6⟩ := h5
  simp [Cond.before, Cond.holds, Cond.value, h1, h2, h3, h4, g1, g2, g3, g4, g5, g6]
def isCode : Jvm.Cond → Bool
  | .code _ _ _ _ => true
  | _ => false
theorem all_split {L : List Jvm.Cond} {P : Jvm.Cond → Bool} (h1 : L.all (fun c => isCode c || P c) = true) (h2 : ∀ c ∈ L.filter isCode, P c = true) : L.all P = true := by
  refine List.all_eq_true.mpr fun c hc => ?_
  have h := List.all_eq_true.mp h1 c hc
  rcases Bool.eq_false_or_eq_true (isCode c) with hi | hi
  · exact h2 c (List.mem_filter.mpr ⟨hc, hi⟩)
  · simpa [hi] using h
set_option maxRecDepth 65536 in
theorem w_c0 : (Jvm.Cond.code x code maxLocals ret).before args0 about1 = true := code_word (m := ⟨1, 1⟩) (meth := k1m1) (c := k1c1) (by decide +kernel) rfl rfl rfl (by decide +kernel)
set_option maxRecDepth 65536 in
theorem w_c1 : (Jvm.Cond.code ({ cls := "com/example/unweave/unweave/uw/Expr", name := "canBe", desc := "(IZ)Z" } : Jvm.MethodName) prog_82_method_8_code (2 : Nat) (Option.some Jvm.ClassFile.FieldType.boolean)).before args0 about1 = true := code_word (m := ⟨2, 2⟩) (meth := k2m2) (c := k2c2) (by decide +kernel) rfl rfl rfl (by decide +kernel)
set_option maxRecDepth 65536 in
theorem w_c2 : (Jvm.Cond.code ({ cls := "com/example/unweave/unweave/uw/Expr", name := "valuesOf", desc := "(Z)I" } : Jvm.MethodName) prog_82_method_7_code (1 : Nat) (Option.some Jvm.ClassFile.FieldType.int)).before args0 about1 = true := code_word (m := ⟨2, 1⟩) (meth := k2m1) (c := k2c1) (by decide +kernel) rfl rfl rfl (by decide +kernel)
def codes1 : List Jvm.Cond := [Jvm.Cond.code x code maxLocals ret, Jvm.Cond.code ({ cls := "com/example/unweave/unweave/uw/Expr", name := "canBe", desc := "(IZ)Z" } : Jvm.MethodName) prog_82_method_8_code (2 : Nat) (Option.some Jvm.ClassFile.FieldType.boolean), Jvm.Cond.code ({ cls := "com/example/unweave/unweave/uw/Expr", name := "valuesOf", desc := "(Z)I" } : Jvm.MethodName) prog_82_method_7_code (1 : Nat) (Option.some Jvm.ClassFile.FieldType.int)]
set_option maxRecDepth 65536 in
theorem codes_eq : words1.filter isCode = codes1 := rfl
theorem w_codes : ∀ c ∈ words1.filter isCode, c.before args0 about1 = true := by
  rw [codes_eq]
  intro c hc
  simp only [codes1, List.mem_cons, List.not_mem_nil, or_false] at hc
  rcases hc with rfl | rfl | rfl
  · exact w_c0
  · exact w_c1
  · exact w_c2
set_option maxRecDepth 65536 in
theorem w_t1 : words1.all (fun c => isCode c || c.before args0 about1) = true := by decide +kernel
theorem w_tables : (allAtoms (Jvm.Cond.code x code maxLocals ret :: tables_1)).before args0 about1 = true := by
  rw [allAtoms_all]
  show words1.all (fun c => c.before args0 about1) = true
  refine all_split ?_ w_codes
  rw [w_t1]
set_option maxRecDepth 65536 in
theorem w_case : (Jvm.Cond.and given_1 narrow_1).before args0 about1 = true := by decide +kernel
theorem w_applies : (headSpec (Jvm.Cond.code x code maxLocals ret :: tables_1) room_1).applies x e0.platform about1 = true :=
  (Spec.applies_iff w_frames).mpr ⟨w_running, w_runnable, w_alone, w_named, w_hears, w_ripe, w_room, w_tables⟩
theorem atStart : AtStart classFile x code maxLocals ret World_1 tables_1 room_1 Calls_1 rest_1 Pre_1 launch0 p0 e0 about1 theMethod args0 below0 :=
  ⟨lists_1, trivial, launch0.admits_env _ _ _, launch0.least_env, fairChoices_fair.cas, fairChoices_fair.clock, w_frames, w_args, w_heap, w_applies, trivial, trivial, w_case⟩
end start1
theorem witness_1 : WitnessClaimed_1 := ⟨start1.p0, start1.e0, start1.about1, start1.theMethod, start1.args0, start1.below0, start1.atStart⟩
end Jvm.Pilot.@@N@@
