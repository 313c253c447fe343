import JvmDerived
import JvmDerived.Pilot.@@N@@Statement
import JvmDerived.Pilot.@@N@@Code
set_option linter.unusedVariables false
set_option linter.unusedSimpArgs false
namespace Jvm.RoadKit
open Sem ClassFile Op Lib Jvm.Stand Jvm.Free Jvm.LawKit
section New
variable {p : Program} {l : Launch} {e : Env} {R : Room} {s : State} {m : MethodId} {args : Array Value} {below : List Frame} {meth : Method} {c : Code} {T : State} {locs : List Loc} {cells slots : Nat}
theorem retI (X : Stand p l e R s m args below meth c T locs cells slots) (hx : p.tables.exec = Jvm.exec) {pc : Nat} {Ls : Array Slot} {z : Int32} {rest : List Value} (hret : meth.sig.returnType = some .int) (hd : decode c.code pc = .ok (.ireturn, 1)) {fs : List Frame}
    (hl : ∀ (f : JFrame) (acts : List Action), f.method = m → f.locked = none → f.entered = [] → (doReturn e (T.setTop f) acts (some (.int z))).1 = T.setFrames fs) : Steps p.tables e below (T.setTop (mkF m pc Ls (.int z :: rest))) (T.setFrames fs) :=
  retOut X hx hret rfl (Or.inl ⟨rfl, Or.inl rfl, _, rfl⟩) hd hl
end New
end Jvm.RoadKit
namespace Jvm.Pilot.@@N@@
open Jvm Jvm.ClassFile Sem Op Lib Jvm.Free Jvm.Stand Jvm.LawKit Jvm.RoadKit Bundle Jvm.Pilot.@@N@@.Jvm.D
/-! own_Goes: from A the run comes to a state of which P holds -/
def own_Goes (p : Program) (e : Env) (below : List Frame) (P : State → Prop) (A : State) : Prop := ∃ B, Steps p.tables e below A B ∧ P B
def own_Fin (s : State) (below : List Frame) (QQ : Option Value → Heap → List Loc → Prop) (C N : Nat) (B : State) : Prop := ∃ v L, B.status = .running ∧ Ended B below (.returned v) ∧ QQ v B.heap L ∧ FrameEnd s (.returned v) B L C N
theorem own_via {p : Program} {e : Env} {below : List Frame} {P : State → Prop} {A : State} (B : State) (h : ∀ t, Steps p.tables e below B t → Steps p.tables e below A t) (k : own_Goes p e below P B) : own_Goes p e below P A := by
  obtain ⟨t, h1, h2⟩ := k
  exact ⟨t, h t h1, h2⟩
theorem own_body {p : Program} {e : Env} {below : List Frame} {s s₁ : State} {QQ : Option Value → Heap → List Loc → Prop} {C N ml : Nat} {m : MethodId} {args : Array Value} {F : JFrame} (hF : entryFrame m args ml = F) (k : own_Goes p e below (own_Fin s below QQ C N) (s₁.setTop F)) :
    ∃ s₂ o, Steps p.tables e below (s₁.setTop (entryFrame m args ml)) s₂ ∧ s₂.status = .running ∧ Ended s₂ below o ∧ (∃ v L, o = .returned v ∧ QQ v s₂.heap L ∧ FrameEnd s o s₂ L C N) := by
  obtain ⟨B, h1, v, L, h2, h3, h4, h5⟩ := k
  exact ⟨B, .returned v, hF ▸ h1, h2, h3, v, L, rfl, h4, h5⟩
theorem own_leave {p : Program} {l : Launch} {e : Env} {R : Room} {s : State} {m : MethodId} {args : Array Value} {below : List Frame} {meth : Method} {c : Code} {T : State} {locs : List Loc} {cells slots : Nat} {QQ : Option Value → Heap → List Loc → Prop} {C N : Nat}
    (X : Stand p l e R s m args below meth c T locs cells slots) (hlocks : meth.locks = false) {v : Option Value} (hv : meth.sig.returnType = none → v = none) {F : JFrame}
    (hstep : ∀ fs, (∀ (f : JFrame) (acts : List Action), f.method = m → f.locked = none → f.entered = [] → (doReturn e (T.setTop f) acts v).1 = T.setFrames fs) → Steps p.tables e below (T.setTop F) (T.setFrames fs))
    (hq : QQ v T.heap locs) (hc : cells ≤ C) (hn : slots ≤ N) : own_Goes p e below (own_Fin s below QQ C N) (T.setTop F) := by
  obtain ⟨fs, hr, hrun, hended, hW, hsame⟩ := X.leave hv hlocks
  exact ⟨_, hstep fs hr, v, locs, hrun, hended, hq, ⟨_, rfl⟩, hW, hsame.mono hc hn⟩
/-- what a body that writes nothing leaves -/
def own_Q (r : Option Value) (h0 : Heap) (n0 : Nat) (v : Option Value) (h : Heap) (L : List Loc) : Prop := v = r ∧ Fr n0 L ∧ h = h0
def own_f1 (p0 : Int64) (p1 : Int64) : Int64 := (if p0 < p1 then p1 else p0)
theorem d1_0 : decode jdk_29_method_66_code 0 = .ok (.lload_n 0, 1) := by decide +kernel
theorem d1_1 : decode jdk_29_method_66_code 1 = .ok (.lload_n 2, 1) := by decide +kernel
theorem d1_2 : decode jdk_29_method_66_code 2 = .ok (.lcmp, 1) := by decide +kernel
theorem d1_3 : decode jdk_29_method_66_code 3 = .ok (.ifCond .lt 7, 3) := by decide +kernel
theorem d1_6 : decode jdk_29_method_66_code 6 = .ok (.lload_n 0, 1) := by decide +kernel
theorem d1_7 : decode jdk_29_method_66_code 7 = .ok (.goto 4, 3) := by decide +kernel
theorem d1_10 : decode jdk_29_method_66_code 10 = .ok (.lload_n 2, 1) := by decide +kernel
theorem d1_11 : decode jdk_29_method_66_code 11 = .ok (.lreturn, 1) := by decide +kernel
theorem ef_1 (m : MethodId) (p0 : Int64) (p1 : Int64) : entryFrame m #[(.long p0), (.long p1)] 4 = mkF m 0 #[.val (.long p0), .second, .val (.long p1), .second] [] := by first | (simp [entryFrame, mkF, argsToLocals, Value.category]; done) | rfl
set_option maxRecDepth 65536 in
set_option maxHeartbeats 40000000 in
theorem rm1 (l : Launch) (Z : State) (a0 : Array Value) (hw : ∀ d ∈ tables_1, d.before a0 Z = true) (ws : List Jvm.Cond) (p0 : Int64) (p1 : Int64) (h0 : Heap) (n0 : Nat) (Z0 : n0 ≤ h0.size)  :
    MetFree l (⟨"java/lang/Math", "max", "(JJ)J"⟩ : MethodName) (head1 (Jvm.Cond.code (⟨"java/lang/Math", "max", "(JJ)J"⟩ : MethodName) jdk_29_method_66_code 4 (some .long) :: ws) ({ frames := 0, cells := 0, slots := 0, locals := 0 } : Room)) (fun a U => a = #[(.long p0), (.long p1)] ∧ Z.Warmed39 U.vm ∧ U.heap = h0) (fun _ _ _ _ _ => True) (fun _ U o U' => ∃ v L, o = .returned v ∧ (own_Q (some (.long (own_f1 p0 p1))) h0 n0) v U'.heap L ∧ FrameEnd U o U' L ({ frames := 0, cells := 0, slots := 0, locals := 0 } : Room).cells ({ frames := 0, cells := 0, slots := 0, locals := 0 } : Room).slots) := by
  refine MetFree.of_bodySF (Jvm.Free.JP.mathPlain rfl (by decide +kernel)) hisR ?_
  intro p e s m args below meth c s₁ Bd hml0 hP hK
  obtain ⟨rfl, hZ, hh⟩ := hP
  have hx := Bd.exec
  have hby := Bd.bytes
  have hml : c.maxLocals = 4 := hml0
  have hown : s.vm.findClass "java/lang/Math" = some m.cls := findClass_of_methodNamed Bd.named
  have hnm := (name_of_methodNamed Bd.named Bd.method).1
  have X0 : Stand p l e ({ frames := 0, cells := 0, slots := 0, locals := 0 } : Room) s m #[(.long p0), (.long p1)] below meth c s₁ [] 0 0 := Stand.of_body Bd
  have e0 : s₁.heap = h0 := by rw [← hh, Bd.state]; rfl
  have N0 := Fr.nil n0
  refine own_body (QQ := (own_Q (some (.long (own_f1 p0 p1))) h0 n0)) (ef_1 m p0 p1) ?_
  refine own_via (s₁.setTop (mkF m 1 #[.val (.long p0), .second, .val (.long p1), .second] [(.long p0)])) (fun t k => XS.lloadN X0.here hx rfl (hb hby d1_0) rfl  k) ?_
  refine own_via (s₁.setTop (mkF m 2 #[.val (.long p0), .second, .val (.long p1), .second] [(.long p1), (.long p0)])) (fun t k => XS.lloadN X0.here hx rfl (hb hby d1_1) rfl  k) ?_
  refine own_via (s₁.setTop (mkF m 3 #[.val (.long p0), .second, .val (.long p1), .second] [(.int (lcmpW p0 p1))])) (fun t k => XS.lcmp X0.here hx rfl (hb hby d1_2) rfl k) ?_
  by_cases hc3_2 : p0 < p1
  · refine own_via (s₁.setTop (mkF m 10 #[.val (.long p0), .second, .val (.long p1), .second] [])) (fun t k => XS.ifYes X0.here hx rfl (pc0 := 3) (pc' := 10) rfl (hb hby d1_3) rfl ((if0 _ _).trans (tlt ((lw_lt p0 p1).mpr hc3_2)).1) (by decide) (by decide) k) ?_
    refine own_via (s₁.setTop (mkF m 11 #[.val (.long p0), .second, .val (.long p1), .second] [(.long p1)])) (fun t k => XS.lloadN X0.here hx rfl (hb hby d1_10) rfl  k) ?_
    refine own_leave X0 Bd.notSynchronized (v := some (.long p1)) (fun h => by rw [Bd.returns] at h; cases h) (fun fs hr => retOut X0 hx Bd.returns rfl (Or.inr (Or.inl ⟨rfl, rfl, _, rfl⟩)) (hb hby d1_11) hr) ?_ (by decide) (by decide)
    refine ⟨?_, N0, e0⟩
    show some (Value.long _) = some (Value.long _); unfold own_f1; rw [if_pos hc3_2]
  · refine own_via (s₁.setTop (mkF m 6 #[.val (.long p0), .second, .val (.long p1), .second] [])) (fun t k => XS.ifNo X0.here hx rfl (hb hby d1_3) rfl ((if0 _ _).trans (flt (fun q => hc3_2 ((lw_lt p0 p1).mp q))).1) k) ?_
    refine own_via (s₁.setTop (mkF m 7 #[.val (.long p0), .second, .val (.long p1), .second] [(.long p0)])) (fun t k => XS.lloadN X0.here hx rfl (hb hby d1_6) rfl  k) ?_
    refine own_via (s₁.setTop (mkF m 11 #[.val (.long p0), .second, .val (.long p1), .second] [(.long p0)])) (fun t k => XS.goto X0.here hx rfl (pc0 := 7) (pc' := 11) rfl (hb hby d1_7) (by decide) (by decide) k) ?_
    refine own_leave X0 Bd.notSynchronized (v := some (.long p0)) (fun h => by rw [Bd.returns] at h; cases h) (fun fs hr => retOut X0 hx Bd.returns rfl (Or.inr (Or.inl ⟨rfl, rfl, _, rfl⟩)) (hb hby d1_11) hr) ?_ (by decide) (by decide)
    refine ⟨?_, N0, e0⟩
    show some (Value.long _) = some (Value.long _); unfold own_f1; rw [if_neg hc3_2]
theorem d3_0 : decode jdk_30_method_1_code 0 = .ok (.aload_n 0, 1) := by decide +kernel
theorem d3_1 : decode jdk_30_method_1_code 1 = .ok (.invokespecial 1, 3) := by decide +kernel
theorem d3_4 : decode jdk_30_method_1_code 4 = .ok (.return_, 1) := by decide +kernel
theorem pn_java_lang_Record : plainName "java/lang/Record" = true := by first | (simp [plainName, overriddenIn]; done) | decide +kernel
theorem ef_3 (m : MethodId) (p0 : Addr) : entryFrame m #[(.ref p0)] 1 = mkF m 0 #[.val (.ref p0)] [] := by first | (simp [entryFrame, mkF, argsToLocals, Value.category]; done) | rfl
set_option maxRecDepth 65536 in
set_option maxHeartbeats 40000000 in
theorem rm3 (l : Launch) (Z : State) (a0 : Array Value) (hw : ∀ d ∈ tables_1, d.before a0 Z = true) (ws : List Jvm.Cond) (p0 : Addr) (h0 : Heap) (n0 : Nat) (Z0 : n0 ≤ h0.size)  :
    MetFree l (⟨"java/lang/Record", "<init>", "()V"⟩ : MethodName) (head1 (Jvm.Cond.code (⟨"java/lang/Record", "<init>", "()V"⟩ : MethodName) jdk_30_method_1_code 1 none :: ws) ({ frames := 1, cells := 0, slots := 0, locals := 12 } : Room)) (fun a U => a = #[(.ref p0)] ∧ Z.Warmed39 U.vm ∧ U.heap = h0) (fun _ _ _ _ _ => True) (fun _ U o U' => ∃ v L, o = .returned v ∧ (own_Q none h0 n0) v U'.heap L ∧ FrameEnd U o U' L ({ frames := 1, cells := 0, slots := 0, locals := 12 } : Room).cells ({ frames := 1, cells := 0, slots := 0, locals := 12 } : Room).slots) := by
  refine MetFree.of_bodySF (plainFor_of_name pn_java_lang_Record) hisR ?_
  intro p e s m args below meth c s₁ Bd hml0 hP hK
  obtain ⟨rfl, hZ, hh⟩ := hP
  have hx := Bd.exec
  have hby := Bd.bytes
  have hml : c.maxLocals = 1 := hml0
  have hown : s.vm.findClass "java/lang/Record" = some m.cls := findClass_of_methodNamed Bd.named
  have hnm := (name_of_methodNamed Bd.named Bd.method).1
  have X0 : Stand p l e ({ frames := 1, cells := 0, slots := 0, locals := 12 } : Room) s m #[(.ref p0)] below meth c s₁ [] 0 0 := Stand.of_body Bd
  have e0 : s₁.heap = h0 := by rw [← hh, Bd.state]; rfl
  have N0 := Fr.nil n0
  refine own_body (QQ := (own_Q none h0 n0)) (ef_3 m p0) ?_
  refine own_via (s₁.setTop (mkF m 1 #[.val (.ref p0)] [(.ref p0)])) (fun t k => XS.aloadN X0.here hx rfl (hb hby d3_0) rfl rfl k) ?_
  obtain ⟨T3, X3, e3, st3⟩ := initO X0 hx hZ hown (hw _ (List.mem_of_getElem? (i := 20) rfl)) (hw _ (List.mem_of_getElem? (i := 21) rfl)) (hw _ (List.mem_of_getElem? (i := 22) rfl)) e0 (g := (mkF m 1 #[.val (.ref p0)] [(.ref p0)])) rfl (by rw [hml]; rfl) rfl (hb hby d3_1) (by decide) (W := 0) (by show 2 * 0 + _ ≤ _; exact Nat.le_of_eq rfl) (by decide)
  refine own_via (T3.setTop (mkF m 4 #[.val (.ref p0)] [])) (fun t k => st3 t k) ?_
  refine own_leave X3 Bd.notSynchronized (v := none) (fun _ => rfl) (fun fs hr => X3.returnOut hx Bd.returns (hb hby d3_4) hr) ?_ (by decide) (by decide)
  refine ⟨?_, N0, e3⟩
  rfl
def own_Q2 (Z : State) (p0 : Addr) (p1 : Int32) (p2 : Int32) (p3 : Int32)  (h0 : Heap) (n0 : Nat) (v : Option Value) (h : Heap) (L : List Loc) : Prop := v = none ∧ Fr n0 L ∧ Keep h0 h [p0] ∧ Exa Z h p0 "com/example/grantbook/grantbook/CommandEntry$Positions" ∧ Fld Z h p0 "com/example/grantbook/grantbook/CommandEntry$Positions" "first" "I" (.int p1) ∧ Fld Z h p0 "com/example/grantbook/grantbook/CommandEntry$Positions" "last" "I" (.int p2) ∧ Fld Z h p0 "com/example/grantbook/grantbook/CommandEntry$Positions" "step" "I" (.int p3)
theorem d2_0 : decode prog_15_method_1_code 0 = .ok (.aload_n 0, 1) := by decide +kernel
theorem d2_1 : decode prog_15_method_1_code 1 = .ok (.invokespecial 1, 3) := by decide +kernel
theorem d2_4 : decode prog_15_method_1_code 4 = .ok (.aload_n 0, 1) := by decide +kernel
theorem d2_5 : decode prog_15_method_1_code 5 = .ok (.iload_n 1, 1) := by decide +kernel
theorem d2_6 : decode prog_15_method_1_code 6 = .ok (.putfield 7, 3) := by decide +kernel
theorem d2_9 : decode prog_15_method_1_code 9 = .ok (.aload_n 0, 1) := by decide +kernel
theorem d2_10 : decode prog_15_method_1_code 10 = .ok (.iload_n 2, 1) := by decide +kernel
theorem d2_11 : decode prog_15_method_1_code 11 = .ok (.putfield 13, 3) := by decide +kernel
theorem d2_14 : decode prog_15_method_1_code 14 = .ok (.aload_n 0, 1) := by decide +kernel
theorem d2_15 : decode prog_15_method_1_code 15 = .ok (.iload_n 3, 1) := by decide +kernel
theorem d2_16 : decode prog_15_method_1_code 16 = .ok (.putfield 16, 3) := by decide +kernel
theorem d2_19 : decode prog_15_method_1_code 19 = .ok (.return_, 1) := by decide +kernel
theorem pd_0 : parseMethodDescriptor "()V" = some ⟨[], none⟩ := by decide +kernel
theorem pn_com_example_grantbook_grantbook_CommandEntry_Positions : plainName "com/example/grantbook/grantbook/CommandEntry$Positions" = true := by first | (simp [plainName, overriddenIn]; done) | decide +kernel
theorem ef_2 (m : MethodId) (p0 : Addr) (p1 : Int32) (p2 : Int32) (p3 : Int32) : entryFrame m #[(.ref p0), (.int p1), (.int p2), (.int p3)] 4 = mkF m 0 #[.val (.ref p0), .val (.int p1), .val (.int p2), .val (.int p3)] [] := by first | (simp [entryFrame, mkF, argsToLocals, Value.category]; done) | rfl
set_option maxRecDepth 65536 in
set_option maxHeartbeats 40000000 in
theorem rm2 (l : Launch) (Z : State) (a0 : Array Value) (hw : ∀ d ∈ tables_1, d.before a0 Z = true) (ws : List Jvm.Cond) (p0 : Addr) (p1 : Int32) (p2 : Int32) (p3 : Int32) (h0 : Heap) (n0 : Nat) (Z0 : n0 ≤ h0.size) (P0 : Fld Z h0 p0 "com/example/grantbook/grantbook/CommandEntry$Positions" "first" "I" (.int (0 : Int32))) (P1 : Fld Z h0 p0 "com/example/grantbook/grantbook/CommandEntry$Positions" "last" "I" (.int (0 : Int32))) (P2 : Fld Z h0 p0 "com/example/grantbook/grantbook/CommandEntry$Positions" "step" "I" (.int (0 : Int32))) (P3 : Exa Z h0 p0 "com/example/grantbook/grantbook/CommandEntry$Positions") (gg_p0 : n0 ≤ p0) :
    MetFree l (⟨"com/example/grantbook/grantbook/CommandEntry$Positions", "<init>", "(III)V"⟩ : MethodName) (head1 (Jvm.Cond.code (⟨"com/example/grantbook/grantbook/CommandEntry$Positions", "<init>", "(III)V"⟩ : MethodName) prog_15_method_1_code 4 none :: ws) ({ frames := 2, cells := 0, slots := 0, locals := 24 } : Room)) (fun a U => a = #[(.ref p0), (.int p1), (.int p2), (.int p3)] ∧ Z.Warmed39 U.vm ∧ U.heap = h0) (fun _ _ _ _ _ => True) (fun _ U o U' => ∃ v L, o = .returned v ∧ (own_Q2 Z p0 p1 p2 p3  h0 n0) v U'.heap L ∧ FrameEnd U o U' L ({ frames := 2, cells := 0, slots := 0, locals := 24 } : Room).cells ({ frames := 2, cells := 0, slots := 0, locals := 24 } : Room).slots) := by
  refine MetFree.of_bodySF (plainFor_of_name pn_com_example_grantbook_grantbook_CommandEntry_Positions) hisR ?_
  intro p e s m args below meth c s₁ Bd hml0 hP hK
  obtain ⟨rfl, hZ, hh⟩ := hP
  have hx := Bd.exec
  have hby := Bd.bytes
  have hml : c.maxLocals = 4 := hml0
  have hown : s.vm.findClass "com/example/grantbook/grantbook/CommandEntry$Positions" = some m.cls := findClass_of_methodNamed Bd.named
  have hnm := (name_of_methodNamed Bd.named Bd.method).1
  have X0 : Stand p l e ({ frames := 2, cells := 0, slots := 0, locals := 24 } : Room) s m #[(.ref p0), (.int p1), (.int p2), (.int p3)] below meth c s₁ [] 0 0 := Stand.of_body Bd
  have e0 : s₁.heap = h0 := by rw [← hh, Bd.state]; rfl
  have N0 := Fr.nil n0
  refine own_body (QQ := (own_Q2 Z p0 p1 p2 p3  h0 n0)) (ef_2 m p0 p1 p2 p3) ?_
  refine own_via (s₁.setTop (mkF m 1 #[.val (.ref p0), .val (.int p1), .val (.int p2), .val (.int p3)] [(.ref p0)])) (fun t k => XS.aloadN X0.here hx rfl (hb hby d2_0) rfl rfl k) ?_
  obtain ⟨_, _, ⟨T4, L4, k4, n4⟩, -, X4, ⟨Lc4, hQ4, l4, y4, z4⟩, st4⟩ := X0.specialBack hx (y := (⟨"java/lang/Record", "<init>", "()V"⟩ : MethodName)) rfl hown (mvT hZ (hw _ (List.mem_of_getElem? (i := 15) rfl))) (mvT hZ (hw _ (List.mem_of_getElem? (i := 16) rfl))) (mvT hZ (hw _ (List.mem_of_getElem? (i := 19) rfl))) (by decide) (backOf (W := 0) (rm3 l Z a0 hw [] p0 h0 n0 (Nat.le_trans Z0 (Keep.refl h0 [p0]).1)) hZ (hw _ (List.mem_of_getElem? (i := 19) rfl)) (hw _ (List.mem_of_getElem? (i := 18) rfl)) (by decide) (by decide)) (g := (mkF m 1 #[.val (.ref p0), .val (.int p1), .val (.int p2), .val (.int p3)] [(.ref p0)])) rfl (by rw [hml]; rfl) (Steps.refl _) (a := p0) (argsL := []) (rest := []) (lenOf pd_0 rfl) rfl (by show 2 * 0 + _ ≤ _; exact Nat.le_of_eq rfl) (hb hby d2_1) (fun _ _ => ⟨rfl, e0, (by decide : 0 + 0 ≤ _), (by decide : 0 + 0 ≤ _)⟩)
  dsimp only [Pt.U, Pt.locs, Pt.cells, Pt.slots] at X4 l4 y4 z4 st4 hQ4
  subst l4 y4 z4
  obtain ⟨rfl, N4q, e4⟩ := hQ4
  have N4 := Fr.app N0 N4q
  refine own_via (T4.setTop (mkF m 4 #[.val (.ref p0), .val (.int p1), .val (.int p2), .val (.int p3)] [])) (fun t k => st4.trans k) ?_
  refine own_via (T4.setTop (mkF m 5 #[.val (.ref p0), .val (.int p1), .val (.int p2), .val (.int p3)] [(.ref p0)])) (fun t k => XS.aloadN X4.here hx rfl (hb hby d2_4) rfl rfl k) ?_
  refine own_via (T4.setTop (mkF m 6 #[.val (.ref p0), .val (.int p1), .val (.int p2), .val (.int p3)] [(.int p1), (.ref p0)])) (fun t k => XS.iloadN X4.here hx rfl (hb hby d2_5) rfl  k) ?_
  obtain ⟨T5, h5, X5, e5, W5, st5⟩ := putF X4 hx hZ hown (host := "") (Or.inl (hw _ (List.mem_of_getElem? (i := 23) rfl))) Via.refl e4 P0 P3 (Or.inr ⟨(hw _ (List.mem_of_getElem? (i := 24) rfl)), rfl, hnm⟩) (hw _ (List.mem_of_getElem? (i := 10) rfl)) (ty := .int) (by decide) rfl rfl (g := (mkF m 6 #[.val (.ref p0), .val (.int p1), .val (.int p2), .val (.int p3)] [(.int p1), (.ref p0)])) rfl rfl (hb hby d2_6)
  have Fw5 := P0.same W5
  have N5 := Fr.snoc X5 N4 gg_p0
  have K6 : Keep h0 h5 [p0] := (Keep.refl h0 [p0]).wr W5 (Or.inl (List.mem_of_getElem? (i := 0) rfl))
  refine own_via (T5.setTop (mkF m 9 #[.val (.ref p0), .val (.int p1), .val (.int p2), .val (.int p3)] [])) (fun t k => st5 t k) ?_
  refine own_via (T5.setTop (mkF m 10 #[.val (.ref p0), .val (.int p1), .val (.int p2), .val (.int p3)] [(.ref p0)])) (fun t k => XS.aloadN X5.here hx rfl (hb hby d2_9) rfl rfl k) ?_
  refine own_via (T5.setTop (mkF m 11 #[.val (.ref p0), .val (.int p1), .val (.int p2), .val (.int p3)] [(.int p2), (.ref p0)])) (fun t k => XS.iloadN X5.here hx rfl (hb hby d2_10) rfl  k) ?_
  have F8 := (P1.other W5 (Or.inr (slot_ne (Or.inr (hw _ (List.mem_of_getElem? (i := 26) rfl))) (Or.inr (hw _ (List.mem_of_getElem? (i := 24) rfl))) (by decide) (t := .int) (t' := .int) (by decide) (by decide))))
  have F9 := (P3.wr W5)
  obtain ⟨T7, h7, X7, e7, W7, st7⟩ := putF X5 hx hZ hown (host := "") (Or.inl (hw _ (List.mem_of_getElem? (i := 25) rfl))) Via.refl e5 F8 F9 (Or.inr ⟨(hw _ (List.mem_of_getElem? (i := 26) rfl)), rfl, hnm⟩) (hw _ (List.mem_of_getElem? (i := 10) rfl)) (ty := .int) (by decide) rfl rfl (g := (mkF m 11 #[.val (.ref p0), .val (.int p1), .val (.int p2), .val (.int p3)] [(.int p2), (.ref p0)])) rfl rfl (hb hby d2_11)
  have Fw7 := F8.same W7
  have N7 := Fr.snoc X7 N5 gg_p0
  have K10 : Keep h0 h7 [p0] := K6.wr W7 (Or.inl (List.mem_of_getElem? (i := 0) rfl))
  refine own_via (T7.setTop (mkF m 14 #[.val (.ref p0), .val (.int p1), .val (.int p2), .val (.int p3)] [])) (fun t k => st7 t k) ?_
  refine own_via (T7.setTop (mkF m 15 #[.val (.ref p0), .val (.int p1), .val (.int p2), .val (.int p3)] [(.ref p0)])) (fun t k => XS.aloadN X7.here hx rfl (hb hby d2_14) rfl rfl k) ?_
  refine own_via (T7.setTop (mkF m 16 #[.val (.ref p0), .val (.int p1), .val (.int p2), .val (.int p3)] [(.int p3), (.ref p0)])) (fun t k => XS.iloadN X7.here hx rfl (hb hby d2_15) rfl  k) ?_
  have F12 := ((P2.other W5 (Or.inr (slot_ne (Or.inr (hw _ (List.mem_of_getElem? (i := 28) rfl))) (Or.inr (hw _ (List.mem_of_getElem? (i := 24) rfl))) (by decide) (t := .int) (t' := .int) (by decide) (by decide)))).other W7 (Or.inr (slot_ne (Or.inr (hw _ (List.mem_of_getElem? (i := 28) rfl))) (Or.inr (hw _ (List.mem_of_getElem? (i := 26) rfl))) (by decide) (t := .int) (t' := .int) (by decide) (by decide))))
  have F13 := (F9.wr W7)
  obtain ⟨T11, h11, X11, e11, W11, st11⟩ := putF X7 hx hZ hown (host := "") (Or.inl (hw _ (List.mem_of_getElem? (i := 27) rfl))) Via.refl e7 F12 F13 (Or.inr ⟨(hw _ (List.mem_of_getElem? (i := 28) rfl)), rfl, hnm⟩) (hw _ (List.mem_of_getElem? (i := 10) rfl)) (ty := .int) (by decide) rfl rfl (g := (mkF m 16 #[.val (.ref p0), .val (.int p1), .val (.int p2), .val (.int p3)] [(.int p3), (.ref p0)])) rfl rfl (hb hby d2_16)
  have Fw11 := F12.same W11
  have N11 := Fr.snoc X11 N7 gg_p0
  have K14 : Keep h0 h11 [p0] := K10.wr W11 (Or.inl (List.mem_of_getElem? (i := 0) rfl))
  refine own_via (T11.setTop (mkF m 19 #[.val (.ref p0), .val (.int p1), .val (.int p2), .val (.int p3)] [])) (fun t k => st11 t k) ?_
  refine own_leave X11 Bd.notSynchronized (v := none) (fun _ => rfl) (fun fs hr => X11.returnOut hx Bd.returns (hb hby d2_19) hr) ?_ (by decide) (by decide)
  have F15 := (F13.wr W11)
  have F16 := ((Fw5.other W7 (Or.inr (slot_ne (Or.inr (hw _ (List.mem_of_getElem? (i := 24) rfl))) (Or.inr (hw _ (List.mem_of_getElem? (i := 26) rfl))) (by decide) (t := .int) (t' := .int) (by decide) (by decide)))).other W11 (Or.inr (slot_ne (Or.inr (hw _ (List.mem_of_getElem? (i := 24) rfl))) (Or.inr (hw _ (List.mem_of_getElem? (i := 28) rfl))) (by decide) (t := .int) (t' := .int) (by decide) (by decide))))
  have F17 := (Fw7.other W11 (Or.inr (slot_ne (Or.inr (hw _ (List.mem_of_getElem? (i := 26) rfl))) (Or.inr (hw _ (List.mem_of_getElem? (i := 28) rfl))) (by decide) (t := .int) (t' := .int) (by decide) (by decide))))
  show (own_Q2 Z p0 p1 p2 p3  h0 n0) _ T11.heap _
  rw [e11]
  exact ⟨rfl, N11, K14, F15, F16, F17, Fw11⟩
def own_f5 (p1 : Int32) (p2 : Int32) (first : Int32) (last : Int32) (step : Int32) : Int32 := (if last = (-1 : Int32) then (if p1 < first then (0 : Int32) else (if (p2 - (1 : Int32)) < p1 then (0 : Int32) else (if step = (1 : Int32) then (1 : Int32) else (if ((p1 - first) % step) = (0 : Int32) then (1 : Int32) else (0 : Int32))))) else (if p1 < first then (0 : Int32) else (if last < p1 then (0 : Int32) else (if step = (1 : Int32) then (1 : Int32) else (if ((p1 - first) % step) = (0 : Int32) then (1 : Int32) else (0 : Int32))))))
def own_Q5 (Z : State) (p0 : Addr) (p1 : Int32) (p2 : Int32) (first : Int32) (last : Int32) (step : Int32) (h0 : Heap) (n0 : Nat) (v : Option Value) (h : Heap) (L : List Loc) : Prop := v = some (.int (own_f5 p1 p2 first last step)) ∧ Fr n0 L ∧ h = h0
theorem d5_0 : decode prog_15_method_2_code 0 = .ok (.aload_n 0, 1) := by decide +kernel
theorem d5_1 : decode prog_15_method_2_code 1 = .ok (.getfield 13, 3) := by decide +kernel
theorem d5_4 : decode prog_15_method_2_code 4 = .ok (.iconst (-1), 1) := by decide +kernel
theorem d5_5 : decode prog_15_method_2_code 5 = .ok (.if_icmp .ne 9, 3) := by decide +kernel
theorem d5_8 : decode prog_15_method_2_code 8 = .ok (.iload_n 2, 1) := by decide +kernel
theorem d5_9 : decode prog_15_method_2_code 9 = .ok (.iconst 1, 1) := by decide +kernel
theorem d5_10 : decode prog_15_method_2_code 10 = .ok (.isub, 1) := by decide +kernel
theorem d5_11 : decode prog_15_method_2_code 11 = .ok (.goto 7, 3) := by decide +kernel
theorem d5_14 : decode prog_15_method_2_code 14 = .ok (.aload_n 0, 1) := by decide +kernel
theorem d5_15 : decode prog_15_method_2_code 15 = .ok (.getfield 13, 3) := by decide +kernel
theorem d5_18 : decode prog_15_method_2_code 18 = .ok (.istore_n 3, 1) := by decide +kernel
theorem d5_19 : decode prog_15_method_2_code 19 = .ok (.iload_n 1, 1) := by decide +kernel
theorem d5_20 : decode prog_15_method_2_code 20 = .ok (.aload_n 0, 1) := by decide +kernel
theorem d5_21 : decode prog_15_method_2_code 21 = .ok (.getfield 7, 3) := by decide +kernel
theorem d5_24 : decode prog_15_method_2_code 24 = .ok (.if_icmp .lt 34, 3) := by decide +kernel
theorem d5_27 : decode prog_15_method_2_code 27 = .ok (.iload_n 1, 1) := by decide +kernel
theorem d5_28 : decode prog_15_method_2_code 28 = .ok (.iload_n 3, 1) := by decide +kernel
theorem d5_29 : decode prog_15_method_2_code 29 = .ok (.if_icmp .gt 29, 3) := by decide +kernel
theorem d5_32 : decode prog_15_method_2_code 32 = .ok (.aload_n 0, 1) := by decide +kernel
theorem d5_33 : decode prog_15_method_2_code 33 = .ok (.getfield 16, 3) := by decide +kernel
theorem d5_36 : decode prog_15_method_2_code 36 = .ok (.iconst 1, 1) := by decide +kernel
theorem d5_37 : decode prog_15_method_2_code 37 = .ok (.if_icmp .eq 17, 3) := by decide +kernel
theorem d5_40 : decode prog_15_method_2_code 40 = .ok (.iload_n 1, 1) := by decide +kernel
theorem d5_41 : decode prog_15_method_2_code 41 = .ok (.aload_n 0, 1) := by decide +kernel
theorem d5_42 : decode prog_15_method_2_code 42 = .ok (.getfield 7, 3) := by decide +kernel
theorem d5_45 : decode prog_15_method_2_code 45 = .ok (.isub, 1) := by decide +kernel
theorem d5_46 : decode prog_15_method_2_code 46 = .ok (.aload_n 0, 1) := by decide +kernel
theorem d5_47 : decode prog_15_method_2_code 47 = .ok (.getfield 16, 3) := by decide +kernel
theorem d5_50 : decode prog_15_method_2_code 50 = .ok (.irem, 1) := by decide +kernel
theorem d5_51 : decode prog_15_method_2_code 51 = .ok (.ifCond .ne 7, 3) := by decide +kernel
theorem d5_54 : decode prog_15_method_2_code 54 = .ok (.iconst 1, 1) := by decide +kernel
theorem d5_55 : decode prog_15_method_2_code 55 = .ok (.goto 4, 3) := by decide +kernel
theorem d5_58 : decode prog_15_method_2_code 58 = .ok (.iconst 0, 1) := by decide +kernel
theorem d5_59 : decode prog_15_method_2_code 59 = .ok (.ireturn, 1) := by decide +kernel
theorem ef_5 (m : MethodId) (p0 : Addr) (p1 : Int32) (p2 : Int32) : entryFrame m #[(.ref p0), (.int p1), (.int p2)] 4 = mkF m 0 #[.val (.ref p0), .val (.int p1), .val (.int p2), .unset] [] := by first | (simp [entryFrame, mkF, argsToLocals, Value.category]; done) | rfl
set_option maxRecDepth 65536 in
set_option maxHeartbeats 40000000 in
theorem rm5 (l : Launch) (Z : State) (a0 : Array Value) (hw : ∀ d ∈ tables_1, d.before a0 Z = true) (ws : List Jvm.Cond) (p0 : Addr) (p1 : Int32) (p2 : Int32) (h0 : Heap) (n0 : Nat) (Z0 : n0 ≤ h0.size) (first : Int32) (last : Int32) (step : Int32) (P0 : Fld Z h0 p0 "com/example/grantbook/grantbook/CommandEntry$Positions" "first" "I" (.int first)) (P1 : Fld Z h0 p0 "com/example/grantbook/grantbook/CommandEntry$Positions" "last" "I" (.int last)) (P2 : Fld Z h0 p0 "com/example/grantbook/grantbook/CommandEntry$Positions" "step" "I" (.int step)) (hnz : ¬ step = (0 : Int32)) :
    MetFree l (⟨"com/example/grantbook/grantbook/CommandEntry$Positions", "contains", "(II)Z"⟩ : MethodName) (head1 (Jvm.Cond.code (⟨"com/example/grantbook/grantbook/CommandEntry$Positions", "contains", "(II)Z"⟩ : MethodName) prog_15_method_2_code 4 (some .boolean) :: ws) ({ frames := 0, cells := 0, slots := 0, locals := 0 } : Room)) (fun a U => a = #[(.ref p0), (.int p1), (.int p2)] ∧ Z.Warmed39 U.vm ∧ U.heap = h0) (fun _ _ _ _ _ => True) (fun _ U o U' => ∃ v L, o = .returned v ∧ (own_Q5 Z p0 p1 p2 first last step h0 n0) v U'.heap L ∧ FrameEnd U o U' L ({ frames := 0, cells := 0, slots := 0, locals := 0 } : Room).cells ({ frames := 0, cells := 0, slots := 0, locals := 0 } : Room).slots) := by
  refine MetFree.of_bodySF (plainFor_of_name pn_com_example_grantbook_grantbook_CommandEntry_Positions) hisR ?_
  intro p e s m args below meth c s₁ Bd hml0 hP hK
  obtain ⟨rfl, hZ, hh⟩ := hP
  have hx := Bd.exec
  have hby := Bd.bytes
  have hml : c.maxLocals = 4 := hml0
  have hown : s.vm.findClass "com/example/grantbook/grantbook/CommandEntry$Positions" = some m.cls := findClass_of_methodNamed Bd.named
  have hnm := (name_of_methodNamed Bd.named Bd.method).1
  have X0 : Stand p l e ({ frames := 0, cells := 0, slots := 0, locals := 0 } : Room) s m #[(.ref p0), (.int p1), (.int p2)] below meth c s₁ [] 0 0 := Stand.of_body Bd
  have e0 : s₁.heap = h0 := by rw [← hh, Bd.state]; rfl
  have N0 := Fr.nil n0
  refine own_body (QQ := (own_Q5 Z p0 p1 p2 first last step h0 n0)) (ef_5 m p0 p1 p2) ?_
  refine own_via (s₁.setTop (mkF m 1 #[.val (.ref p0), .val (.int p1), .val (.int p2), .unset] [(.ref p0)])) (fun t k => XS.aloadN X0.here hx rfl (hb hby d5_0) rfl rfl k) ?_
  obtain ⟨T37, X37, e37, st37⟩ := getF X0 hx hZ hown (host := "") (Or.inl (hw _ (List.mem_of_getElem? (i := 25) rfl))) Via.refl e0 P1 (g := (mkF m 1 #[.val (.ref p0), .val (.int p1), .val (.int p2), .unset] [(.ref p0)])) rfl rfl (hb hby d5_1)
  refine own_via (T37.setTop (mkF m 4 #[.val (.ref p0), .val (.int p1), .val (.int p2), .unset] [(.int last)])) (fun t k => st37 t k) ?_
  refine own_via (T37.setTop (mkF m 5 #[.val (.ref p0), .val (.int p1), .val (.int p2), .unset] [(.int (-1 : Int32)), (.int last)])) (fun t k => XS.iconst X37.here hx rfl (hb hby d5_4) k) ?_
  by_cases hc5_38 : last = (-1 : Int32)
  · refine own_via (T37.setTop (mkF m 8 #[.val (.ref p0), .val (.int p1), .val (.int p2), .unset] [])) (fun t k => XS.icmpNo X37.here hx rfl (hb hby d5_5) rfl (teq hc5_38).2 k) ?_
    refine own_via (T37.setTop (mkF m 9 #[.val (.ref p0), .val (.int p1), .val (.int p2), .unset] [(.int p2)])) (fun t k => XS.iloadN X37.here hx rfl (hb hby d5_8) rfl  k) ?_
    refine own_via (T37.setTop (mkF m 10 #[.val (.ref p0), .val (.int p1), .val (.int p2), .unset] [(.int (1 : Int32)), (.int p2)])) (fun t k => XS.iconst X37.here hx rfl (hb hby d5_9) k) ?_
    refine own_via (T37.setTop (mkF m 11 #[.val (.ref p0), .val (.int p1), .val (.int p2), .unset] [(.int (p2 - (1 : Int32)))])) (fun t k => XS.isub X37.here hx rfl (hb hby d5_10) rfl k) ?_
    refine own_via (T37.setTop (mkF m 18 #[.val (.ref p0), .val (.int p1), .val (.int p2), .unset] [(.int (p2 - (1 : Int32)))])) (fun t k => XS.goto X37.here hx rfl (pc0 := 11) (pc' := 18) rfl (hb hby d5_11) (by decide) (by decide) k) ?_
    refine own_via (T37.setTop (mkF m 19 #[.val (.ref p0), .val (.int p1), .val (.int p2), .val (.int (p2 - (1 : Int32)))] [])) (fun t k => XS.istoreN X37.here hx rfl (hb hby d5_18) rfl (l' := #[.val (.ref p0), .val (.int p1), .val (.int p2), .val (.int (p2 - (1 : Int32)))]) rfl k) ?_
    refine own_via (T37.setTop (mkF m 20 #[.val (.ref p0), .val (.int p1), .val (.int p2), .val (.int (p2 - (1 : Int32)))] [(.int p1)])) (fun t k => XS.iloadN X37.here hx rfl (hb hby d5_19) rfl  k) ?_
    refine own_via (T37.setTop (mkF m 21 #[.val (.ref p0), .val (.int p1), .val (.int p2), .val (.int (p2 - (1 : Int32)))] [(.ref p0), (.int p1)])) (fun t k => XS.aloadN X37.here hx rfl (hb hby d5_20) rfl rfl k) ?_
    obtain ⟨T39, X39, e39, st39⟩ := getF X37 hx hZ hown (host := "") (Or.inl (hw _ (List.mem_of_getElem? (i := 23) rfl))) Via.refl e37 P0 (g := (mkF m 21 #[.val (.ref p0), .val (.int p1), .val (.int p2), .val (.int (p2 - (1 : Int32)))] [(.ref p0), (.int p1)])) rfl rfl (hb hby d5_21)
    refine own_via (T39.setTop (mkF m 24 #[.val (.ref p0), .val (.int p1), .val (.int p2), .val (.int (p2 - (1 : Int32)))] [(.int first), (.int p1)])) (fun t k => st39 t k) ?_
    by_cases hc24_40 : p1 < first
    · refine own_via (T39.setTop (mkF m 58 #[.val (.ref p0), .val (.int p1), .val (.int p2), .val (.int (p2 - (1 : Int32)))] [])) (fun t k => XS.icmpYes X39.here hx rfl (pc0 := 24) (pc' := 58) rfl (hb hby d5_24) rfl (tlt hc24_40).1 (by decide) (by decide) k) ?_
      refine own_via (T39.setTop (mkF m 59 #[.val (.ref p0), .val (.int p1), .val (.int p2), .val (.int (p2 - (1 : Int32)))] [(.int (0 : Int32))])) (fun t k => XS.iconst X39.here hx rfl (hb hby d5_58) k) ?_
      refine own_leave X39 Bd.notSynchronized (v := some (.int (0 : Int32))) (fun h => by rw [Bd.returns] at h; cases h) (fun fs hr => retN X39 hx (t := .boolean) Bd.returns (by simp) (hb hby d5_59) hr) ?_ (by decide) (by decide)
      exact ⟨(by show some (Value.int _) = some (Value.int _); unfold own_f5; rw [if_pos hc5_38, if_pos hc24_40]), N0, e39⟩
    · refine own_via (T39.setTop (mkF m 27 #[.val (.ref p0), .val (.int p1), .val (.int p2), .val (.int (p2 - (1 : Int32)))] [])) (fun t k => XS.icmpNo X39.here hx rfl (hb hby d5_24) rfl (flt hc24_40).1 k) ?_
      refine own_via (T39.setTop (mkF m 28 #[.val (.ref p0), .val (.int p1), .val (.int p2), .val (.int (p2 - (1 : Int32)))] [(.int p1)])) (fun t k => XS.iloadN X39.here hx rfl (hb hby d5_27) rfl  k) ?_
      refine own_via (T39.setTop (mkF m 29 #[.val (.ref p0), .val (.int p1), .val (.int p2), .val (.int (p2 - (1 : Int32)))] [(.int (p2 - (1 : Int32))), (.int p1)])) (fun t k => XS.iloadN X39.here hx rfl (hb hby d5_28) rfl  k) ?_
      by_cases hc29_41 : (p2 - (1 : Int32)) < p1
      · refine own_via (T39.setTop (mkF m 58 #[.val (.ref p0), .val (.int p1), .val (.int p2), .val (.int (p2 - (1 : Int32)))] [])) (fun t k => XS.icmpYes X39.here hx rfl (pc0 := 29) (pc' := 58) rfl (hb hby d5_29) rfl (tlt hc29_41).2.2.1 (by decide) (by decide) k) ?_
        refine own_via (T39.setTop (mkF m 59 #[.val (.ref p0), .val (.int p1), .val (.int p2), .val (.int (p2 - (1 : Int32)))] [(.int (0 : Int32))])) (fun t k => XS.iconst X39.here hx rfl (hb hby d5_58) k) ?_
        refine own_leave X39 Bd.notSynchronized (v := some (.int (0 : Int32))) (fun h => by rw [Bd.returns] at h; cases h) (fun fs hr => retN X39 hx (t := .boolean) Bd.returns (by simp) (hb hby d5_59) hr) ?_ (by decide) (by decide)
        exact ⟨(by show some (Value.int _) = some (Value.int _); unfold own_f5; rw [if_pos hc5_38, if_neg hc24_40, if_pos hc29_41]), N0, e39⟩
      · refine own_via (T39.setTop (mkF m 32 #[.val (.ref p0), .val (.int p1), .val (.int p2), .val (.int (p2 - (1 : Int32)))] [])) (fun t k => XS.icmpNo X39.here hx rfl (hb hby d5_29) rfl (flt hc29_41).2.2.1 k) ?_
        refine own_via (T39.setTop (mkF m 33 #[.val (.ref p0), .val (.int p1), .val (.int p2), .val (.int (p2 - (1 : Int32)))] [(.ref p0)])) (fun t k => XS.aloadN X39.here hx rfl (hb hby d5_32) rfl rfl k) ?_
        obtain ⟨T42, X42, e42, st42⟩ := getF X39 hx hZ hown (host := "") (Or.inl (hw _ (List.mem_of_getElem? (i := 27) rfl))) Via.refl e39 P2 (g := (mkF m 33 #[.val (.ref p0), .val (.int p1), .val (.int p2), .val (.int (p2 - (1 : Int32)))] [(.ref p0)])) rfl rfl (hb hby d5_33)
        refine own_via (T42.setTop (mkF m 36 #[.val (.ref p0), .val (.int p1), .val (.int p2), .val (.int (p2 - (1 : Int32)))] [(.int step)])) (fun t k => st42 t k) ?_
        refine own_via (T42.setTop (mkF m 37 #[.val (.ref p0), .val (.int p1), .val (.int p2), .val (.int (p2 - (1 : Int32)))] [(.int (1 : Int32)), (.int step)])) (fun t k => XS.iconst X42.here hx rfl (hb hby d5_36) k) ?_
        by_cases hc37_43 : step = (1 : Int32)
        · refine own_via (T42.setTop (mkF m 54 #[.val (.ref p0), .val (.int p1), .val (.int p2), .val (.int (p2 - (1 : Int32)))] [])) (fun t k => XS.icmpYes X42.here hx rfl (pc0 := 37) (pc' := 54) rfl (hb hby d5_37) rfl (teq hc37_43).1 (by decide) (by decide) k) ?_
          refine own_via (T42.setTop (mkF m 55 #[.val (.ref p0), .val (.int p1), .val (.int p2), .val (.int (p2 - (1 : Int32)))] [(.int (1 : Int32))])) (fun t k => XS.iconst X42.here hx rfl (hb hby d5_54) k) ?_
          refine own_via (T42.setTop (mkF m 59 #[.val (.ref p0), .val (.int p1), .val (.int p2), .val (.int (p2 - (1 : Int32)))] [(.int (1 : Int32))])) (fun t k => XS.goto X42.here hx rfl (pc0 := 55) (pc' := 59) rfl (hb hby d5_55) (by decide) (by decide) k) ?_
          refine own_leave X42 Bd.notSynchronized (v := some (.int (1 : Int32))) (fun h => by rw [Bd.returns] at h; cases h) (fun fs hr => retN X42 hx (t := .boolean) Bd.returns (by simp) (hb hby d5_59) hr) ?_ (by decide) (by decide)
          exact ⟨(by show some (Value.int _) = some (Value.int _); unfold own_f5; rw [if_pos hc5_38, if_neg hc24_40, if_neg hc29_41, if_pos hc37_43]), N0, e42⟩
        · refine own_via (T42.setTop (mkF m 40 #[.val (.ref p0), .val (.int p1), .val (.int p2), .val (.int (p2 - (1 : Int32)))] [])) (fun t k => XS.icmpNo X42.here hx rfl (hb hby d5_37) rfl (feq hc37_43).1 k) ?_
          refine own_via (T42.setTop (mkF m 41 #[.val (.ref p0), .val (.int p1), .val (.int p2), .val (.int (p2 - (1 : Int32)))] [(.int p1)])) (fun t k => XS.iloadN X42.here hx rfl (hb hby d5_40) rfl  k) ?_
          refine own_via (T42.setTop (mkF m 42 #[.val (.ref p0), .val (.int p1), .val (.int p2), .val (.int (p2 - (1 : Int32)))] [(.ref p0), (.int p1)])) (fun t k => XS.aloadN X42.here hx rfl (hb hby d5_41) rfl rfl k) ?_
          obtain ⟨T44, X44, e44, st44⟩ := getF X42 hx hZ hown (host := "") (Or.inl (hw _ (List.mem_of_getElem? (i := 23) rfl))) Via.refl e42 P0 (g := (mkF m 42 #[.val (.ref p0), .val (.int p1), .val (.int p2), .val (.int (p2 - (1 : Int32)))] [(.ref p0), (.int p1)])) rfl rfl (hb hby d5_42)
          refine own_via (T44.setTop (mkF m 45 #[.val (.ref p0), .val (.int p1), .val (.int p2), .val (.int (p2 - (1 : Int32)))] [(.int first), (.int p1)])) (fun t k => st44 t k) ?_
          refine own_via (T44.setTop (mkF m 46 #[.val (.ref p0), .val (.int p1), .val (.int p2), .val (.int (p2 - (1 : Int32)))] [(.int (p1 - first))])) (fun t k => XS.isub X44.here hx rfl (hb hby d5_45) rfl k) ?_
          refine own_via (T44.setTop (mkF m 47 #[.val (.ref p0), .val (.int p1), .val (.int p2), .val (.int (p2 - (1 : Int32)))] [(.ref p0), (.int (p1 - first))])) (fun t k => XS.aloadN X44.here hx rfl (hb hby d5_46) rfl rfl k) ?_
          obtain ⟨T45, X45, e45, st45⟩ := getF X44 hx hZ hown (host := "") (Or.inl (hw _ (List.mem_of_getElem? (i := 27) rfl))) Via.refl e44 P2 (g := (mkF m 47 #[.val (.ref p0), .val (.int p1), .val (.int p2), .val (.int (p2 - (1 : Int32)))] [(.ref p0), (.int (p1 - first))])) rfl rfl (hb hby d5_47)
          refine own_via (T45.setTop (mkF m 50 #[.val (.ref p0), .val (.int p1), .val (.int p2), .val (.int (p2 - (1 : Int32)))] [(.int step), (.int (p1 - first))])) (fun t k => st45 t k) ?_
          refine own_via (T45.setTop (mkF m 51 #[.val (.ref p0), .val (.int p1), .val (.int p2), .val (.int (p2 - (1 : Int32)))] [(.int ((p1 - first) % step))])) (fun t k => Jvm.RoadKit.iremM X45 hx rfl (hb hby d5_50) rfl hnz k) ?_
          by_cases hc51_46 : ((p1 - first) % step) = (0 : Int32)
          · refine own_via (T45.setTop (mkF m 54 #[.val (.ref p0), .val (.int p1), .val (.int p2), .val (.int (p2 - (1 : Int32)))] [])) (fun t k => XS.ifNo X45.here hx rfl (hb hby d5_51) rfl ((if0 _ _).trans (teq hc51_46).2) k) ?_
            refine own_via (T45.setTop (mkF m 55 #[.val (.ref p0), .val (.int p1), .val (.int p2), .val (.int (p2 - (1 : Int32)))] [(.int (1 : Int32))])) (fun t k => XS.iconst X45.here hx rfl (hb hby d5_54) k) ?_
            refine own_via (T45.setTop (mkF m 59 #[.val (.ref p0), .val (.int p1), .val (.int p2), .val (.int (p2 - (1 : Int32)))] [(.int (1 : Int32))])) (fun t k => XS.goto X45.here hx rfl (pc0 := 55) (pc' := 59) rfl (hb hby d5_55) (by decide) (by decide) k) ?_
            refine own_leave X45 Bd.notSynchronized (v := some (.int (1 : Int32))) (fun h => by rw [Bd.returns] at h; cases h) (fun fs hr => retN X45 hx (t := .boolean) Bd.returns (by simp) (hb hby d5_59) hr) ?_ (by decide) (by decide)
            exact ⟨(by show some (Value.int _) = some (Value.int _); unfold own_f5; rw [if_pos hc5_38, if_neg hc24_40, if_neg hc29_41, if_neg hc37_43, if_pos hc51_46]), N0, e45⟩
          · refine own_via (T45.setTop (mkF m 58 #[.val (.ref p0), .val (.int p1), .val (.int p2), .val (.int (p2 - (1 : Int32)))] [])) (fun t k => XS.ifYes X45.here hx rfl (pc0 := 51) (pc' := 58) rfl (hb hby d5_51) rfl ((if0 _ _).trans (feq hc51_46).2) (by decide) (by decide) k) ?_
            refine own_via (T45.setTop (mkF m 59 #[.val (.ref p0), .val (.int p1), .val (.int p2), .val (.int (p2 - (1 : Int32)))] [(.int (0 : Int32))])) (fun t k => XS.iconst X45.here hx rfl (hb hby d5_58) k) ?_
            refine own_leave X45 Bd.notSynchronized (v := some (.int (0 : Int32))) (fun h => by rw [Bd.returns] at h; cases h) (fun fs hr => retN X45 hx (t := .boolean) Bd.returns (by simp) (hb hby d5_59) hr) ?_ (by decide) (by decide)
            exact ⟨(by show some (Value.int _) = some (Value.int _); unfold own_f5; rw [if_pos hc5_38, if_neg hc24_40, if_neg hc29_41, if_neg hc37_43, if_neg hc51_46]), N0, e45⟩
  · refine own_via (T37.setTop (mkF m 14 #[.val (.ref p0), .val (.int p1), .val (.int p2), .unset] [])) (fun t k => XS.icmpYes X37.here hx rfl (pc0 := 5) (pc' := 14) rfl (hb hby d5_5) rfl (feq hc5_38).2 (by decide) (by decide) k) ?_
    refine own_via (T37.setTop (mkF m 15 #[.val (.ref p0), .val (.int p1), .val (.int p2), .unset] [(.ref p0)])) (fun t k => XS.aloadN X37.here hx rfl (hb hby d5_14) rfl rfl k) ?_
    obtain ⟨T47, X47, e47, st47⟩ := getF X37 hx hZ hown (host := "") (Or.inl (hw _ (List.mem_of_getElem? (i := 25) rfl))) Via.refl e37 P1 (g := (mkF m 15 #[.val (.ref p0), .val (.int p1), .val (.int p2), .unset] [(.ref p0)])) rfl rfl (hb hby d5_15)
    refine own_via (T47.setTop (mkF m 18 #[.val (.ref p0), .val (.int p1), .val (.int p2), .unset] [(.int last)])) (fun t k => st47 t k) ?_
    refine own_via (T47.setTop (mkF m 19 #[.val (.ref p0), .val (.int p1), .val (.int p2), .val (.int last)] [])) (fun t k => XS.istoreN X47.here hx rfl (hb hby d5_18) rfl (l' := #[.val (.ref p0), .val (.int p1), .val (.int p2), .val (.int last)]) rfl k) ?_
    refine own_via (T47.setTop (mkF m 20 #[.val (.ref p0), .val (.int p1), .val (.int p2), .val (.int last)] [(.int p1)])) (fun t k => XS.iloadN X47.here hx rfl (hb hby d5_19) rfl  k) ?_
    refine own_via (T47.setTop (mkF m 21 #[.val (.ref p0), .val (.int p1), .val (.int p2), .val (.int last)] [(.ref p0), (.int p1)])) (fun t k => XS.aloadN X47.here hx rfl (hb hby d5_20) rfl rfl k) ?_
    obtain ⟨T48, X48, e48, st48⟩ := getF X47 hx hZ hown (host := "") (Or.inl (hw _ (List.mem_of_getElem? (i := 23) rfl))) Via.refl e47 P0 (g := (mkF m 21 #[.val (.ref p0), .val (.int p1), .val (.int p2), .val (.int last)] [(.ref p0), (.int p1)])) rfl rfl (hb hby d5_21)
    refine own_via (T48.setTop (mkF m 24 #[.val (.ref p0), .val (.int p1), .val (.int p2), .val (.int last)] [(.int first), (.int p1)])) (fun t k => st48 t k) ?_
    by_cases hc24_49 : p1 < first
    · refine own_via (T48.setTop (mkF m 58 #[.val (.ref p0), .val (.int p1), .val (.int p2), .val (.int last)] [])) (fun t k => XS.icmpYes X48.here hx rfl (pc0 := 24) (pc' := 58) rfl (hb hby d5_24) rfl (tlt hc24_49).1 (by decide) (by decide) k) ?_
      refine own_via (T48.setTop (mkF m 59 #[.val (.ref p0), .val (.int p1), .val (.int p2), .val (.int last)] [(.int (0 : Int32))])) (fun t k => XS.iconst X48.here hx rfl (hb hby d5_58) k) ?_
      refine own_leave X48 Bd.notSynchronized (v := some (.int (0 : Int32))) (fun h => by rw [Bd.returns] at h; cases h) (fun fs hr => retN X48 hx (t := .boolean) Bd.returns (by simp) (hb hby d5_59) hr) ?_ (by decide) (by decide)
      exact ⟨(by show some (Value.int _) = some (Value.int _); unfold own_f5; rw [if_neg hc5_38, if_pos hc24_49]), N0, e48⟩
    · refine own_via (T48.setTop (mkF m 27 #[.val (.ref p0), .val (.int p1), .val (.int p2), .val (.int last)] [])) (fun t k => XS.icmpNo X48.here hx rfl (hb hby d5_24) rfl (flt hc24_49).1 k) ?_
      refine own_via (T48.setTop (mkF m 28 #[.val (.ref p0), .val (.int p1), .val (.int p2), .val (.int last)] [(.int p1)])) (fun t k => XS.iloadN X48.here hx rfl (hb hby d5_27) rfl  k) ?_
      refine own_via (T48.setTop (mkF m 29 #[.val (.ref p0), .val (.int p1), .val (.int p2), .val (.int last)] [(.int last), (.int p1)])) (fun t k => XS.iloadN X48.here hx rfl (hb hby d5_28) rfl  k) ?_
      by_cases hc29_50 : last < p1
      · refine own_via (T48.setTop (mkF m 58 #[.val (.ref p0), .val (.int p1), .val (.int p2), .val (.int last)] [])) (fun t k => XS.icmpYes X48.here hx rfl (pc0 := 29) (pc' := 58) rfl (hb hby d5_29) rfl (tlt hc29_50).2.2.1 (by decide) (by decide) k) ?_
        refine own_via (T48.setTop (mkF m 59 #[.val (.ref p0), .val (.int p1), .val (.int p2), .val (.int last)] [(.int (0 : Int32))])) (fun t k => XS.iconst X48.here hx rfl (hb hby d5_58) k) ?_
        refine own_leave X48 Bd.notSynchronized (v := some (.int (0 : Int32))) (fun h => by rw [Bd.returns] at h; cases h) (fun fs hr => retN X48 hx (t := .boolean) Bd.returns (by simp) (hb hby d5_59) hr) ?_ (by decide) (by decide)
        exact ⟨(by show some (Value.int _) = some (Value.int _); unfold own_f5; rw [if_neg hc5_38, if_neg hc24_49, if_pos hc29_50]), N0, e48⟩
      · refine own_via (T48.setTop (mkF m 32 #[.val (.ref p0), .val (.int p1), .val (.int p2), .val (.int last)] [])) (fun t k => XS.icmpNo X48.here hx rfl (hb hby d5_29) rfl (flt hc29_50).2.2.1 k) ?_
        refine own_via (T48.setTop (mkF m 33 #[.val (.ref p0), .val (.int p1), .val (.int p2), .val (.int last)] [(.ref p0)])) (fun t k => XS.aloadN X48.here hx rfl (hb hby d5_32) rfl rfl k) ?_
        obtain ⟨T51, X51, e51, st51⟩ := getF X48 hx hZ hown (host := "") (Or.inl (hw _ (List.mem_of_getElem? (i := 27) rfl))) Via.refl e48 P2 (g := (mkF m 33 #[.val (.ref p0), .val (.int p1), .val (.int p2), .val (.int last)] [(.ref p0)])) rfl rfl (hb hby d5_33)
        refine own_via (T51.setTop (mkF m 36 #[.val (.ref p0), .val (.int p1), .val (.int p2), .val (.int last)] [(.int step)])) (fun t k => st51 t k) ?_
        refine own_via (T51.setTop (mkF m 37 #[.val (.ref p0), .val (.int p1), .val (.int p2), .val (.int last)] [(.int (1 : Int32)), (.int step)])) (fun t k => XS.iconst X51.here hx rfl (hb hby d5_36) k) ?_
        by_cases hc37_52 : step = (1 : Int32)
        · refine own_via (T51.setTop (mkF m 54 #[.val (.ref p0), .val (.int p1), .val (.int p2), .val (.int last)] [])) (fun t k => XS.icmpYes X51.here hx rfl (pc0 := 37) (pc' := 54) rfl (hb hby d5_37) rfl (teq hc37_52).1 (by decide) (by decide) k) ?_
          refine own_via (T51.setTop (mkF m 55 #[.val (.ref p0), .val (.int p1), .val (.int p2), .val (.int last)] [(.int (1 : Int32))])) (fun t k => XS.iconst X51.here hx rfl (hb hby d5_54) k) ?_
          refine own_via (T51.setTop (mkF m 59 #[.val (.ref p0), .val (.int p1), .val (.int p2), .val (.int last)] [(.int (1 : Int32))])) (fun t k => XS.goto X51.here hx rfl (pc0 := 55) (pc' := 59) rfl (hb hby d5_55) (by decide) (by decide) k) ?_
          refine own_leave X51 Bd.notSynchronized (v := some (.int (1 : Int32))) (fun h => by rw [Bd.returns] at h; cases h) (fun fs hr => retN X51 hx (t := .boolean) Bd.returns (by simp) (hb hby d5_59) hr) ?_ (by decide) (by decide)
          exact ⟨(by show some (Value.int _) = some (Value.int _); unfold own_f5; rw [if_neg hc5_38, if_neg hc24_49, if_neg hc29_50, if_pos hc37_52]), N0, e51⟩
        · refine own_via (T51.setTop (mkF m 40 #[.val (.ref p0), .val (.int p1), .val (.int p2), .val (.int last)] [])) (fun t k => XS.icmpNo X51.here hx rfl (hb hby d5_37) rfl (feq hc37_52).1 k) ?_
          refine own_via (T51.setTop (mkF m 41 #[.val (.ref p0), .val (.int p1), .val (.int p2), .val (.int last)] [(.int p1)])) (fun t k => XS.iloadN X51.here hx rfl (hb hby d5_40) rfl  k) ?_
          refine own_via (T51.setTop (mkF m 42 #[.val (.ref p0), .val (.int p1), .val (.int p2), .val (.int last)] [(.ref p0), (.int p1)])) (fun t k => XS.aloadN X51.here hx rfl (hb hby d5_41) rfl rfl k) ?_
          obtain ⟨T53, X53, e53, st53⟩ := getF X51 hx hZ hown (host := "") (Or.inl (hw _ (List.mem_of_getElem? (i := 23) rfl))) Via.refl e51 P0 (g := (mkF m 42 #[.val (.ref p0), .val (.int p1), .val (.int p2), .val (.int last)] [(.ref p0), (.int p1)])) rfl rfl (hb hby d5_42)
          refine own_via (T53.setTop (mkF m 45 #[.val (.ref p0), .val (.int p1), .val (.int p2), .val (.int last)] [(.int first), (.int p1)])) (fun t k => st53 t k) ?_
          refine own_via (T53.setTop (mkF m 46 #[.val (.ref p0), .val (.int p1), .val (.int p2), .val (.int last)] [(.int (p1 - first))])) (fun t k => XS.isub X53.here hx rfl (hb hby d5_45) rfl k) ?_
          refine own_via (T53.setTop (mkF m 47 #[.val (.ref p0), .val (.int p1), .val (.int p2), .val (.int last)] [(.ref p0), (.int (p1 - first))])) (fun t k => XS.aloadN X53.here hx rfl (hb hby d5_46) rfl rfl k) ?_
          obtain ⟨T54, X54, e54, st54⟩ := getF X53 hx hZ hown (host := "") (Or.inl (hw _ (List.mem_of_getElem? (i := 27) rfl))) Via.refl e53 P2 (g := (mkF m 47 #[.val (.ref p0), .val (.int p1), .val (.int p2), .val (.int last)] [(.ref p0), (.int (p1 - first))])) rfl rfl (hb hby d5_47)
          refine own_via (T54.setTop (mkF m 50 #[.val (.ref p0), .val (.int p1), .val (.int p2), .val (.int last)] [(.int step), (.int (p1 - first))])) (fun t k => st54 t k) ?_
          refine own_via (T54.setTop (mkF m 51 #[.val (.ref p0), .val (.int p1), .val (.int p2), .val (.int last)] [(.int ((p1 - first) % step))])) (fun t k => Jvm.RoadKit.iremM X54 hx rfl (hb hby d5_50) rfl hnz k) ?_
          by_cases hc51_55 : ((p1 - first) % step) = (0 : Int32)
          · refine own_via (T54.setTop (mkF m 54 #[.val (.ref p0), .val (.int p1), .val (.int p2), .val (.int last)] [])) (fun t k => XS.ifNo X54.here hx rfl (hb hby d5_51) rfl ((if0 _ _).trans (teq hc51_55).2) k) ?_
            refine own_via (T54.setTop (mkF m 55 #[.val (.ref p0), .val (.int p1), .val (.int p2), .val (.int last)] [(.int (1 : Int32))])) (fun t k => XS.iconst X54.here hx rfl (hb hby d5_54) k) ?_
            refine own_via (T54.setTop (mkF m 59 #[.val (.ref p0), .val (.int p1), .val (.int p2), .val (.int last)] [(.int (1 : Int32))])) (fun t k => XS.goto X54.here hx rfl (pc0 := 55) (pc' := 59) rfl (hb hby d5_55) (by decide) (by decide) k) ?_
            refine own_leave X54 Bd.notSynchronized (v := some (.int (1 : Int32))) (fun h => by rw [Bd.returns] at h; cases h) (fun fs hr => retN X54 hx (t := .boolean) Bd.returns (by simp) (hb hby d5_59) hr) ?_ (by decide) (by decide)
            exact ⟨(by show some (Value.int _) = some (Value.int _); unfold own_f5; rw [if_neg hc5_38, if_neg hc24_49, if_neg hc29_50, if_neg hc37_52, if_pos hc51_55]), N0, e54⟩
          · refine own_via (T54.setTop (mkF m 58 #[.val (.ref p0), .val (.int p1), .val (.int p2), .val (.int last)] [])) (fun t k => XS.ifYes X54.here hx rfl (pc0 := 51) (pc' := 58) rfl (hb hby d5_51) rfl ((if0 _ _).trans (feq hc51_55).2) (by decide) (by decide) k) ?_
            refine own_via (T54.setTop (mkF m 59 #[.val (.ref p0), .val (.int p1), .val (.int p2), .val (.int last)] [(.int (0 : Int32))])) (fun t k => XS.iconst X54.here hx rfl (hb hby d5_58) k) ?_
            refine own_leave X54 Bd.notSynchronized (v := some (.int (0 : Int32))) (fun h => by rw [Bd.returns] at h; cases h) (fun fs hr => retN X54 hx (t := .boolean) Bd.returns (by simp) (hb hby d5_59) hr) ?_ (by decide) (by decide)
            exact ⟨(by show some (Value.int _) = some (Value.int _); unfold own_f5; rw [if_neg hc5_38, if_neg hc24_49, if_neg hc29_50, if_neg hc37_52, if_neg hc51_55]), N0, e54⟩
theorem own_step {p2 step : Int32} (h : step = (if (p2 &&& (1 : Int32)) = (0 : Int32) then (1 : Int32) else ((1 : Int32) + (((p2.toUInt32 >>> ((1 : Int32) &&& 31).toUInt32).toInt32) &&& (4095 : Int32))))) : 1 ≤ step.toInt ∧ step.toInt ≤ 4096 := by
  have e1 : (1 : Int32).toInt = 1 := rfl
  have a := c_mask ((p2.toUInt32 >>> ((1 : Int32) &&& 31).toUInt32).toInt32) (4095 : Int32) 12 (by decide) (by decide)
  have b := c_iadd (1 : Int32) (((p2.toUInt32 >>> ((1 : Int32) &&& 31).toUInt32).toInt32) &&& (4095 : Int32))
  have r := rng32 ((1 : Int32) + (((p2.toUInt32 >>> ((1 : Int32) &&& 31).toUInt32).toInt32) &&& (4095 : Int32)))
  rw [h]
  split
  · rw [e1]; omega
  · omega
theorem own_nz {p2 step : Int32} (h : step = (if (p2 &&& (1 : Int32)) = (0 : Int32) then (1 : Int32) else ((1 : Int32) + (((p2.toUInt32 >>> ((1 : Int32) &&& 31).toUInt32).toInt32) &&& (4095 : Int32))))) : ¬ step = 0 := by
  intro q; have := own_step h; rw [q] at this; exact absurd this.1 (by decide)
theorem own_law (p0 p1 p2 p3 p4 p5 first step below k pos r toEnd end_ last wc ex : Int32) (floor f0 eL : Int64)
    (h1 : first = (p0 &&& (268435455 : Int32)))
    (h2 : step = (if (p2 &&& (1 : Int32)) = (0 : Int32) then (1 : Int32) else ((1 : Int32) + (((p2.toUInt32 >>> ((1 : Int32) &&& 31).toUInt32).toInt32) &&& (4095 : Int32)))))
    (h4 : k = (p3 &&& (65535 : Int32)))
    (h5 : pos = (if below = (0 : Int32) then ((first + (k * step)) + ((p4 &&& (2147483647 : Int32)) % step)) else ((first - (1 : Int32)) - (p4 &&& (2147483647 : Int32)))))
    (h6 : r = (if below = (0 : Int32) then ((p4 &&& (2147483647 : Int32)) % step) else (0 : Int32)))
    (h8 : floor = (if toEnd = (0 : Int32) then (0 : Int64) else (-1 : Int64)))
    (h9 : f0 = (if (p1 &&& (2 : Int32)) = (0 : Int32) then ((pos.toInt64) + ((((p1 >>> ((2 : Int32) &&& 31)) &&& (7 : Int32)) - (4 : Int32)).toInt64)) else (((p1.toUInt32 >>> ((3 : Int32) &&& 31).toUInt32).toInt32).toInt64)))
    (h10 : eL = (own_f1 floor f0)) (h11 : end_ = (eL.toInt32))
    (h12 : last = (if toEnd = (0 : Int32) then end_ else (-1 : Int32)))
    (h13 : wc = (if toEnd = (0 : Int32) then (p5 &&& (2147483647 : Int32)) else (end_ + (1 : Int32))))
    (h14 : ex = (if below = (0 : Int32) then (if r = (0 : Int32) then (if end_ < pos then (0 : Int32) else (1 : Int32)) else (0 : Int32)) else (0 : Int32))) :
    own_f5 pos wc first last step = ex := by
  have e0 : (0 : Int32).toInt = 0 := rfl
  have e1 : (1 : Int32).toInt = 1 := rfl
  have e4 : (4 : Int32).toInt = 4 := rfl
  have em : (-1 : Int32).toInt = -1 := rfl
  have el0 : (0 : Int64).toInt = 0 := rfl
  have elm : (-1 : Int64).toInt = -1 := rfl
  have b1 := c_mask p0 (268435455 : Int32) 28 (by decide) (by decide)
  rw [← h1] at b1
  have b2 := own_step h2
  have b4 := c_mask p3 (65535 : Int32) 16 (by decide) (by decide)
  rw [← h4] at b4
  have b5 := c_mask p4 (2147483647 : Int32) 31 (by decide) (by decide)
  have b5a : 0 ≤ (p4 &&& (2147483647 : Int32)).toInt ∧ (p4 &&& (2147483647 : Int32)).toInt < 2147483648 := by omega
  have hR := (c_irem (p4 &&& (2147483647 : Int32)) step step.toInt rfl).1 b5a.1
  have hR1 := Int.emod_nonneg (p4 &&& (2147483647 : Int32)).toInt (show step.toInt ≠ 0 by omega)
  have hR2 := Int.emod_lt_of_pos (p4 &&& (2147483647 : Int32)).toInt (show 0 < step.toInt by omega)
  generalize hq : (p4 &&& (2147483647 : Int32)) % step = q at *
  generalize hP : (p4 &&& (2147483647 : Int32)) = P4 at *
  have k1 : 0 ≤ k.toInt ∧ k.toInt ≤ 65535 := by omega
  have hm0 : 0 ≤ k.toInt * step.toInt := Int.mul_nonneg k1.1 (by omega)
  have hm1 : k.toInt * step.toInt ≤ 65535 * 4096 := Int.mul_le_mul k1.2 b2.2 (by omega) (by decide)
  have hmm := c_imul k step
  have rmm := rng32 (k * step)
  have hks : (k * step).toInt = k.toInt * step.toInt := by omega
  have s1 := c_iadd first (k * step)
  have rs1 := rng32 (first + k * step)
  have s2 := c_iadd (first + k * step) q
  have rs2 := rng32 ((first + k * step) + q)
  have s3 := c_isub first (1 : Int32)
  have rs3 := rng32 (first - (1 : Int32))
  have s4 := c_isub (first - (1 : Int32)) P4
  have rs4 := rng32 ((first - (1 : Int32)) - P4)
  have hp1 : below = 0 → pos.toInt = first.toInt + k.toInt * step.toInt + q.toInt := by
    intro hb; rw [h5, if_pos hb]; omega
  have hp2 : ¬ below = 0 → pos.toInt = first.toInt - 1 - P4.toInt := by
    intro hb; rw [h5, if_neg hb]; omega
  have hpr : -2147483648 ≤ pos.toInt ∧ pos.toInt < 1000000000 := by
    by_cases hb : below = 0
    · have := hp1 hb; omega
    · have := hp2 hb; omega
  -- the end
  have t1 := c_mask (p1 >>> ((2 : Int32) &&& 31)) (7 : Int32) 3 (by decide) (by decide)
  have t2 := c_isub ((p1 >>> ((2 : Int32) &&& 31)) &&& (7 : Int32)) (4 : Int32)
  have t2r := rng32 (((p1 >>> ((2 : Int32) &&& 31)) &&& (7 : Int32)) - (4 : Int32))
  have t3 := c_i2l pos
  have t4 := c_i2l (((p1 >>> ((2 : Int32) &&& 31)) &&& (7 : Int32)) - (4 : Int32))
  have t5 := c_ladd pos.toInt64 ((((p1 >>> ((2 : Int32) &&& 31)) &&& (7 : Int32)) - (4 : Int32)).toInt64)
  have t5r := rng64 (pos.toInt64 + ((((p1 >>> ((2 : Int32) &&& 31)) &&& (7 : Int32)) - (4 : Int32)).toInt64))
  have t6 := c_iushr p1 (3 : Int32) 3 (by decide) (by decide)
  have t7 := c_i2l ((p1.toUInt32 >>> ((3 : Int32) &&& 31).toUInt32).toInt32)
  have t8 := rng32 p1
  have hf0 : -2147483660 ≤ f0.toInt ∧ f0.toInt < 1100000000 := by
    rw [h9]
    split
    · omega
    · rw [t7, t6]; omega
  have hfl : (toEnd = 0 → floor.toInt = 0) ∧ (¬ toEnd = 0 → floor.toInt = -1) := ⟨fun t => by rw [h8, if_pos t]; rfl, fun t => by rw [h8, if_neg t]; rfl⟩
  have heL : floor.toInt ≤ eL.toInt ∧ eL.toInt < 1100000000 := by
    rw [h10]; unfold own_f1
    split
    · rename_i q1; rw [Int64.lt_iff_toInt_lt] at q1; omega
    · by_cases t : toEnd = 0
      · have := hfl.1 t; omega
      · have := hfl.2 t; omega
  have hen := c_l2i eL
  rw [← h11] at hen
  have ren := rng32 end_
  have hE0 : toEnd = 0 → 0 ≤ end_.toInt := by
    intro t; have := hfl.1 t; omega
  have hf5 : own_f5 pos wc first last step = (if pos < first then (0 : Int32) else (if end_ < pos then (0 : Int32) else (if step = (1 : Int32) then (1 : Int32) else (if ((pos - first) % step) = (0 : Int32) then (1 : Int32) else (0 : Int32))))) := by
    unfold own_f5
    by_cases t : toEnd = 0
    · have hl : last = end_ := by rw [h12, if_pos t]
      have : ¬ last = -1 := by
        intro q; rw [hl] at q; have := hE0 t; rw [q] at this; exact absurd this (by decide)
      rw [if_neg this, hl]
    · have hl : last = -1 := by rw [h12, if_neg t]
      have hwc : wc - (1 : Int32) = end_ := by rw [h13, if_neg t]; exact Int32.add_sub_cancel _ _
      rw [if_pos hl, hwc]
  rw [hf5, h14]
  have s5 := c_isub pos first
  have rs5 := rng32 (pos - first)
  by_cases hb : below = 0
  · rw [if_pos hb]
    have hp := hp1 hb
    have hr : r = q := by rw [h6, if_pos hb]
    have n1 : ¬ pos < first := by rw [Int32.lt_iff_toInt_lt]; omega
    rw [if_neg n1]
    by_cases he : end_ < pos
    · simp [he]
    · rw [if_neg he, if_neg he]
      have hd : (pos - first).toInt = k.toInt * step.toInt + q.toInt := by omega
      have hmd := (c_irem (pos - first) step step.toInt rfl).1 (by omega)
      have hmq : ((pos - first) % step).toInt = q.toInt := by
        rw [hmd, hd, Int.add_comm, Int.add_mul_emod_self_right]
        exact Int.emod_eq_of_lt (by omega) (by omega)
      have hmq' : (pos - first) % step = q := Int32.toInt_inj.mp hmq
      rw [hmq', ← hr]
      by_cases h0 : r = 0
      · rw [if_pos h0]; split <;> rfl
      · rw [if_neg h0]
        have : ¬ step = 1 := by
          intro s; apply h0; rw [hr]; apply Int32.toInt_inj.mp
          have hq0 : 0 ≤ q.toInt := by omega
          have hq1 : q.toInt < step.toInt := by omega
          rw [s, e1] at hq1; rw [e0]; omega
        rw [if_neg this]
  · rw [if_neg hb]
    have hp := hp2 hb
    have n1 : pos < first := by rw [Int32.lt_iff_toInt_lt]; omega
    rw [if_pos n1]
def own_Q0 (n0 : Nat) (v : Option Value) (h : Heap) (L : List Loc) : Prop := v = some (.int 1) ∧ Fr n0 L
theorem pd_1 : parseMethodDescriptor "(JJ)J" = some ⟨[.long, .long], some .long⟩ := by decide +kernel
theorem pd_2 : parseMethodDescriptor "(III)V" = some ⟨[.int, .int, .int], none⟩ := by decide +kernel
theorem pd_3 : parseMethodDescriptor "(II)Z" = some ⟨[.int, .int], some .boolean⟩ := by decide +kernel
theorem pn_com_example_grantbook_grantbook_PositionsContainsPinLaw : plainName "com/example/grantbook/grantbook/PositionsContainsPinLaw" = true := by first | (simp [plainName, overriddenIn]; done) | decide +kernel
theorem ef_0 (m : MethodId) (p0 : Int32) (p1 : Int32) (p2 : Int32) (p3 : Int32) (p4 : Int32) (p5 : Int32) : entryFrame m #[(.int p0), (.int p1), (.int p2), (.int p3), (.int p4), (.int p5)] maxLocals = mkF m 0 #[.val (.int p0), .val (.int p1), .val (.int p2), .val (.int p3), .val (.int p4), .val (.int p5), .unset, .unset, .unset, .unset, .unset, .unset, .unset, .unset, .unset, .unset, .unset, .unset, .unset, .unset, .unset] [] := by first | (simp [entryFrame, mkF, argsToLocals, Value.category, maxLocals]; done) | rfl
set_option maxRecDepth 65536 in
set_option maxHeartbeats 40000000 in
theorem rm0 (l : Launch) (Z : State) (a0 : Array Value) (hw : ∀ d ∈ tables_1, d.before a0 Z = true) (ws : List Jvm.Cond) (p0 : Int32) (p1 : Int32) (p2 : Int32) (p3 : Int32) (p4 : Int32) (p5 : Int32) (h0 : Heap) (n0 : Nat) (Z0 : n0 ≤ h0.size)  :
    MetFree l x (head1 (Jvm.Cond.code x code maxLocals ret :: ws) room_1) (fun a U => a = #[(.int p0), (.int p1), (.int p2), (.int p3), (.int p4), (.int p5)] ∧ Z.Warmed39 U.vm ∧ U.heap = h0) (fun _ _ _ _ _ => True) (fun _ U o U' => ∃ v L, o = .returned v ∧ (own_Q0 n0) v U'.heap L ∧ FrameEnd U o U' L room_1.cells room_1.slots) := by
  refine MetFree.of_bodySF (plainFor_of_name pn_com_example_grantbook_grantbook_PositionsContainsPinLaw) hisR ?_
  intro p e s m args below meth c s₁ Bd hml0 hP hK
  obtain ⟨rfl, hZ, hh⟩ := hP
  have hx := Bd.exec
  have hby := Bd.bytes
  have hml : c.maxLocals = 21 := hml0
  have hown : s.vm.findClass "com/example/grantbook/grantbook/PositionsContainsPinLaw" = some m.cls := findClass_of_methodNamed Bd.named
  have hnm := (name_of_methodNamed Bd.named Bd.method).1
  have X0 : Stand p l e room_1 s m #[(.int p0), (.int p1), (.int p2), (.int p3), (.int p4), (.int p5)] below meth c s₁ [] 0 0 := Stand.of_body Bd
  have e0 : s₁.heap = h0 := by rw [← hh, Bd.state]; rfl
  have N0 := Fr.nil n0
  refine own_body (QQ := (own_Q0 n0)) (ef_0 m p0 p1 p2 p3 p4 p5) ?_
  refine own_via (s₁.setTop (mkF m 1 #[.val (.int p0), .val (.int p1), .val (.int p2), .val (.int p3), .val (.int p4), .val (.int p5), .unset, .unset, .unset, .unset, .unset, .unset, .unset, .unset, .unset, .unset, .unset, .unset, .unset, .unset, .unset] [(.int p0)])) (fun t k => XS.iloadN X0.here hx rfl (hb hby at_0) rfl  k) ?_
  refine own_via (s₁.setTop (mkF m 3 #[.val (.int p0), .val (.int p1), .val (.int p2), .val (.int p3), .val (.int p4), .val (.int p5), .unset, .unset, .unset, .unset, .unset, .unset, .unset, .unset, .unset, .unset, .unset, .unset, .unset, .unset, .unset] [(.int (268435455 : Int32)), (.int p0)])) (fun t k => X0.ldcInt hx hown (mvT hZ (hw _ (List.mem_of_getElem? (i := 0) rfl))) (g := (mkF m 1 #[.val (.int p0), .val (.int p1), .val (.int p2), .val (.int p3), .val (.int p4), .val (.int p5), .unset, .unset, .unset, .unset, .unset, .unset, .unset, .unset, .unset, .unset, .unset, .unset, .unset, .unset, .unset] [(.int p0)])) rfl (hb hby at_1) _ k) ?_
  refine own_via (s₁.setTop (mkF m 4 #[.val (.int p0), .val (.int p1), .val (.int p2), .val (.int p3), .val (.int p4), .val (.int p5), .unset, .unset, .unset, .unset, .unset, .unset, .unset, .unset, .unset, .unset, .unset, .unset, .unset, .unset, .unset] [(.int (p0 &&& (268435455 : Int32)))])) (fun t k => XS.iand X0.here hx rfl (hb hby at_3) rfl k) ?_
  obtain ⟨z56, hz56⟩ : ∃ z : Int32, z = (p0 &&& (268435455 : Int32)) := ⟨_, rfl⟩
  refine own_via (s₁.setTop (mkF m 6 #[.val (.int p0), .val (.int p1), .val (.int p2), .val (.int p3), .val (.int p4), .val (.int p5), .val (.int z56), .unset, .unset, .unset, .unset, .unset, .unset, .unset, .unset, .unset, .unset, .unset, .unset, .unset, .unset] [])) (fun t k => XS.istore X0.here hx rfl (hb hby at_4) rfl (l' := #[.val (.int p0), .val (.int p1), .val (.int p2), .val (.int p3), .val (.int p4), .val (.int p5), .val (.int z56), .unset, .unset, .unset, .unset, .unset, .unset, .unset, .unset, .unset, .unset, .unset, .unset, .unset, .unset]) (by rw [hz56]; rfl) k) ?_
  refine own_via (s₁.setTop (mkF m 7 #[.val (.int p0), .val (.int p1), .val (.int p2), .val (.int p3), .val (.int p4), .val (.int p5), .val (.int z56), .unset, .unset, .unset, .unset, .unset, .unset, .unset, .unset, .unset, .unset, .unset, .unset, .unset, .unset] [(.int p2)])) (fun t k => XS.iloadN X0.here hx rfl (hb hby at_6) rfl  k) ?_
  refine own_via (s₁.setTop (mkF m 8 #[.val (.int p0), .val (.int p1), .val (.int p2), .val (.int p3), .val (.int p4), .val (.int p5), .val (.int z56), .unset, .unset, .unset, .unset, .unset, .unset, .unset, .unset, .unset, .unset, .unset, .unset, .unset, .unset] [(.int (1 : Int32)), (.int p2)])) (fun t k => XS.iconst X0.here hx rfl (hb hby at_7) k) ?_
  refine own_via (s₁.setTop (mkF m 9 #[.val (.int p0), .val (.int p1), .val (.int p2), .val (.int p3), .val (.int p4), .val (.int p5), .val (.int z56), .unset, .unset, .unset, .unset, .unset, .unset, .unset, .unset, .unset, .unset, .unset, .unset, .unset, .unset] [(.int (p2 &&& (1 : Int32)))])) (fun t k => XS.iand X0.here hx rfl (hb hby at_8) rfl k) ?_
  obtain ⟨z57, hz57⟩ : ∃ z : Int32, z = (if (p2 &&& (1 : Int32)) = (0 : Int32) then (1 : Int32) else ((1 : Int32) + (((p2.toUInt32 >>> ((1 : Int32) &&& 31).toUInt32).toInt32) &&& (4095 : Int32)))) := ⟨_, rfl⟩
  refine own_via (s₁.setTop (mkF m 25 #[.val (.int p0), .val (.int p1), .val (.int p2), .val (.int p3), .val (.int p4), .val (.int p5), .val (.int z56), .unset, .unset, .unset, .unset, .unset, .unset, .unset, .unset, .unset, .unset, .unset, .unset, .unset, .unset] [(.int z57)])) (fun t k => ?_) ?_
  · skip
    by_cases hj9_58 : (p2 &&& (1 : Int32)) = (0 : Int32)
    · refine XS.ifNo X0.here hx rfl (hb hby at_9) rfl ((if0 _ _).trans (teq hj9_58).2) (?_ : Steps p.tables e below (s₁.setTop (mkF m 12 #[.val (.int p0), .val (.int p1), .val (.int p2), .val (.int p3), .val (.int p4), .val (.int p5), .val (.int z56), .unset, .unset, .unset, .unset, .unset, .unset, .unset, .unset, .unset, .unset, .unset, .unset, .unset, .unset] [])) t)
      refine XS.iconst X0.here hx rfl (hb hby at_12) (?_ : Steps p.tables e below (s₁.setTop (mkF m 13 #[.val (.int p0), .val (.int p1), .val (.int p2), .val (.int p3), .val (.int p4), .val (.int p5), .val (.int z56), .unset, .unset, .unset, .unset, .unset, .unset, .unset, .unset, .unset, .unset, .unset, .unset, .unset, .unset] [(.int (1 : Int32))])) t)
      refine XS.goto X0.here hx rfl (pc0 := 13) (pc' := 25) rfl (hb hby at_13) (by decide) (by decide) (?_ : Steps p.tables e below (s₁.setTop (mkF m 25 #[.val (.int p0), .val (.int p1), .val (.int p2), .val (.int p3), .val (.int p4), .val (.int p5), .val (.int z56), .unset, .unset, .unset, .unset, .unset, .unset, .unset, .unset, .unset, .unset, .unset, .unset, .unset, .unset] [(.int (1 : Int32))])) t)
      have q_z57 := (hz57.trans (if_pos hj9_58))
      subst q_z57
      exact k
    · refine XS.ifYes X0.here hx rfl (pc0 := 9) (pc' := 16) rfl (hb hby at_9) rfl ((if0 _ _).trans (feq hj9_58).2) (by decide) (by decide) (?_ : Steps p.tables e below (s₁.setTop (mkF m 16 #[.val (.int p0), .val (.int p1), .val (.int p2), .val (.int p3), .val (.int p4), .val (.int p5), .val (.int z56), .unset, .unset, .unset, .unset, .unset, .unset, .unset, .unset, .unset, .unset, .unset, .unset, .unset, .unset] [])) t)
      refine XS.iconst X0.here hx rfl (hb hby at_16) (?_ : Steps p.tables e below (s₁.setTop (mkF m 17 #[.val (.int p0), .val (.int p1), .val (.int p2), .val (.int p3), .val (.int p4), .val (.int p5), .val (.int z56), .unset, .unset, .unset, .unset, .unset, .unset, .unset, .unset, .unset, .unset, .unset, .unset, .unset, .unset] [(.int (1 : Int32))])) t)
      refine XS.iloadN X0.here hx rfl (hb hby at_17) rfl  (?_ : Steps p.tables e below (s₁.setTop (mkF m 18 #[.val (.int p0), .val (.int p1), .val (.int p2), .val (.int p3), .val (.int p4), .val (.int p5), .val (.int z56), .unset, .unset, .unset, .unset, .unset, .unset, .unset, .unset, .unset, .unset, .unset, .unset, .unset, .unset] [(.int p2), (.int (1 : Int32))])) t)
      refine XS.iconst X0.here hx rfl (hb hby at_18) (?_ : Steps p.tables e below (s₁.setTop (mkF m 19 #[.val (.int p0), .val (.int p1), .val (.int p2), .val (.int p3), .val (.int p4), .val (.int p5), .val (.int z56), .unset, .unset, .unset, .unset, .unset, .unset, .unset, .unset, .unset, .unset, .unset, .unset, .unset, .unset] [(.int (1 : Int32)), (.int p2), (.int (1 : Int32))])) t)
      refine XS.iushr X0.here hx rfl (hb hby at_19) rfl (?_ : Steps p.tables e below (s₁.setTop (mkF m 20 #[.val (.int p0), .val (.int p1), .val (.int p2), .val (.int p3), .val (.int p4), .val (.int p5), .val (.int z56), .unset, .unset, .unset, .unset, .unset, .unset, .unset, .unset, .unset, .unset, .unset, .unset, .unset, .unset] [(.int ((p2.toUInt32 >>> ((1 : Int32) &&& 31).toUInt32).toInt32)), (.int (1 : Int32))])) t)
      refine XS.sipush X0.here hx rfl (hb hby at_20) (?_ : Steps p.tables e below (s₁.setTop (mkF m 23 #[.val (.int p0), .val (.int p1), .val (.int p2), .val (.int p3), .val (.int p4), .val (.int p5), .val (.int z56), .unset, .unset, .unset, .unset, .unset, .unset, .unset, .unset, .unset, .unset, .unset, .unset, .unset, .unset] [(.int (4095 : Int32)), (.int ((p2.toUInt32 >>> ((1 : Int32) &&& 31).toUInt32).toInt32)), (.int (1 : Int32))])) t)
      refine XS.iand X0.here hx rfl (hb hby at_23) rfl (?_ : Steps p.tables e below (s₁.setTop (mkF m 24 #[.val (.int p0), .val (.int p1), .val (.int p2), .val (.int p3), .val (.int p4), .val (.int p5), .val (.int z56), .unset, .unset, .unset, .unset, .unset, .unset, .unset, .unset, .unset, .unset, .unset, .unset, .unset, .unset] [(.int (((p2.toUInt32 >>> ((1 : Int32) &&& 31).toUInt32).toInt32) &&& (4095 : Int32))), (.int (1 : Int32))])) t)
      refine XS.iadd X0.here hx rfl (hb hby at_24) rfl (?_ : Steps p.tables e below (s₁.setTop (mkF m 25 #[.val (.int p0), .val (.int p1), .val (.int p2), .val (.int p3), .val (.int p4), .val (.int p5), .val (.int z56), .unset, .unset, .unset, .unset, .unset, .unset, .unset, .unset, .unset, .unset, .unset, .unset, .unset, .unset] [(.int ((1 : Int32) + (((p2.toUInt32 >>> ((1 : Int32) &&& 31).toUInt32).toInt32) &&& (4095 : Int32))))])) t)
      have q_z57 := (hz57.trans (if_neg hj9_58))
      subst q_z57
      exact k
  refine own_via (s₁.setTop (mkF m 27 #[.val (.int p0), .val (.int p1), .val (.int p2), .val (.int p3), .val (.int p4), .val (.int p5), .val (.int z56), .val (.int z57), .unset, .unset, .unset, .unset, .unset, .unset, .unset, .unset, .unset, .unset, .unset, .unset, .unset] [])) (fun t k => XS.istore X0.here hx rfl (hb hby at_25) rfl (l' := #[.val (.int p0), .val (.int p1), .val (.int p2), .val (.int p3), .val (.int p4), .val (.int p5), .val (.int z56), .val (.int z57), .unset, .unset, .unset, .unset, .unset, .unset, .unset, .unset, .unset, .unset, .unset, .unset, .unset]) rfl k) ?_
  refine own_via (s₁.setTop (mkF m 28 #[.val (.int p0), .val (.int p1), .val (.int p2), .val (.int p3), .val (.int p4), .val (.int p5), .val (.int z56), .val (.int z57), .unset, .unset, .unset, .unset, .unset, .unset, .unset, .unset, .unset, .unset, .unset, .unset, .unset] [(.int p3)])) (fun t k => XS.iloadN X0.here hx rfl (hb hby at_27) rfl  k) ?_
  refine own_via (s₁.setTop (mkF m 30 #[.val (.int p0), .val (.int p1), .val (.int p2), .val (.int p3), .val (.int p4), .val (.int p5), .val (.int z56), .val (.int z57), .unset, .unset, .unset, .unset, .unset, .unset, .unset, .unset, .unset, .unset, .unset, .unset, .unset] [(.int (65536 : Int32)), (.int p3)])) (fun t k => X0.ldcInt hx hown (mvT hZ (hw _ (List.mem_of_getElem? (i := 1) rfl))) (g := (mkF m 28 #[.val (.int p0), .val (.int p1), .val (.int p2), .val (.int p3), .val (.int p4), .val (.int p5), .val (.int z56), .val (.int z57), .unset, .unset, .unset, .unset, .unset, .unset, .unset, .unset, .unset, .unset, .unset, .unset, .unset] [(.int p3)])) rfl (hb hby at_28) _ k) ?_
  refine own_via (s₁.setTop (mkF m 31 #[.val (.int p0), .val (.int p1), .val (.int p2), .val (.int p3), .val (.int p4), .val (.int p5), .val (.int z56), .val (.int z57), .unset, .unset, .unset, .unset, .unset, .unset, .unset, .unset, .unset, .unset, .unset, .unset, .unset] [(.int (p3 &&& (65536 : Int32)))])) (fun t k => XS.iand X0.here hx rfl (hb hby at_30) rfl k) ?_
  obtain ⟨z59, hz59⟩ : ∃ z : Int32, z = (if (p3 &&& (65536 : Int32)) = (0 : Int32) then (0 : Int32) else (1 : Int32)) := ⟨_, rfl⟩
  refine own_via (s₁.setTop (mkF m 39 #[.val (.int p0), .val (.int p1), .val (.int p2), .val (.int p3), .val (.int p4), .val (.int p5), .val (.int z56), .val (.int z57), .unset, .unset, .unset, .unset, .unset, .unset, .unset, .unset, .unset, .unset, .unset, .unset, .unset] [(.int z59)])) (fun t k => ?_) ?_
  · skip
    by_cases hj31_60 : (p3 &&& (65536 : Int32)) = (0 : Int32)
    · refine XS.ifYes X0.here hx rfl (pc0 := 31) (pc' := 38) rfl (hb hby at_31) rfl ((if0 _ _).trans (teq hj31_60).1) (by decide) (by decide) (?_ : Steps p.tables e below (s₁.setTop (mkF m 38 #[.val (.int p0), .val (.int p1), .val (.int p2), .val (.int p3), .val (.int p4), .val (.int p5), .val (.int z56), .val (.int z57), .unset, .unset, .unset, .unset, .unset, .unset, .unset, .unset, .unset, .unset, .unset, .unset, .unset] [])) t)
      refine XS.iconst X0.here hx rfl (hb hby at_38) (?_ : Steps p.tables e below (s₁.setTop (mkF m 39 #[.val (.int p0), .val (.int p1), .val (.int p2), .val (.int p3), .val (.int p4), .val (.int p5), .val (.int z56), .val (.int z57), .unset, .unset, .unset, .unset, .unset, .unset, .unset, .unset, .unset, .unset, .unset, .unset, .unset] [(.int (0 : Int32))])) t)
      have q_z59 := (hz59.trans (if_pos hj31_60))
      subst q_z59
      exact k
    · refine XS.ifNo X0.here hx rfl (hb hby at_31) rfl ((if0 _ _).trans (feq hj31_60).1) (?_ : Steps p.tables e below (s₁.setTop (mkF m 34 #[.val (.int p0), .val (.int p1), .val (.int p2), .val (.int p3), .val (.int p4), .val (.int p5), .val (.int z56), .val (.int z57), .unset, .unset, .unset, .unset, .unset, .unset, .unset, .unset, .unset, .unset, .unset, .unset, .unset] [])) t)
      refine XS.iconst X0.here hx rfl (hb hby at_34) (?_ : Steps p.tables e below (s₁.setTop (mkF m 35 #[.val (.int p0), .val (.int p1), .val (.int p2), .val (.int p3), .val (.int p4), .val (.int p5), .val (.int z56), .val (.int z57), .unset, .unset, .unset, .unset, .unset, .unset, .unset, .unset, .unset, .unset, .unset, .unset, .unset] [(.int (1 : Int32))])) t)
      refine XS.goto X0.here hx rfl (pc0 := 35) (pc' := 39) rfl (hb hby at_35) (by decide) (by decide) (?_ : Steps p.tables e below (s₁.setTop (mkF m 39 #[.val (.int p0), .val (.int p1), .val (.int p2), .val (.int p3), .val (.int p4), .val (.int p5), .val (.int z56), .val (.int z57), .unset, .unset, .unset, .unset, .unset, .unset, .unset, .unset, .unset, .unset, .unset, .unset, .unset] [(.int (1 : Int32))])) t)
      have q_z59 := (hz59.trans (if_neg hj31_60))
      subst q_z59
      exact k
  refine own_via (s₁.setTop (mkF m 41 #[.val (.int p0), .val (.int p1), .val (.int p2), .val (.int p3), .val (.int p4), .val (.int p5), .val (.int z56), .val (.int z57), .val (.int z59), .unset, .unset, .unset, .unset, .unset, .unset, .unset, .unset, .unset, .unset, .unset, .unset] [])) (fun t k => XS.istore X0.here hx rfl (hb hby at_39) rfl (l' := #[.val (.int p0), .val (.int p1), .val (.int p2), .val (.int p3), .val (.int p4), .val (.int p5), .val (.int z56), .val (.int z57), .val (.int z59), .unset, .unset, .unset, .unset, .unset, .unset, .unset, .unset, .unset, .unset, .unset, .unset]) rfl k) ?_
  refine own_via (s₁.setTop (mkF m 42 #[.val (.int p0), .val (.int p1), .val (.int p2), .val (.int p3), .val (.int p4), .val (.int p5), .val (.int z56), .val (.int z57), .val (.int z59), .unset, .unset, .unset, .unset, .unset, .unset, .unset, .unset, .unset, .unset, .unset, .unset] [(.int p3)])) (fun t k => XS.iloadN X0.here hx rfl (hb hby at_41) rfl  k) ?_
  refine own_via (s₁.setTop (mkF m 44 #[.val (.int p0), .val (.int p1), .val (.int p2), .val (.int p3), .val (.int p4), .val (.int p5), .val (.int z56), .val (.int z57), .val (.int z59), .unset, .unset, .unset, .unset, .unset, .unset, .unset, .unset, .unset, .unset, .unset, .unset] [(.int (65535 : Int32)), (.int p3)])) (fun t k => X0.ldcInt hx hown (mvT hZ (hw _ (List.mem_of_getElem? (i := 2) rfl))) (g := (mkF m 42 #[.val (.int p0), .val (.int p1), .val (.int p2), .val (.int p3), .val (.int p4), .val (.int p5), .val (.int z56), .val (.int z57), .val (.int z59), .unset, .unset, .unset, .unset, .unset, .unset, .unset, .unset, .unset, .unset, .unset, .unset] [(.int p3)])) rfl (hb hby at_42) _ k) ?_
  refine own_via (s₁.setTop (mkF m 45 #[.val (.int p0), .val (.int p1), .val (.int p2), .val (.int p3), .val (.int p4), .val (.int p5), .val (.int z56), .val (.int z57), .val (.int z59), .unset, .unset, .unset, .unset, .unset, .unset, .unset, .unset, .unset, .unset, .unset, .unset] [(.int (p3 &&& (65535 : Int32)))])) (fun t k => XS.iand X0.here hx rfl (hb hby at_44) rfl k) ?_
  obtain ⟨z61, hz61⟩ : ∃ z : Int32, z = (p3 &&& (65535 : Int32)) := ⟨_, rfl⟩
  refine own_via (s₁.setTop (mkF m 47 #[.val (.int p0), .val (.int p1), .val (.int p2), .val (.int p3), .val (.int p4), .val (.int p5), .val (.int z56), .val (.int z57), .val (.int z59), .val (.int z61), .unset, .unset, .unset, .unset, .unset, .unset, .unset, .unset, .unset, .unset, .unset] [])) (fun t k => XS.istore X0.here hx rfl (hb hby at_45) rfl (l' := #[.val (.int p0), .val (.int p1), .val (.int p2), .val (.int p3), .val (.int p4), .val (.int p5), .val (.int z56), .val (.int z57), .val (.int z59), .val (.int z61), .unset, .unset, .unset, .unset, .unset, .unset, .unset, .unset, .unset, .unset, .unset]) (by rw [hz61]; rfl) k) ?_
  refine own_via (s₁.setTop (mkF m 49 #[.val (.int p0), .val (.int p1), .val (.int p2), .val (.int p3), .val (.int p4), .val (.int p5), .val (.int z56), .val (.int z57), .val (.int z59), .val (.int z61), .unset, .unset, .unset, .unset, .unset, .unset, .unset, .unset, .unset, .unset, .unset] [(.int z59)])) (fun t k => XS.iload X0.here hx rfl (hb hby at_47) rfl  k) ?_
  obtain ⟨z62, hz62⟩ : ∃ z : Int32, z = (if z59 = (0 : Int32) then ((z56 + (z61 * z57)) + ((p4 &&& (2147483647 : Int32)) % z57)) else ((z56 - (1 : Int32)) - (p4 &&& (2147483647 : Int32)))) := ⟨_, rfl⟩
  obtain ⟨z63, hz63⟩ : ∃ z : Int32, z = (if z59 = (0 : Int32) then ((p4 &&& (2147483647 : Int32)) % z57) else (0 : Int32)) := ⟨_, rfl⟩
  refine own_via (s₁.setTop (mkF m 93 #[.val (.int p0), .val (.int p1), .val (.int p2), .val (.int p3), .val (.int p4), .val (.int p5), .val (.int z56), .val (.int z57), .val (.int z59), .val (.int z61), .val (.int z62), .val (.int z63), .unset, .unset, .unset, .unset, .unset, .unset, .unset, .unset, .unset] [])) (fun t k => ?_) ?_
  · skip
    by_cases hj49_64 : z59 = (0 : Int32)
    · refine XS.ifYes X0.here hx rfl (pc0 := 49) (pc' := 70) rfl (hb hby at_49) rfl ((if0 _ _).trans (teq hj49_64).1) (by decide) (by decide) (?_ : Steps p.tables e below (s₁.setTop (mkF m 70 #[.val (.int p0), .val (.int p1), .val (.int p2), .val (.int p3), .val (.int p4), .val (.int p5), .val (.int z56), .val (.int z57), .val (.int z59), .val (.int z61), .unset, .unset, .unset, .unset, .unset, .unset, .unset, .unset, .unset, .unset, .unset] [])) t)
      refine XS.iload X0.here hx rfl (hb hby at_70) rfl  (?_ : Steps p.tables e below (s₁.setTop (mkF m 72 #[.val (.int p0), .val (.int p1), .val (.int p2), .val (.int p3), .val (.int p4), .val (.int p5), .val (.int z56), .val (.int z57), .val (.int z59), .val (.int z61), .unset, .unset, .unset, .unset, .unset, .unset, .unset, .unset, .unset, .unset, .unset] [(.int p4)])) t)
      refine X0.ldcInt hx hown (mvT hZ (hw _ (List.mem_of_getElem? (i := 3) rfl))) (g := (mkF m 72 #[.val (.int p0), .val (.int p1), .val (.int p2), .val (.int p3), .val (.int p4), .val (.int p5), .val (.int z56), .val (.int z57), .val (.int z59), .val (.int z61), .unset, .unset, .unset, .unset, .unset, .unset, .unset, .unset, .unset, .unset, .unset] [(.int p4)])) rfl (hb hby at_72) _ (?_ : Steps p.tables e below (s₁.setTop (mkF m 74 #[.val (.int p0), .val (.int p1), .val (.int p2), .val (.int p3), .val (.int p4), .val (.int p5), .val (.int z56), .val (.int z57), .val (.int z59), .val (.int z61), .unset, .unset, .unset, .unset, .unset, .unset, .unset, .unset, .unset, .unset, .unset] [(.int (2147483647 : Int32)), (.int p4)])) t)
      refine XS.iand X0.here hx rfl (hb hby at_74) rfl (?_ : Steps p.tables e below (s₁.setTop (mkF m 75 #[.val (.int p0), .val (.int p1), .val (.int p2), .val (.int p3), .val (.int p4), .val (.int p5), .val (.int z56), .val (.int z57), .val (.int z59), .val (.int z61), .unset, .unset, .unset, .unset, .unset, .unset, .unset, .unset, .unset, .unset, .unset] [(.int (p4 &&& (2147483647 : Int32)))])) t)
      refine XS.iload X0.here hx rfl (hb hby at_75) rfl  (?_ : Steps p.tables e below (s₁.setTop (mkF m 77 #[.val (.int p0), .val (.int p1), .val (.int p2), .val (.int p3), .val (.int p4), .val (.int p5), .val (.int z56), .val (.int z57), .val (.int z59), .val (.int z61), .unset, .unset, .unset, .unset, .unset, .unset, .unset, .unset, .unset, .unset, .unset] [(.int z57), (.int (p4 &&& (2147483647 : Int32)))])) t)
      refine Jvm.RoadKit.iremM X0 hx rfl (hb hby at_77) rfl (own_nz hz57) (?_ : Steps p.tables e below (s₁.setTop (mkF m 78 #[.val (.int p0), .val (.int p1), .val (.int p2), .val (.int p3), .val (.int p4), .val (.int p5), .val (.int z56), .val (.int z57), .val (.int z59), .val (.int z61), .unset, .unset, .unset, .unset, .unset, .unset, .unset, .unset, .unset, .unset, .unset] [(.int ((p4 &&& (2147483647 : Int32)) % z57))])) t)
      refine XS.istore X0.here hx rfl (hb hby at_78) rfl (l' := #[.val (.int p0), .val (.int p1), .val (.int p2), .val (.int p3), .val (.int p4), .val (.int p5), .val (.int z56), .val (.int z57), .val (.int z59), .val (.int z61), .unset, .val (.int ((p4 &&& (2147483647 : Int32)) % z57)), .unset, .unset, .unset, .unset, .unset, .unset, .unset, .unset, .unset]) rfl (?_ : Steps p.tables e below (s₁.setTop (mkF m 80 #[.val (.int p0), .val (.int p1), .val (.int p2), .val (.int p3), .val (.int p4), .val (.int p5), .val (.int z56), .val (.int z57), .val (.int z59), .val (.int z61), .unset, .val (.int ((p4 &&& (2147483647 : Int32)) % z57)), .unset, .unset, .unset, .unset, .unset, .unset, .unset, .unset, .unset] [])) t)
      refine XS.iload X0.here hx rfl (hb hby at_80) rfl  (?_ : Steps p.tables e below (s₁.setTop (mkF m 82 #[.val (.int p0), .val (.int p1), .val (.int p2), .val (.int p3), .val (.int p4), .val (.int p5), .val (.int z56), .val (.int z57), .val (.int z59), .val (.int z61), .unset, .val (.int ((p4 &&& (2147483647 : Int32)) % z57)), .unset, .unset, .unset, .unset, .unset, .unset, .unset, .unset, .unset] [(.int z56)])) t)
      refine XS.iload X0.here hx rfl (hb hby at_82) rfl  (?_ : Steps p.tables e below (s₁.setTop (mkF m 84 #[.val (.int p0), .val (.int p1), .val (.int p2), .val (.int p3), .val (.int p4), .val (.int p5), .val (.int z56), .val (.int z57), .val (.int z59), .val (.int z61), .unset, .val (.int ((p4 &&& (2147483647 : Int32)) % z57)), .unset, .unset, .unset, .unset, .unset, .unset, .unset, .unset, .unset] [(.int z61), (.int z56)])) t)
      refine XS.iload X0.here hx rfl (hb hby at_84) rfl  (?_ : Steps p.tables e below (s₁.setTop (mkF m 86 #[.val (.int p0), .val (.int p1), .val (.int p2), .val (.int p3), .val (.int p4), .val (.int p5), .val (.int z56), .val (.int z57), .val (.int z59), .val (.int z61), .unset, .val (.int ((p4 &&& (2147483647 : Int32)) % z57)), .unset, .unset, .unset, .unset, .unset, .unset, .unset, .unset, .unset] [(.int z57), (.int z61), (.int z56)])) t)
      refine XS.imul X0.here hx rfl (hb hby at_86) rfl (?_ : Steps p.tables e below (s₁.setTop (mkF m 87 #[.val (.int p0), .val (.int p1), .val (.int p2), .val (.int p3), .val (.int p4), .val (.int p5), .val (.int z56), .val (.int z57), .val (.int z59), .val (.int z61), .unset, .val (.int ((p4 &&& (2147483647 : Int32)) % z57)), .unset, .unset, .unset, .unset, .unset, .unset, .unset, .unset, .unset] [(.int (z61 * z57)), (.int z56)])) t)
      refine XS.iadd X0.here hx rfl (hb hby at_87) rfl (?_ : Steps p.tables e below (s₁.setTop (mkF m 88 #[.val (.int p0), .val (.int p1), .val (.int p2), .val (.int p3), .val (.int p4), .val (.int p5), .val (.int z56), .val (.int z57), .val (.int z59), .val (.int z61), .unset, .val (.int ((p4 &&& (2147483647 : Int32)) % z57)), .unset, .unset, .unset, .unset, .unset, .unset, .unset, .unset, .unset] [(.int (z56 + (z61 * z57)))])) t)
      refine XS.iload X0.here hx rfl (hb hby at_88) rfl  (?_ : Steps p.tables e below (s₁.setTop (mkF m 90 #[.val (.int p0), .val (.int p1), .val (.int p2), .val (.int p3), .val (.int p4), .val (.int p5), .val (.int z56), .val (.int z57), .val (.int z59), .val (.int z61), .unset, .val (.int ((p4 &&& (2147483647 : Int32)) % z57)), .unset, .unset, .unset, .unset, .unset, .unset, .unset, .unset, .unset] [(.int ((p4 &&& (2147483647 : Int32)) % z57)), (.int (z56 + (z61 * z57)))])) t)
      refine XS.iadd X0.here hx rfl (hb hby at_90) rfl (?_ : Steps p.tables e below (s₁.setTop (mkF m 91 #[.val (.int p0), .val (.int p1), .val (.int p2), .val (.int p3), .val (.int p4), .val (.int p5), .val (.int z56), .val (.int z57), .val (.int z59), .val (.int z61), .unset, .val (.int ((p4 &&& (2147483647 : Int32)) % z57)), .unset, .unset, .unset, .unset, .unset, .unset, .unset, .unset, .unset] [(.int ((z56 + (z61 * z57)) + ((p4 &&& (2147483647 : Int32)) % z57)))])) t)
      refine XS.istore X0.here hx rfl (hb hby at_91) rfl (l' := #[.val (.int p0), .val (.int p1), .val (.int p2), .val (.int p3), .val (.int p4), .val (.int p5), .val (.int z56), .val (.int z57), .val (.int z59), .val (.int z61), .val (.int ((z56 + (z61 * z57)) + ((p4 &&& (2147483647 : Int32)) % z57))), .val (.int ((p4 &&& (2147483647 : Int32)) % z57)), .unset, .unset, .unset, .unset, .unset, .unset, .unset, .unset, .unset]) rfl (?_ : Steps p.tables e below (s₁.setTop (mkF m 93 #[.val (.int p0), .val (.int p1), .val (.int p2), .val (.int p3), .val (.int p4), .val (.int p5), .val (.int z56), .val (.int z57), .val (.int z59), .val (.int z61), .val (.int ((z56 + (z61 * z57)) + ((p4 &&& (2147483647 : Int32)) % z57))), .val (.int ((p4 &&& (2147483647 : Int32)) % z57)), .unset, .unset, .unset, .unset, .unset, .unset, .unset, .unset, .unset] [])) t)
      have q_z62 := (hz62.trans (if_pos hj49_64))
      subst q_z62
      have q_z63 := (hz63.trans (if_pos hj49_64))
      subst q_z63
      exact k
    · refine XS.ifNo X0.here hx rfl (hb hby at_49) rfl ((if0 _ _).trans (feq hj49_64).1) (?_ : Steps p.tables e below (s₁.setTop (mkF m 52 #[.val (.int p0), .val (.int p1), .val (.int p2), .val (.int p3), .val (.int p4), .val (.int p5), .val (.int z56), .val (.int z57), .val (.int z59), .val (.int z61), .unset, .unset, .unset, .unset, .unset, .unset, .unset, .unset, .unset, .unset, .unset] [])) t)
      refine XS.iload X0.here hx rfl (hb hby at_52) rfl  (?_ : Steps p.tables e below (s₁.setTop (mkF m 54 #[.val (.int p0), .val (.int p1), .val (.int p2), .val (.int p3), .val (.int p4), .val (.int p5), .val (.int z56), .val (.int z57), .val (.int z59), .val (.int z61), .unset, .unset, .unset, .unset, .unset, .unset, .unset, .unset, .unset, .unset, .unset] [(.int z56)])) t)
      refine XS.iconst X0.here hx rfl (hb hby at_54) (?_ : Steps p.tables e below (s₁.setTop (mkF m 55 #[.val (.int p0), .val (.int p1), .val (.int p2), .val (.int p3), .val (.int p4), .val (.int p5), .val (.int z56), .val (.int z57), .val (.int z59), .val (.int z61), .unset, .unset, .unset, .unset, .unset, .unset, .unset, .unset, .unset, .unset, .unset] [(.int (1 : Int32)), (.int z56)])) t)
      refine XS.isub X0.here hx rfl (hb hby at_55) rfl (?_ : Steps p.tables e below (s₁.setTop (mkF m 56 #[.val (.int p0), .val (.int p1), .val (.int p2), .val (.int p3), .val (.int p4), .val (.int p5), .val (.int z56), .val (.int z57), .val (.int z59), .val (.int z61), .unset, .unset, .unset, .unset, .unset, .unset, .unset, .unset, .unset, .unset, .unset] [(.int (z56 - (1 : Int32)))])) t)
      refine XS.iload X0.here hx rfl (hb hby at_56) rfl  (?_ : Steps p.tables e below (s₁.setTop (mkF m 58 #[.val (.int p0), .val (.int p1), .val (.int p2), .val (.int p3), .val (.int p4), .val (.int p5), .val (.int z56), .val (.int z57), .val (.int z59), .val (.int z61), .unset, .unset, .unset, .unset, .unset, .unset, .unset, .unset, .unset, .unset, .unset] [(.int p4), (.int (z56 - (1 : Int32)))])) t)
      refine X0.ldcInt hx hown (mvT hZ (hw _ (List.mem_of_getElem? (i := 3) rfl))) (g := (mkF m 58 #[.val (.int p0), .val (.int p1), .val (.int p2), .val (.int p3), .val (.int p4), .val (.int p5), .val (.int z56), .val (.int z57), .val (.int z59), .val (.int z61), .unset, .unset, .unset, .unset, .unset, .unset, .unset, .unset, .unset, .unset, .unset] [(.int p4), (.int (z56 - (1 : Int32)))])) rfl (hb hby at_58) _ (?_ : Steps p.tables e below (s₁.setTop (mkF m 60 #[.val (.int p0), .val (.int p1), .val (.int p2), .val (.int p3), .val (.int p4), .val (.int p5), .val (.int z56), .val (.int z57), .val (.int z59), .val (.int z61), .unset, .unset, .unset, .unset, .unset, .unset, .unset, .unset, .unset, .unset, .unset] [(.int (2147483647 : Int32)), (.int p4), (.int (z56 - (1 : Int32)))])) t)
      refine XS.iand X0.here hx rfl (hb hby at_60) rfl (?_ : Steps p.tables e below (s₁.setTop (mkF m 61 #[.val (.int p0), .val (.int p1), .val (.int p2), .val (.int p3), .val (.int p4), .val (.int p5), .val (.int z56), .val (.int z57), .val (.int z59), .val (.int z61), .unset, .unset, .unset, .unset, .unset, .unset, .unset, .unset, .unset, .unset, .unset] [(.int (p4 &&& (2147483647 : Int32))), (.int (z56 - (1 : Int32)))])) t)
      refine XS.isub X0.here hx rfl (hb hby at_61) rfl (?_ : Steps p.tables e below (s₁.setTop (mkF m 62 #[.val (.int p0), .val (.int p1), .val (.int p2), .val (.int p3), .val (.int p4), .val (.int p5), .val (.int z56), .val (.int z57), .val (.int z59), .val (.int z61), .unset, .unset, .unset, .unset, .unset, .unset, .unset, .unset, .unset, .unset, .unset] [(.int ((z56 - (1 : Int32)) - (p4 &&& (2147483647 : Int32))))])) t)
      refine XS.istore X0.here hx rfl (hb hby at_62) rfl (l' := #[.val (.int p0), .val (.int p1), .val (.int p2), .val (.int p3), .val (.int p4), .val (.int p5), .val (.int z56), .val (.int z57), .val (.int z59), .val (.int z61), .val (.int ((z56 - (1 : Int32)) - (p4 &&& (2147483647 : Int32)))), .unset, .unset, .unset, .unset, .unset, .unset, .unset, .unset, .unset, .unset]) rfl (?_ : Steps p.tables e below (s₁.setTop (mkF m 64 #[.val (.int p0), .val (.int p1), .val (.int p2), .val (.int p3), .val (.int p4), .val (.int p5), .val (.int z56), .val (.int z57), .val (.int z59), .val (.int z61), .val (.int ((z56 - (1 : Int32)) - (p4 &&& (2147483647 : Int32)))), .unset, .unset, .unset, .unset, .unset, .unset, .unset, .unset, .unset, .unset] [])) t)
      refine XS.iconst X0.here hx rfl (hb hby at_64) (?_ : Steps p.tables e below (s₁.setTop (mkF m 65 #[.val (.int p0), .val (.int p1), .val (.int p2), .val (.int p3), .val (.int p4), .val (.int p5), .val (.int z56), .val (.int z57), .val (.int z59), .val (.int z61), .val (.int ((z56 - (1 : Int32)) - (p4 &&& (2147483647 : Int32)))), .unset, .unset, .unset, .unset, .unset, .unset, .unset, .unset, .unset, .unset] [(.int (0 : Int32))])) t)
      refine XS.istore X0.here hx rfl (hb hby at_65) rfl (l' := #[.val (.int p0), .val (.int p1), .val (.int p2), .val (.int p3), .val (.int p4), .val (.int p5), .val (.int z56), .val (.int z57), .val (.int z59), .val (.int z61), .val (.int ((z56 - (1 : Int32)) - (p4 &&& (2147483647 : Int32)))), .val (.int (0 : Int32)), .unset, .unset, .unset, .unset, .unset, .unset, .unset, .unset, .unset]) rfl (?_ : Steps p.tables e below (s₁.setTop (mkF m 67 #[.val (.int p0), .val (.int p1), .val (.int p2), .val (.int p3), .val (.int p4), .val (.int p5), .val (.int z56), .val (.int z57), .val (.int z59), .val (.int z61), .val (.int ((z56 - (1 : Int32)) - (p4 &&& (2147483647 : Int32)))), .val (.int (0 : Int32)), .unset, .unset, .unset, .unset, .unset, .unset, .unset, .unset, .unset] [])) t)
      refine XS.goto X0.here hx rfl (pc0 := 67) (pc' := 93) rfl (hb hby at_67) (by decide) (by decide) (?_ : Steps p.tables e below (s₁.setTop (mkF m 93 #[.val (.int p0), .val (.int p1), .val (.int p2), .val (.int p3), .val (.int p4), .val (.int p5), .val (.int z56), .val (.int z57), .val (.int z59), .val (.int z61), .val (.int ((z56 - (1 : Int32)) - (p4 &&& (2147483647 : Int32)))), .val (.int (0 : Int32)), .unset, .unset, .unset, .unset, .unset, .unset, .unset, .unset, .unset] [])) t)
      have q_z62 := (hz62.trans (if_neg hj49_64))
      subst q_z62
      have q_z63 := (hz63.trans (if_neg hj49_64))
      subst q_z63
      exact k
  refine own_via (s₁.setTop (mkF m 94 #[.val (.int p0), .val (.int p1), .val (.int p2), .val (.int p3), .val (.int p4), .val (.int p5), .val (.int z56), .val (.int z57), .val (.int z59), .val (.int z61), .val (.int z62), .val (.int z63), .unset, .unset, .unset, .unset, .unset, .unset, .unset, .unset, .unset] [(.int p1)])) (fun t k => XS.iloadN X0.here hx rfl (hb hby at_93) rfl  k) ?_
  refine own_via (s₁.setTop (mkF m 95 #[.val (.int p0), .val (.int p1), .val (.int p2), .val (.int p3), .val (.int p4), .val (.int p5), .val (.int z56), .val (.int z57), .val (.int z59), .val (.int z61), .val (.int z62), .val (.int z63), .unset, .unset, .unset, .unset, .unset, .unset, .unset, .unset, .unset] [(.int (1 : Int32)), (.int p1)])) (fun t k => XS.iconst X0.here hx rfl (hb hby at_94) k) ?_
  refine own_via (s₁.setTop (mkF m 96 #[.val (.int p0), .val (.int p1), .val (.int p2), .val (.int p3), .val (.int p4), .val (.int p5), .val (.int z56), .val (.int z57), .val (.int z59), .val (.int z61), .val (.int z62), .val (.int z63), .unset, .unset, .unset, .unset, .unset, .unset, .unset, .unset, .unset] [(.int (p1 &&& (1 : Int32)))])) (fun t k => XS.iand X0.here hx rfl (hb hby at_95) rfl k) ?_
  obtain ⟨z65, hz65⟩ : ∃ z : Int32, z = (if (p1 &&& (1 : Int32)) = (0 : Int32) then (0 : Int32) else (1 : Int32)) := ⟨_, rfl⟩
  refine own_via (s₁.setTop (mkF m 104 #[.val (.int p0), .val (.int p1), .val (.int p2), .val (.int p3), .val (.int p4), .val (.int p5), .val (.int z56), .val (.int z57), .val (.int z59), .val (.int z61), .val (.int z62), .val (.int z63), .unset, .unset, .unset, .unset, .unset, .unset, .unset, .unset, .unset] [(.int z65)])) (fun t k => ?_) ?_
  · skip
    by_cases hj96_66 : (p1 &&& (1 : Int32)) = (0 : Int32)
    · refine XS.ifYes X0.here hx rfl (pc0 := 96) (pc' := 103) rfl (hb hby at_96) rfl ((if0 _ _).trans (teq hj96_66).1) (by decide) (by decide) (?_ : Steps p.tables e below (s₁.setTop (mkF m 103 #[.val (.int p0), .val (.int p1), .val (.int p2), .val (.int p3), .val (.int p4), .val (.int p5), .val (.int z56), .val (.int z57), .val (.int z59), .val (.int z61), .val (.int z62), .val (.int z63), .unset, .unset, .unset, .unset, .unset, .unset, .unset, .unset, .unset] [])) t)
      refine XS.iconst X0.here hx rfl (hb hby at_103) (?_ : Steps p.tables e below (s₁.setTop (mkF m 104 #[.val (.int p0), .val (.int p1), .val (.int p2), .val (.int p3), .val (.int p4), .val (.int p5), .val (.int z56), .val (.int z57), .val (.int z59), .val (.int z61), .val (.int z62), .val (.int z63), .unset, .unset, .unset, .unset, .unset, .unset, .unset, .unset, .unset] [(.int (0 : Int32))])) t)
      have q_z65 := (hz65.trans (if_pos hj96_66))
      subst q_z65
      exact k
    · refine XS.ifNo X0.here hx rfl (hb hby at_96) rfl ((if0 _ _).trans (feq hj96_66).1) (?_ : Steps p.tables e below (s₁.setTop (mkF m 99 #[.val (.int p0), .val (.int p1), .val (.int p2), .val (.int p3), .val (.int p4), .val (.int p5), .val (.int z56), .val (.int z57), .val (.int z59), .val (.int z61), .val (.int z62), .val (.int z63), .unset, .unset, .unset, .unset, .unset, .unset, .unset, .unset, .unset] [])) t)
      refine XS.iconst X0.here hx rfl (hb hby at_99) (?_ : Steps p.tables e below (s₁.setTop (mkF m 100 #[.val (.int p0), .val (.int p1), .val (.int p2), .val (.int p3), .val (.int p4), .val (.int p5), .val (.int z56), .val (.int z57), .val (.int z59), .val (.int z61), .val (.int z62), .val (.int z63), .unset, .unset, .unset, .unset, .unset, .unset, .unset, .unset, .unset] [(.int (1 : Int32))])) t)
      refine XS.goto X0.here hx rfl (pc0 := 100) (pc' := 104) rfl (hb hby at_100) (by decide) (by decide) (?_ : Steps p.tables e below (s₁.setTop (mkF m 104 #[.val (.int p0), .val (.int p1), .val (.int p2), .val (.int p3), .val (.int p4), .val (.int p5), .val (.int z56), .val (.int z57), .val (.int z59), .val (.int z61), .val (.int z62), .val (.int z63), .unset, .unset, .unset, .unset, .unset, .unset, .unset, .unset, .unset] [(.int (1 : Int32))])) t)
      have q_z65 := (hz65.trans (if_neg hj96_66))
      subst q_z65
      exact k
  refine own_via (s₁.setTop (mkF m 106 #[.val (.int p0), .val (.int p1), .val (.int p2), .val (.int p3), .val (.int p4), .val (.int p5), .val (.int z56), .val (.int z57), .val (.int z59), .val (.int z61), .val (.int z62), .val (.int z63), .val (.int z65), .unset, .unset, .unset, .unset, .unset, .unset, .unset, .unset] [])) (fun t k => XS.istore X0.here hx rfl (hb hby at_104) rfl (l' := #[.val (.int p0), .val (.int p1), .val (.int p2), .val (.int p3), .val (.int p4), .val (.int p5), .val (.int z56), .val (.int z57), .val (.int z59), .val (.int z61), .val (.int z62), .val (.int z63), .val (.int z65), .unset, .unset, .unset, .unset, .unset, .unset, .unset, .unset]) rfl k) ?_
  refine own_via (s₁.setTop (mkF m 108 #[.val (.int p0), .val (.int p1), .val (.int p2), .val (.int p3), .val (.int p4), .val (.int p5), .val (.int z56), .val (.int z57), .val (.int z59), .val (.int z61), .val (.int z62), .val (.int z63), .val (.int z65), .unset, .unset, .unset, .unset, .unset, .unset, .unset, .unset] [(.int z65)])) (fun t k => XS.iload X0.here hx rfl (hb hby at_106) rfl  k) ?_
  obtain ⟨z67, hz67⟩ : ∃ z : Int64, z = (if z65 = (0 : Int32) then (0 : Int64) else (-1 : Int64)) := ⟨_, rfl⟩
  refine own_via (s₁.setTop (mkF m 118 #[.val (.int p0), .val (.int p1), .val (.int p2), .val (.int p3), .val (.int p4), .val (.int p5), .val (.int z56), .val (.int z57), .val (.int z59), .val (.int z61), .val (.int z62), .val (.int z63), .val (.int z65), .unset, .unset, .unset, .unset, .unset, .unset, .unset, .unset] [(.long z67)])) (fun t k => ?_) ?_
  · skip
    by_cases hj108_68 : z65 = (0 : Int32)
    · refine XS.ifYes X0.here hx rfl (pc0 := 108) (pc' := 117) rfl (hb hby at_108) rfl ((if0 _ _).trans (teq hj108_68).1) (by decide) (by decide) (?_ : Steps p.tables e below (s₁.setTop (mkF m 117 #[.val (.int p0), .val (.int p1), .val (.int p2), .val (.int p3), .val (.int p4), .val (.int p5), .val (.int z56), .val (.int z57), .val (.int z59), .val (.int z61), .val (.int z62), .val (.int z63), .val (.int z65), .unset, .unset, .unset, .unset, .unset, .unset, .unset, .unset] [])) t)
      refine XS.lconst X0.here hx rfl (hb hby at_117) (?_ : Steps p.tables e below (s₁.setTop (mkF m 118 #[.val (.int p0), .val (.int p1), .val (.int p2), .val (.int p3), .val (.int p4), .val (.int p5), .val (.int z56), .val (.int z57), .val (.int z59), .val (.int z61), .val (.int z62), .val (.int z63), .val (.int z65), .unset, .unset, .unset, .unset, .unset, .unset, .unset, .unset] [(.long (0 : Int64))])) t)
      have q_z67 := (hz67.trans (if_pos hj108_68))
      subst q_z67
      exact k
    · refine XS.ifNo X0.here hx rfl (hb hby at_108) rfl ((if0 _ _).trans (feq hj108_68).1) (?_ : Steps p.tables e below (s₁.setTop (mkF m 111 #[.val (.int p0), .val (.int p1), .val (.int p2), .val (.int p3), .val (.int p4), .val (.int p5), .val (.int z56), .val (.int z57), .val (.int z59), .val (.int z61), .val (.int z62), .val (.int z63), .val (.int z65), .unset, .unset, .unset, .unset, .unset, .unset, .unset, .unset] [])) t)
      refine X0.ldc2Long hx hown (mvT hZ (hw _ (List.mem_of_getElem? (i := 4) rfl))) (g := (mkF m 111 #[.val (.int p0), .val (.int p1), .val (.int p2), .val (.int p3), .val (.int p4), .val (.int p5), .val (.int z56), .val (.int z57), .val (.int z59), .val (.int z61), .val (.int z62), .val (.int z63), .val (.int z65), .unset, .unset, .unset, .unset, .unset, .unset, .unset, .unset] [])) rfl (hb hby at_111) _ (?_ : Steps p.tables e below (s₁.setTop (mkF m 114 #[.val (.int p0), .val (.int p1), .val (.int p2), .val (.int p3), .val (.int p4), .val (.int p5), .val (.int z56), .val (.int z57), .val (.int z59), .val (.int z61), .val (.int z62), .val (.int z63), .val (.int z65), .unset, .unset, .unset, .unset, .unset, .unset, .unset, .unset] [(.long (-1 : Int64))])) t)
      refine XS.goto X0.here hx rfl (pc0 := 114) (pc' := 118) rfl (hb hby at_114) (by decide) (by decide) (?_ : Steps p.tables e below (s₁.setTop (mkF m 118 #[.val (.int p0), .val (.int p1), .val (.int p2), .val (.int p3), .val (.int p4), .val (.int p5), .val (.int z56), .val (.int z57), .val (.int z59), .val (.int z61), .val (.int z62), .val (.int z63), .val (.int z65), .unset, .unset, .unset, .unset, .unset, .unset, .unset, .unset] [(.long (-1 : Int64))])) t)
      have q_z67 := (hz67.trans (if_neg hj108_68))
      subst q_z67
      exact k
  refine own_via (s₁.setTop (mkF m 120 #[.val (.int p0), .val (.int p1), .val (.int p2), .val (.int p3), .val (.int p4), .val (.int p5), .val (.int z56), .val (.int z57), .val (.int z59), .val (.int z61), .val (.int z62), .val (.int z63), .val (.int z65), .val (.long z67), .second, .unset, .unset, .unset, .unset, .unset, .unset] [])) (fun t k => XS.lstore X0.here hx rfl (hb hby at_118) rfl (l' := #[.val (.int p0), .val (.int p1), .val (.int p2), .val (.int p3), .val (.int p4), .val (.int p5), .val (.int z56), .val (.int z57), .val (.int z59), .val (.int z61), .val (.int z62), .val (.int z63), .val (.int z65), .val (.long z67), .second, .unset, .unset, .unset, .unset, .unset, .unset]) rfl k) ?_
  refine own_via (s₁.setTop (mkF m 121 #[.val (.int p0), .val (.int p1), .val (.int p2), .val (.int p3), .val (.int p4), .val (.int p5), .val (.int z56), .val (.int z57), .val (.int z59), .val (.int z61), .val (.int z62), .val (.int z63), .val (.int z65), .val (.long z67), .second, .unset, .unset, .unset, .unset, .unset, .unset] [(.int p1)])) (fun t k => XS.iloadN X0.here hx rfl (hb hby at_120) rfl  k) ?_
  refine own_via (s₁.setTop (mkF m 122 #[.val (.int p0), .val (.int p1), .val (.int p2), .val (.int p3), .val (.int p4), .val (.int p5), .val (.int z56), .val (.int z57), .val (.int z59), .val (.int z61), .val (.int z62), .val (.int z63), .val (.int z65), .val (.long z67), .second, .unset, .unset, .unset, .unset, .unset, .unset] [(.int (2 : Int32)), (.int p1)])) (fun t k => XS.iconst X0.here hx rfl (hb hby at_121) k) ?_
  refine own_via (s₁.setTop (mkF m 123 #[.val (.int p0), .val (.int p1), .val (.int p2), .val (.int p3), .val (.int p4), .val (.int p5), .val (.int z56), .val (.int z57), .val (.int z59), .val (.int z61), .val (.int z62), .val (.int z63), .val (.int z65), .val (.long z67), .second, .unset, .unset, .unset, .unset, .unset, .unset] [(.int (p1 &&& (2 : Int32)))])) (fun t k => XS.iand X0.here hx rfl (hb hby at_122) rfl k) ?_
  obtain ⟨z69, hz69⟩ : ∃ z : Int64, z = (if (p1 &&& (2 : Int32)) = (0 : Int32) then ((z62.toInt64) + ((((p1 >>> ((2 : Int32) &&& 31)) &&& (7 : Int32)) - (4 : Int32)).toInt64)) else (((p1.toUInt32 >>> ((3 : Int32) &&& 31).toUInt32).toInt32).toInt64)) := ⟨_, rfl⟩
  refine own_via (s₁.setTop (mkF m 150 #[.val (.int p0), .val (.int p1), .val (.int p2), .val (.int p3), .val (.int p4), .val (.int p5), .val (.int z56), .val (.int z57), .val (.int z59), .val (.int z61), .val (.int z62), .val (.int z63), .val (.int z65), .val (.long z67), .second, .val (.long z69), .second, .unset, .unset, .unset, .unset] [])) (fun t k => ?_) ?_
  · skip
    by_cases hj123_70 : (p1 &&& (2 : Int32)) = (0 : Int32)
    · refine XS.ifYes X0.here hx rfl (pc0 := 123) (pc' := 135) rfl (hb hby at_123) rfl ((if0 _ _).trans (teq hj123_70).1) (by decide) (by decide) (?_ : Steps p.tables e below (s₁.setTop (mkF m 135 #[.val (.int p0), .val (.int p1), .val (.int p2), .val (.int p3), .val (.int p4), .val (.int p5), .val (.int z56), .val (.int z57), .val (.int z59), .val (.int z61), .val (.int z62), .val (.int z63), .val (.int z65), .val (.long z67), .second, .unset, .unset, .unset, .unset, .unset, .unset] [])) t)
      refine XS.iload X0.here hx rfl (hb hby at_135) rfl  (?_ : Steps p.tables e below (s₁.setTop (mkF m 137 #[.val (.int p0), .val (.int p1), .val (.int p2), .val (.int p3), .val (.int p4), .val (.int p5), .val (.int z56), .val (.int z57), .val (.int z59), .val (.int z61), .val (.int z62), .val (.int z63), .val (.int z65), .val (.long z67), .second, .unset, .unset, .unset, .unset, .unset, .unset] [(.int z62)])) t)
      refine XS.i2l X0.here hx rfl (hb hby at_137) rfl (?_ : Steps p.tables e below (s₁.setTop (mkF m 138 #[.val (.int p0), .val (.int p1), .val (.int p2), .val (.int p3), .val (.int p4), .val (.int p5), .val (.int z56), .val (.int z57), .val (.int z59), .val (.int z61), .val (.int z62), .val (.int z63), .val (.int z65), .val (.long z67), .second, .unset, .unset, .unset, .unset, .unset, .unset] [(.long (z62.toInt64))])) t)
      refine XS.iloadN X0.here hx rfl (hb hby at_138) rfl  (?_ : Steps p.tables e below (s₁.setTop (mkF m 139 #[.val (.int p0), .val (.int p1), .val (.int p2), .val (.int p3), .val (.int p4), .val (.int p5), .val (.int z56), .val (.int z57), .val (.int z59), .val (.int z61), .val (.int z62), .val (.int z63), .val (.int z65), .val (.long z67), .second, .unset, .unset, .unset, .unset, .unset, .unset] [(.int p1), (.long (z62.toInt64))])) t)
      refine XS.iconst X0.here hx rfl (hb hby at_139) (?_ : Steps p.tables e below (s₁.setTop (mkF m 140 #[.val (.int p0), .val (.int p1), .val (.int p2), .val (.int p3), .val (.int p4), .val (.int p5), .val (.int z56), .val (.int z57), .val (.int z59), .val (.int z61), .val (.int z62), .val (.int z63), .val (.int z65), .val (.long z67), .second, .unset, .unset, .unset, .unset, .unset, .unset] [(.int (2 : Int32)), (.int p1), (.long (z62.toInt64))])) t)
      refine XS.ishr X0.here hx rfl (hb hby at_140) rfl (?_ : Steps p.tables e below (s₁.setTop (mkF m 141 #[.val (.int p0), .val (.int p1), .val (.int p2), .val (.int p3), .val (.int p4), .val (.int p5), .val (.int z56), .val (.int z57), .val (.int z59), .val (.int z61), .val (.int z62), .val (.int z63), .val (.int z65), .val (.long z67), .second, .unset, .unset, .unset, .unset, .unset, .unset] [(.int (p1 >>> ((2 : Int32) &&& 31))), (.long (z62.toInt64))])) t)
      refine XS.bipush X0.here hx rfl (hb hby at_141) (?_ : Steps p.tables e below (s₁.setTop (mkF m 143 #[.val (.int p0), .val (.int p1), .val (.int p2), .val (.int p3), .val (.int p4), .val (.int p5), .val (.int z56), .val (.int z57), .val (.int z59), .val (.int z61), .val (.int z62), .val (.int z63), .val (.int z65), .val (.long z67), .second, .unset, .unset, .unset, .unset, .unset, .unset] [(.int (7 : Int32)), (.int (p1 >>> ((2 : Int32) &&& 31))), (.long (z62.toInt64))])) t)
      refine XS.iand X0.here hx rfl (hb hby at_143) rfl (?_ : Steps p.tables e below (s₁.setTop (mkF m 144 #[.val (.int p0), .val (.int p1), .val (.int p2), .val (.int p3), .val (.int p4), .val (.int p5), .val (.int z56), .val (.int z57), .val (.int z59), .val (.int z61), .val (.int z62), .val (.int z63), .val (.int z65), .val (.long z67), .second, .unset, .unset, .unset, .unset, .unset, .unset] [(.int ((p1 >>> ((2 : Int32) &&& 31)) &&& (7 : Int32))), (.long (z62.toInt64))])) t)
      refine XS.iconst X0.here hx rfl (hb hby at_144) (?_ : Steps p.tables e below (s₁.setTop (mkF m 145 #[.val (.int p0), .val (.int p1), .val (.int p2), .val (.int p3), .val (.int p4), .val (.int p5), .val (.int z56), .val (.int z57), .val (.int z59), .val (.int z61), .val (.int z62), .val (.int z63), .val (.int z65), .val (.long z67), .second, .unset, .unset, .unset, .unset, .unset, .unset] [(.int (4 : Int32)), (.int ((p1 >>> ((2 : Int32) &&& 31)) &&& (7 : Int32))), (.long (z62.toInt64))])) t)
      refine XS.isub X0.here hx rfl (hb hby at_145) rfl (?_ : Steps p.tables e below (s₁.setTop (mkF m 146 #[.val (.int p0), .val (.int p1), .val (.int p2), .val (.int p3), .val (.int p4), .val (.int p5), .val (.int z56), .val (.int z57), .val (.int z59), .val (.int z61), .val (.int z62), .val (.int z63), .val (.int z65), .val (.long z67), .second, .unset, .unset, .unset, .unset, .unset, .unset] [(.int (((p1 >>> ((2 : Int32) &&& 31)) &&& (7 : Int32)) - (4 : Int32))), (.long (z62.toInt64))])) t)
      refine XS.i2l X0.here hx rfl (hb hby at_146) rfl (?_ : Steps p.tables e below (s₁.setTop (mkF m 147 #[.val (.int p0), .val (.int p1), .val (.int p2), .val (.int p3), .val (.int p4), .val (.int p5), .val (.int z56), .val (.int z57), .val (.int z59), .val (.int z61), .val (.int z62), .val (.int z63), .val (.int z65), .val (.long z67), .second, .unset, .unset, .unset, .unset, .unset, .unset] [(.long ((((p1 >>> ((2 : Int32) &&& 31)) &&& (7 : Int32)) - (4 : Int32)).toInt64)), (.long (z62.toInt64))])) t)
      refine XS.ladd X0.here hx rfl (hb hby at_147) rfl (?_ : Steps p.tables e below (s₁.setTop (mkF m 148 #[.val (.int p0), .val (.int p1), .val (.int p2), .val (.int p3), .val (.int p4), .val (.int p5), .val (.int z56), .val (.int z57), .val (.int z59), .val (.int z61), .val (.int z62), .val (.int z63), .val (.int z65), .val (.long z67), .second, .unset, .unset, .unset, .unset, .unset, .unset] [(.long ((z62.toInt64) + ((((p1 >>> ((2 : Int32) &&& 31)) &&& (7 : Int32)) - (4 : Int32)).toInt64)))])) t)
      refine XS.lstore X0.here hx rfl (hb hby at_148) rfl (l' := #[.val (.int p0), .val (.int p1), .val (.int p2), .val (.int p3), .val (.int p4), .val (.int p5), .val (.int z56), .val (.int z57), .val (.int z59), .val (.int z61), .val (.int z62), .val (.int z63), .val (.int z65), .val (.long z67), .second, .val (.long ((z62.toInt64) + ((((p1 >>> ((2 : Int32) &&& 31)) &&& (7 : Int32)) - (4 : Int32)).toInt64))), .second, .unset, .unset, .unset, .unset]) rfl (?_ : Steps p.tables e below (s₁.setTop (mkF m 150 #[.val (.int p0), .val (.int p1), .val (.int p2), .val (.int p3), .val (.int p4), .val (.int p5), .val (.int z56), .val (.int z57), .val (.int z59), .val (.int z61), .val (.int z62), .val (.int z63), .val (.int z65), .val (.long z67), .second, .val (.long ((z62.toInt64) + ((((p1 >>> ((2 : Int32) &&& 31)) &&& (7 : Int32)) - (4 : Int32)).toInt64))), .second, .unset, .unset, .unset, .unset] [])) t)
      have q_z69 := (hz69.trans (if_pos hj123_70))
      subst q_z69
      exact k
    · refine XS.ifNo X0.here hx rfl (hb hby at_123) rfl ((if0 _ _).trans (feq hj123_70).1) (?_ : Steps p.tables e below (s₁.setTop (mkF m 126 #[.val (.int p0), .val (.int p1), .val (.int p2), .val (.int p3), .val (.int p4), .val (.int p5), .val (.int z56), .val (.int z57), .val (.int z59), .val (.int z61), .val (.int z62), .val (.int z63), .val (.int z65), .val (.long z67), .second, .unset, .unset, .unset, .unset, .unset, .unset] [])) t)
      refine XS.iloadN X0.here hx rfl (hb hby at_126) rfl  (?_ : Steps p.tables e below (s₁.setTop (mkF m 127 #[.val (.int p0), .val (.int p1), .val (.int p2), .val (.int p3), .val (.int p4), .val (.int p5), .val (.int z56), .val (.int z57), .val (.int z59), .val (.int z61), .val (.int z62), .val (.int z63), .val (.int z65), .val (.long z67), .second, .unset, .unset, .unset, .unset, .unset, .unset] [(.int p1)])) t)
      refine XS.iconst X0.here hx rfl (hb hby at_127) (?_ : Steps p.tables e below (s₁.setTop (mkF m 128 #[.val (.int p0), .val (.int p1), .val (.int p2), .val (.int p3), .val (.int p4), .val (.int p5), .val (.int z56), .val (.int z57), .val (.int z59), .val (.int z61), .val (.int z62), .val (.int z63), .val (.int z65), .val (.long z67), .second, .unset, .unset, .unset, .unset, .unset, .unset] [(.int (3 : Int32)), (.int p1)])) t)
      refine XS.iushr X0.here hx rfl (hb hby at_128) rfl (?_ : Steps p.tables e below (s₁.setTop (mkF m 129 #[.val (.int p0), .val (.int p1), .val (.int p2), .val (.int p3), .val (.int p4), .val (.int p5), .val (.int z56), .val (.int z57), .val (.int z59), .val (.int z61), .val (.int z62), .val (.int z63), .val (.int z65), .val (.long z67), .second, .unset, .unset, .unset, .unset, .unset, .unset] [(.int ((p1.toUInt32 >>> ((3 : Int32) &&& 31).toUInt32).toInt32))])) t)
      refine XS.i2l X0.here hx rfl (hb hby at_129) rfl (?_ : Steps p.tables e below (s₁.setTop (mkF m 130 #[.val (.int p0), .val (.int p1), .val (.int p2), .val (.int p3), .val (.int p4), .val (.int p5), .val (.int z56), .val (.int z57), .val (.int z59), .val (.int z61), .val (.int z62), .val (.int z63), .val (.int z65), .val (.long z67), .second, .unset, .unset, .unset, .unset, .unset, .unset] [(.long (((p1.toUInt32 >>> ((3 : Int32) &&& 31).toUInt32).toInt32).toInt64))])) t)
      refine XS.lstore X0.here hx rfl (hb hby at_130) rfl (l' := #[.val (.int p0), .val (.int p1), .val (.int p2), .val (.int p3), .val (.int p4), .val (.int p5), .val (.int z56), .val (.int z57), .val (.int z59), .val (.int z61), .val (.int z62), .val (.int z63), .val (.int z65), .val (.long z67), .second, .val (.long (((p1.toUInt32 >>> ((3 : Int32) &&& 31).toUInt32).toInt32).toInt64)), .second, .unset, .unset, .unset, .unset]) rfl (?_ : Steps p.tables e below (s₁.setTop (mkF m 132 #[.val (.int p0), .val (.int p1), .val (.int p2), .val (.int p3), .val (.int p4), .val (.int p5), .val (.int z56), .val (.int z57), .val (.int z59), .val (.int z61), .val (.int z62), .val (.int z63), .val (.int z65), .val (.long z67), .second, .val (.long (((p1.toUInt32 >>> ((3 : Int32) &&& 31).toUInt32).toInt32).toInt64)), .second, .unset, .unset, .unset, .unset] [])) t)
      refine XS.goto X0.here hx rfl (pc0 := 132) (pc' := 150) rfl (hb hby at_132) (by decide) (by decide) (?_ : Steps p.tables e below (s₁.setTop (mkF m 150 #[.val (.int p0), .val (.int p1), .val (.int p2), .val (.int p3), .val (.int p4), .val (.int p5), .val (.int z56), .val (.int z57), .val (.int z59), .val (.int z61), .val (.int z62), .val (.int z63), .val (.int z65), .val (.long z67), .second, .val (.long (((p1.toUInt32 >>> ((3 : Int32) &&& 31).toUInt32).toInt32).toInt64)), .second, .unset, .unset, .unset, .unset] [])) t)
      have q_z69 := (hz69.trans (if_neg hj123_70))
      subst q_z69
      exact k
  refine own_via (s₁.setTop (mkF m 152 #[.val (.int p0), .val (.int p1), .val (.int p2), .val (.int p3), .val (.int p4), .val (.int p5), .val (.int z56), .val (.int z57), .val (.int z59), .val (.int z61), .val (.int z62), .val (.int z63), .val (.int z65), .val (.long z67), .second, .val (.long z69), .second, .unset, .unset, .unset, .unset] [(.long z67)])) (fun t k => XS.lload X0.here hx rfl (hb hby at_150) rfl  k) ?_
  refine own_via (s₁.setTop (mkF m 154 #[.val (.int p0), .val (.int p1), .val (.int p2), .val (.int p3), .val (.int p4), .val (.int p5), .val (.int z56), .val (.int z57), .val (.int z59), .val (.int z61), .val (.int z62), .val (.int z63), .val (.int z65), .val (.long z67), .second, .val (.long z69), .second, .unset, .unset, .unset, .unset] [(.long z69), (.long z67)])) (fun t k => XS.lload X0.here hx rfl (hb hby at_152) rfl  k) ?_
  obtain ⟨_, _, ⟨T71, L71, k71, n71⟩, -, X71, ⟨Lc71, hQ71, l71, y71, z71⟩, st71⟩ := Jvm.LawKit.callS X0 hx (y := (⟨"java/lang/Math", "max", "(JJ)J"⟩ : MethodName)) hown (mvT hZ (hw _ (List.mem_of_getElem? (i := 5) rfl))) (mvT hZ (hw _ (List.mem_of_getElem? (i := 6) rfl))) (mvT hZ (hw _ (List.mem_of_getElem? (i := 7) rfl))) (mvT hZ (hw _ (List.mem_of_getElem? (i := 8) rfl))) (by decide) (backOf (W := 0) (rm1 l Z a0 hw [] z67 z69 h0 n0 (Nat.le_trans Z0 (Keep.refl h0 []).1)) hZ (hw _ (List.mem_of_getElem? (i := 8) rfl)) (hw _ (List.mem_of_getElem? (i := 7) rfl)) (by decide) (by decide)) (g := (mkF m 154 #[.val (.int p0), .val (.int p1), .val (.int p2), .val (.int p3), .val (.int p4), .val (.int p5), .val (.int z56), .val (.int z57), .val (.int z59), .val (.int z61), .val (.int z62), .val (.int z63), .val (.int z65), .val (.long z67), .second, .val (.long z69), .second, .unset, .unset, .unset, .unset] [(.long z69), (.long z67)])) rfl (by rw [hml]; rfl) (argsL := [(.long z67), (.long z69)]) (rest := []) (lenOf pd_1 rfl) rfl (by show 2 * 0 + _ ≤ _; exact Nat.le_of_eq rfl) (hb hby at_154) (fun _ _ => ⟨rfl, e0, (by decide : 0 + 0 ≤ _), (by decide : 0 + 0 ≤ _)⟩)
  dsimp only [Pt.U, Pt.locs, Pt.cells, Pt.slots] at X71 l71 y71 z71 st71 hQ71
  subst l71 y71 z71
  obtain ⟨rfl, N71q, e71⟩ := hQ71
  have N71 := Fr.app N0 N71q
  refine own_via (T71.setTop (mkF m 157 #[.val (.int p0), .val (.int p1), .val (.int p2), .val (.int p3), .val (.int p4), .val (.int p5), .val (.int z56), .val (.int z57), .val (.int z59), .val (.int z61), .val (.int z62), .val (.int z63), .val (.int z65), .val (.long z67), .second, .val (.long z69), .second, .unset, .unset, .unset, .unset] [(.long (own_f1 z67 z69))])) (fun t k => st71 t k) ?_
  obtain ⟨z72, hz72⟩ : ∃ z : Int64, z = (own_f1 z67 z69) := ⟨_, rfl⟩
  refine own_via (T71.setTop (mkF m 159 #[.val (.int p0), .val (.int p1), .val (.int p2), .val (.int p3), .val (.int p4), .val (.int p5), .val (.int z56), .val (.int z57), .val (.int z59), .val (.int z61), .val (.int z62), .val (.int z63), .val (.int z65), .val (.long z67), .second, .val (.long z72), .second, .unset, .unset, .unset, .unset] [])) (fun t k => XS.lstore X71.here hx rfl (hb hby at_157) rfl (l' := #[.val (.int p0), .val (.int p1), .val (.int p2), .val (.int p3), .val (.int p4), .val (.int p5), .val (.int z56), .val (.int z57), .val (.int z59), .val (.int z61), .val (.int z62), .val (.int z63), .val (.int z65), .val (.long z67), .second, .val (.long z72), .second, .unset, .unset, .unset, .unset]) (by rw [hz72]; rfl) k) ?_
  refine own_via (T71.setTop (mkF m 161 #[.val (.int p0), .val (.int p1), .val (.int p2), .val (.int p3), .val (.int p4), .val (.int p5), .val (.int z56), .val (.int z57), .val (.int z59), .val (.int z61), .val (.int z62), .val (.int z63), .val (.int z65), .val (.long z67), .second, .val (.long z72), .second, .unset, .unset, .unset, .unset] [(.long z72)])) (fun t k => XS.lload X71.here hx rfl (hb hby at_159) rfl  k) ?_
  refine own_via (T71.setTop (mkF m 162 #[.val (.int p0), .val (.int p1), .val (.int p2), .val (.int p3), .val (.int p4), .val (.int p5), .val (.int z56), .val (.int z57), .val (.int z59), .val (.int z61), .val (.int z62), .val (.int z63), .val (.int z65), .val (.long z67), .second, .val (.long z72), .second, .unset, .unset, .unset, .unset] [(.int (z72.toInt32))])) (fun t k => XS.l2i X71.here hx rfl (hb hby at_161) rfl k) ?_
  obtain ⟨z73, hz73⟩ : ∃ z : Int32, z = (z72.toInt32) := ⟨_, rfl⟩
  refine own_via (T71.setTop (mkF m 164 #[.val (.int p0), .val (.int p1), .val (.int p2), .val (.int p3), .val (.int p4), .val (.int p5), .val (.int z56), .val (.int z57), .val (.int z59), .val (.int z61), .val (.int z62), .val (.int z63), .val (.int z65), .val (.long z67), .second, .val (.long z72), .second, .val (.int z73), .unset, .unset, .unset] [])) (fun t k => XS.istore X71.here hx rfl (hb hby at_162) rfl (l' := #[.val (.int p0), .val (.int p1), .val (.int p2), .val (.int p3), .val (.int p4), .val (.int p5), .val (.int z56), .val (.int z57), .val (.int z59), .val (.int z61), .val (.int z62), .val (.int z63), .val (.int z65), .val (.long z67), .second, .val (.long z72), .second, .val (.int z73), .unset, .unset, .unset]) (by rw [hz73]; rfl) k) ?_
  refine own_via (T71.setTop (mkF m 166 #[.val (.int p0), .val (.int p1), .val (.int p2), .val (.int p3), .val (.int p4), .val (.int p5), .val (.int z56), .val (.int z57), .val (.int z59), .val (.int z61), .val (.int z62), .val (.int z63), .val (.int z65), .val (.long z67), .second, .val (.long z72), .second, .val (.int z73), .unset, .unset, .unset] [(.int z65)])) (fun t k => XS.iload X71.here hx rfl (hb hby at_164) rfl  k) ?_
  obtain ⟨z74, hz74⟩ : ∃ z : Int32, z = (if z65 = (0 : Int32) then z73 else (-1 : Int32)) := ⟨_, rfl⟩
  refine own_via (T71.setTop (mkF m 175 #[.val (.int p0), .val (.int p1), .val (.int p2), .val (.int p3), .val (.int p4), .val (.int p5), .val (.int z56), .val (.int z57), .val (.int z59), .val (.int z61), .val (.int z62), .val (.int z63), .val (.int z65), .val (.long z67), .second, .val (.long z72), .second, .val (.int z73), .unset, .unset, .unset] [(.int z74)])) (fun t k => ?_) ?_
  · skip
    by_cases hj166_75 : z65 = (0 : Int32)
    · refine XS.ifYes X71.here hx rfl (pc0 := 166) (pc' := 173) rfl (hb hby at_166) rfl ((if0 _ _).trans (teq hj166_75).1) (by decide) (by decide) (?_ : Steps p.tables e below (T71.setTop (mkF m 173 #[.val (.int p0), .val (.int p1), .val (.int p2), .val (.int p3), .val (.int p4), .val (.int p5), .val (.int z56), .val (.int z57), .val (.int z59), .val (.int z61), .val (.int z62), .val (.int z63), .val (.int z65), .val (.long z67), .second, .val (.long z72), .second, .val (.int z73), .unset, .unset, .unset] [])) t)
      refine XS.iload X71.here hx rfl (hb hby at_173) rfl  (?_ : Steps p.tables e below (T71.setTop (mkF m 175 #[.val (.int p0), .val (.int p1), .val (.int p2), .val (.int p3), .val (.int p4), .val (.int p5), .val (.int z56), .val (.int z57), .val (.int z59), .val (.int z61), .val (.int z62), .val (.int z63), .val (.int z65), .val (.long z67), .second, .val (.long z72), .second, .val (.int z73), .unset, .unset, .unset] [(.int z73)])) t)
      have q_z74 := (hz74.trans (if_pos hj166_75))
      subst q_z74
      exact k
    · refine XS.ifNo X71.here hx rfl (hb hby at_166) rfl ((if0 _ _).trans (feq hj166_75).1) (?_ : Steps p.tables e below (T71.setTop (mkF m 169 #[.val (.int p0), .val (.int p1), .val (.int p2), .val (.int p3), .val (.int p4), .val (.int p5), .val (.int z56), .val (.int z57), .val (.int z59), .val (.int z61), .val (.int z62), .val (.int z63), .val (.int z65), .val (.long z67), .second, .val (.long z72), .second, .val (.int z73), .unset, .unset, .unset] [])) t)
      refine XS.iconst X71.here hx rfl (hb hby at_169) (?_ : Steps p.tables e below (T71.setTop (mkF m 170 #[.val (.int p0), .val (.int p1), .val (.int p2), .val (.int p3), .val (.int p4), .val (.int p5), .val (.int z56), .val (.int z57), .val (.int z59), .val (.int z61), .val (.int z62), .val (.int z63), .val (.int z65), .val (.long z67), .second, .val (.long z72), .second, .val (.int z73), .unset, .unset, .unset] [(.int (-1 : Int32))])) t)
      refine XS.goto X71.here hx rfl (pc0 := 170) (pc' := 175) rfl (hb hby at_170) (by decide) (by decide) (?_ : Steps p.tables e below (T71.setTop (mkF m 175 #[.val (.int p0), .val (.int p1), .val (.int p2), .val (.int p3), .val (.int p4), .val (.int p5), .val (.int z56), .val (.int z57), .val (.int z59), .val (.int z61), .val (.int z62), .val (.int z63), .val (.int z65), .val (.long z67), .second, .val (.long z72), .second, .val (.int z73), .unset, .unset, .unset] [(.int (-1 : Int32))])) t)
      have q_z74 := (hz74.trans (if_neg hj166_75))
      subst q_z74
      exact k
  refine own_via (T71.setTop (mkF m 177 #[.val (.int p0), .val (.int p1), .val (.int p2), .val (.int p3), .val (.int p4), .val (.int p5), .val (.int z56), .val (.int z57), .val (.int z59), .val (.int z61), .val (.int z62), .val (.int z63), .val (.int z65), .val (.long z67), .second, .val (.long z72), .second, .val (.int z73), .val (.int z74), .unset, .unset] [])) (fun t k => XS.istore X71.here hx rfl (hb hby at_175) rfl (l' := #[.val (.int p0), .val (.int p1), .val (.int p2), .val (.int p3), .val (.int p4), .val (.int p5), .val (.int z56), .val (.int z57), .val (.int z59), .val (.int z61), .val (.int z62), .val (.int z63), .val (.int z65), .val (.long z67), .second, .val (.long z72), .second, .val (.int z73), .val (.int z74), .unset, .unset]) rfl k) ?_
  refine own_via (T71.setTop (mkF m 179 #[.val (.int p0), .val (.int p1), .val (.int p2), .val (.int p3), .val (.int p4), .val (.int p5), .val (.int z56), .val (.int z57), .val (.int z59), .val (.int z61), .val (.int z62), .val (.int z63), .val (.int z65), .val (.long z67), .second, .val (.long z72), .second, .val (.int z73), .val (.int z74), .unset, .unset] [(.int z65)])) (fun t k => XS.iload X71.here hx rfl (hb hby at_177) rfl  k) ?_
  obtain ⟨z76, hz76⟩ : ∃ z : Int32, z = (if z65 = (0 : Int32) then (p5 &&& (2147483647 : Int32)) else (z73 + (1 : Int32))) := ⟨_, rfl⟩
  refine own_via (T71.setTop (mkF m 194 #[.val (.int p0), .val (.int p1), .val (.int p2), .val (.int p3), .val (.int p4), .val (.int p5), .val (.int z56), .val (.int z57), .val (.int z59), .val (.int z61), .val (.int z62), .val (.int z63), .val (.int z65), .val (.long z67), .second, .val (.long z72), .second, .val (.int z73), .val (.int z74), .unset, .unset] [(.int z76)])) (fun t k => ?_) ?_
  · skip
    by_cases hj179_77 : z65 = (0 : Int32)
    · refine XS.ifYes X71.here hx rfl (pc0 := 179) (pc' := 189) rfl (hb hby at_179) rfl ((if0 _ _).trans (teq hj179_77).1) (by decide) (by decide) (?_ : Steps p.tables e below (T71.setTop (mkF m 189 #[.val (.int p0), .val (.int p1), .val (.int p2), .val (.int p3), .val (.int p4), .val (.int p5), .val (.int z56), .val (.int z57), .val (.int z59), .val (.int z61), .val (.int z62), .val (.int z63), .val (.int z65), .val (.long z67), .second, .val (.long z72), .second, .val (.int z73), .val (.int z74), .unset, .unset] [])) t)
      refine XS.iload X71.here hx rfl (hb hby at_189) rfl  (?_ : Steps p.tables e below (T71.setTop (mkF m 191 #[.val (.int p0), .val (.int p1), .val (.int p2), .val (.int p3), .val (.int p4), .val (.int p5), .val (.int z56), .val (.int z57), .val (.int z59), .val (.int z61), .val (.int z62), .val (.int z63), .val (.int z65), .val (.long z67), .second, .val (.long z72), .second, .val (.int z73), .val (.int z74), .unset, .unset] [(.int p5)])) t)
      refine X71.ldcInt hx hown (mvT hZ (hw _ (List.mem_of_getElem? (i := 3) rfl))) (g := (mkF m 191 #[.val (.int p0), .val (.int p1), .val (.int p2), .val (.int p3), .val (.int p4), .val (.int p5), .val (.int z56), .val (.int z57), .val (.int z59), .val (.int z61), .val (.int z62), .val (.int z63), .val (.int z65), .val (.long z67), .second, .val (.long z72), .second, .val (.int z73), .val (.int z74), .unset, .unset] [(.int p5)])) rfl (hb hby at_191) _ (?_ : Steps p.tables e below (T71.setTop (mkF m 193 #[.val (.int p0), .val (.int p1), .val (.int p2), .val (.int p3), .val (.int p4), .val (.int p5), .val (.int z56), .val (.int z57), .val (.int z59), .val (.int z61), .val (.int z62), .val (.int z63), .val (.int z65), .val (.long z67), .second, .val (.long z72), .second, .val (.int z73), .val (.int z74), .unset, .unset] [(.int (2147483647 : Int32)), (.int p5)])) t)
      refine XS.iand X71.here hx rfl (hb hby at_193) rfl (?_ : Steps p.tables e below (T71.setTop (mkF m 194 #[.val (.int p0), .val (.int p1), .val (.int p2), .val (.int p3), .val (.int p4), .val (.int p5), .val (.int z56), .val (.int z57), .val (.int z59), .val (.int z61), .val (.int z62), .val (.int z63), .val (.int z65), .val (.long z67), .second, .val (.long z72), .second, .val (.int z73), .val (.int z74), .unset, .unset] [(.int (p5 &&& (2147483647 : Int32)))])) t)
      have q_z76 := (hz76.trans (if_pos hj179_77))
      subst q_z76
      exact k
    · refine XS.ifNo X71.here hx rfl (hb hby at_179) rfl ((if0 _ _).trans (feq hj179_77).1) (?_ : Steps p.tables e below (T71.setTop (mkF m 182 #[.val (.int p0), .val (.int p1), .val (.int p2), .val (.int p3), .val (.int p4), .val (.int p5), .val (.int z56), .val (.int z57), .val (.int z59), .val (.int z61), .val (.int z62), .val (.int z63), .val (.int z65), .val (.long z67), .second, .val (.long z72), .second, .val (.int z73), .val (.int z74), .unset, .unset] [])) t)
      refine XS.iload X71.here hx rfl (hb hby at_182) rfl  (?_ : Steps p.tables e below (T71.setTop (mkF m 184 #[.val (.int p0), .val (.int p1), .val (.int p2), .val (.int p3), .val (.int p4), .val (.int p5), .val (.int z56), .val (.int z57), .val (.int z59), .val (.int z61), .val (.int z62), .val (.int z63), .val (.int z65), .val (.long z67), .second, .val (.long z72), .second, .val (.int z73), .val (.int z74), .unset, .unset] [(.int z73)])) t)
      refine XS.iconst X71.here hx rfl (hb hby at_184) (?_ : Steps p.tables e below (T71.setTop (mkF m 185 #[.val (.int p0), .val (.int p1), .val (.int p2), .val (.int p3), .val (.int p4), .val (.int p5), .val (.int z56), .val (.int z57), .val (.int z59), .val (.int z61), .val (.int z62), .val (.int z63), .val (.int z65), .val (.long z67), .second, .val (.long z72), .second, .val (.int z73), .val (.int z74), .unset, .unset] [(.int (1 : Int32)), (.int z73)])) t)
      refine XS.iadd X71.here hx rfl (hb hby at_185) rfl (?_ : Steps p.tables e below (T71.setTop (mkF m 186 #[.val (.int p0), .val (.int p1), .val (.int p2), .val (.int p3), .val (.int p4), .val (.int p5), .val (.int z56), .val (.int z57), .val (.int z59), .val (.int z61), .val (.int z62), .val (.int z63), .val (.int z65), .val (.long z67), .second, .val (.long z72), .second, .val (.int z73), .val (.int z74), .unset, .unset] [(.int (z73 + (1 : Int32)))])) t)
      refine XS.goto X71.here hx rfl (pc0 := 186) (pc' := 194) rfl (hb hby at_186) (by decide) (by decide) (?_ : Steps p.tables e below (T71.setTop (mkF m 194 #[.val (.int p0), .val (.int p1), .val (.int p2), .val (.int p3), .val (.int p4), .val (.int p5), .val (.int z56), .val (.int z57), .val (.int z59), .val (.int z61), .val (.int z62), .val (.int z63), .val (.int z65), .val (.long z67), .second, .val (.long z72), .second, .val (.int z73), .val (.int z74), .unset, .unset] [(.int (z73 + (1 : Int32)))])) t)
      have q_z76 := (hz76.trans (if_neg hj179_77))
      subst q_z76
      exact k
  refine own_via (T71.setTop (mkF m 196 #[.val (.int p0), .val (.int p1), .val (.int p2), .val (.int p3), .val (.int p4), .val (.int p5), .val (.int z56), .val (.int z57), .val (.int z59), .val (.int z61), .val (.int z62), .val (.int z63), .val (.int z65), .val (.long z67), .second, .val (.long z72), .second, .val (.int z73), .val (.int z74), .val (.int z76), .unset] [])) (fun t k => XS.istore X71.here hx rfl (hb hby at_194) rfl (l' := #[.val (.int p0), .val (.int p1), .val (.int p2), .val (.int p3), .val (.int p4), .val (.int p5), .val (.int z56), .val (.int z57), .val (.int z59), .val (.int z61), .val (.int z62), .val (.int z63), .val (.int z65), .val (.long z67), .second, .val (.long z72), .second, .val (.int z73), .val (.int z74), .val (.int z76), .unset]) rfl k) ?_
  refine own_via (T71.setTop (mkF m 198 #[.val (.int p0), .val (.int p1), .val (.int p2), .val (.int p3), .val (.int p4), .val (.int p5), .val (.int z56), .val (.int z57), .val (.int z59), .val (.int z61), .val (.int z62), .val (.int z63), .val (.int z65), .val (.long z67), .second, .val (.long z72), .second, .val (.int z73), .val (.int z74), .val (.int z76), .unset] [(.int z59)])) (fun t k => XS.iload X71.here hx rfl (hb hby at_196) rfl  k) ?_
  obtain ⟨z78, hz78⟩ : ∃ z : Int32, z = (if z59 = (0 : Int32) then (if z63 = (0 : Int32) then (if z73 < z62 then (0 : Int32) else (1 : Int32)) else (0 : Int32)) else (0 : Int32)) := ⟨_, rfl⟩
  refine own_via (T71.setTop (mkF m 218 #[.val (.int p0), .val (.int p1), .val (.int p2), .val (.int p3), .val (.int p4), .val (.int p5), .val (.int z56), .val (.int z57), .val (.int z59), .val (.int z61), .val (.int z62), .val (.int z63), .val (.int z65), .val (.long z67), .second, .val (.long z72), .second, .val (.int z73), .val (.int z74), .val (.int z76), .unset] [(.int z78)])) (fun t k => ?_) ?_
  · skip
    by_cases hj198_79 : z59 = (0 : Int32)
    · refine XS.ifNo X71.here hx rfl (hb hby at_198) rfl ((if0 _ _).trans (teq hj198_79).2) (?_ : Steps p.tables e below (T71.setTop (mkF m 201 #[.val (.int p0), .val (.int p1), .val (.int p2), .val (.int p3), .val (.int p4), .val (.int p5), .val (.int z56), .val (.int z57), .val (.int z59), .val (.int z61), .val (.int z62), .val (.int z63), .val (.int z65), .val (.long z67), .second, .val (.long z72), .second, .val (.int z73), .val (.int z74), .val (.int z76), .unset] [])) t)
      refine XS.iload X71.here hx rfl (hb hby at_201) rfl  (?_ : Steps p.tables e below (T71.setTop (mkF m 203 #[.val (.int p0), .val (.int p1), .val (.int p2), .val (.int p3), .val (.int p4), .val (.int p5), .val (.int z56), .val (.int z57), .val (.int z59), .val (.int z61), .val (.int z62), .val (.int z63), .val (.int z65), .val (.long z67), .second, .val (.long z72), .second, .val (.int z73), .val (.int z74), .val (.int z76), .unset] [(.int z63)])) t)
      by_cases hj203_80 : z63 = (0 : Int32)
      · refine XS.ifNo X71.here hx rfl (hb hby at_203) rfl ((if0 _ _).trans (teq hj203_80).2) (?_ : Steps p.tables e below (T71.setTop (mkF m 206 #[.val (.int p0), .val (.int p1), .val (.int p2), .val (.int p3), .val (.int p4), .val (.int p5), .val (.int z56), .val (.int z57), .val (.int z59), .val (.int z61), .val (.int z62), .val (.int z63), .val (.int z65), .val (.long z67), .second, .val (.long z72), .second, .val (.int z73), .val (.int z74), .val (.int z76), .unset] [])) t)
        refine XS.iload X71.here hx rfl (hb hby at_206) rfl  (?_ : Steps p.tables e below (T71.setTop (mkF m 208 #[.val (.int p0), .val (.int p1), .val (.int p2), .val (.int p3), .val (.int p4), .val (.int p5), .val (.int z56), .val (.int z57), .val (.int z59), .val (.int z61), .val (.int z62), .val (.int z63), .val (.int z65), .val (.long z67), .second, .val (.long z72), .second, .val (.int z73), .val (.int z74), .val (.int z76), .unset] [(.int z62)])) t)
        refine XS.iload X71.here hx rfl (hb hby at_208) rfl  (?_ : Steps p.tables e below (T71.setTop (mkF m 210 #[.val (.int p0), .val (.int p1), .val (.int p2), .val (.int p3), .val (.int p4), .val (.int p5), .val (.int z56), .val (.int z57), .val (.int z59), .val (.int z61), .val (.int z62), .val (.int z63), .val (.int z65), .val (.long z67), .second, .val (.long z72), .second, .val (.int z73), .val (.int z74), .val (.int z76), .unset] [(.int z73), (.int z62)])) t)
        by_cases hj210_81 : z73 < z62
        · refine XS.icmpYes X71.here hx rfl (pc0 := 210) (pc' := 217) rfl (hb hby at_210) rfl (tlt hj210_81).2.2.1 (by decide) (by decide) (?_ : Steps p.tables e below (T71.setTop (mkF m 217 #[.val (.int p0), .val (.int p1), .val (.int p2), .val (.int p3), .val (.int p4), .val (.int p5), .val (.int z56), .val (.int z57), .val (.int z59), .val (.int z61), .val (.int z62), .val (.int z63), .val (.int z65), .val (.long z67), .second, .val (.long z72), .second, .val (.int z73), .val (.int z74), .val (.int z76), .unset] [])) t)
          refine XS.iconst X71.here hx rfl (hb hby at_217) (?_ : Steps p.tables e below (T71.setTop (mkF m 218 #[.val (.int p0), .val (.int p1), .val (.int p2), .val (.int p3), .val (.int p4), .val (.int p5), .val (.int z56), .val (.int z57), .val (.int z59), .val (.int z61), .val (.int z62), .val (.int z63), .val (.int z65), .val (.long z67), .second, .val (.long z72), .second, .val (.int z73), .val (.int z74), .val (.int z76), .unset] [(.int (0 : Int32))])) t)
          have q_z78 := (((hz78.trans (if_pos hj198_79)).trans (if_pos hj203_80)).trans (if_pos hj210_81))
          subst q_z78
          exact k
        · refine XS.icmpNo X71.here hx rfl (hb hby at_210) rfl (flt hj210_81).2.2.1 (?_ : Steps p.tables e below (T71.setTop (mkF m 213 #[.val (.int p0), .val (.int p1), .val (.int p2), .val (.int p3), .val (.int p4), .val (.int p5), .val (.int z56), .val (.int z57), .val (.int z59), .val (.int z61), .val (.int z62), .val (.int z63), .val (.int z65), .val (.long z67), .second, .val (.long z72), .second, .val (.int z73), .val (.int z74), .val (.int z76), .unset] [])) t)
          refine XS.iconst X71.here hx rfl (hb hby at_213) (?_ : Steps p.tables e below (T71.setTop (mkF m 214 #[.val (.int p0), .val (.int p1), .val (.int p2), .val (.int p3), .val (.int p4), .val (.int p5), .val (.int z56), .val (.int z57), .val (.int z59), .val (.int z61), .val (.int z62), .val (.int z63), .val (.int z65), .val (.long z67), .second, .val (.long z72), .second, .val (.int z73), .val (.int z74), .val (.int z76), .unset] [(.int (1 : Int32))])) t)
          refine XS.goto X71.here hx rfl (pc0 := 214) (pc' := 218) rfl (hb hby at_214) (by decide) (by decide) (?_ : Steps p.tables e below (T71.setTop (mkF m 218 #[.val (.int p0), .val (.int p1), .val (.int p2), .val (.int p3), .val (.int p4), .val (.int p5), .val (.int z56), .val (.int z57), .val (.int z59), .val (.int z61), .val (.int z62), .val (.int z63), .val (.int z65), .val (.long z67), .second, .val (.long z72), .second, .val (.int z73), .val (.int z74), .val (.int z76), .unset] [(.int (1 : Int32))])) t)
          have q_z78 := (((hz78.trans (if_pos hj198_79)).trans (if_pos hj203_80)).trans (if_neg hj210_81))
          subst q_z78
          exact k
      · refine XS.ifYes X71.here hx rfl (pc0 := 203) (pc' := 217) rfl (hb hby at_203) rfl ((if0 _ _).trans (feq hj203_80).2) (by decide) (by decide) (?_ : Steps p.tables e below (T71.setTop (mkF m 217 #[.val (.int p0), .val (.int p1), .val (.int p2), .val (.int p3), .val (.int p4), .val (.int p5), .val (.int z56), .val (.int z57), .val (.int z59), .val (.int z61), .val (.int z62), .val (.int z63), .val (.int z65), .val (.long z67), .second, .val (.long z72), .second, .val (.int z73), .val (.int z74), .val (.int z76), .unset] [])) t)
        refine XS.iconst X71.here hx rfl (hb hby at_217) (?_ : Steps p.tables e below (T71.setTop (mkF m 218 #[.val (.int p0), .val (.int p1), .val (.int p2), .val (.int p3), .val (.int p4), .val (.int p5), .val (.int z56), .val (.int z57), .val (.int z59), .val (.int z61), .val (.int z62), .val (.int z63), .val (.int z65), .val (.long z67), .second, .val (.long z72), .second, .val (.int z73), .val (.int z74), .val (.int z76), .unset] [(.int (0 : Int32))])) t)
        have q_z78 := ((hz78.trans (if_pos hj198_79)).trans (if_neg hj203_80))
        subst q_z78
        exact k
    · refine XS.ifYes X71.here hx rfl (pc0 := 198) (pc' := 217) rfl (hb hby at_198) rfl ((if0 _ _).trans (feq hj198_79).2) (by decide) (by decide) (?_ : Steps p.tables e below (T71.setTop (mkF m 217 #[.val (.int p0), .val (.int p1), .val (.int p2), .val (.int p3), .val (.int p4), .val (.int p5), .val (.int z56), .val (.int z57), .val (.int z59), .val (.int z61), .val (.int z62), .val (.int z63), .val (.int z65), .val (.long z67), .second, .val (.long z72), .second, .val (.int z73), .val (.int z74), .val (.int z76), .unset] [])) t)
      refine XS.iconst X71.here hx rfl (hb hby at_217) (?_ : Steps p.tables e below (T71.setTop (mkF m 218 #[.val (.int p0), .val (.int p1), .val (.int p2), .val (.int p3), .val (.int p4), .val (.int p5), .val (.int z56), .val (.int z57), .val (.int z59), .val (.int z61), .val (.int z62), .val (.int z63), .val (.int z65), .val (.long z67), .second, .val (.long z72), .second, .val (.int z73), .val (.int z74), .val (.int z76), .unset] [(.int (0 : Int32))])) t)
      have q_z78 := (hz78.trans (if_neg hj198_79))
      subst q_z78
      exact k
  refine own_via (T71.setTop (mkF m 220 #[.val (.int p0), .val (.int p1), .val (.int p2), .val (.int p3), .val (.int p4), .val (.int p5), .val (.int z56), .val (.int z57), .val (.int z59), .val (.int z61), .val (.int z62), .val (.int z63), .val (.int z65), .val (.long z67), .second, .val (.long z72), .second, .val (.int z73), .val (.int z74), .val (.int z76), .val (.int z78)] [])) (fun t k => XS.istore X71.here hx rfl (hb hby at_218) rfl (l' := #[.val (.int p0), .val (.int p1), .val (.int p2), .val (.int p3), .val (.int p4), .val (.int p5), .val (.int z56), .val (.int z57), .val (.int z59), .val (.int z61), .val (.int z62), .val (.int z63), .val (.int z65), .val (.long z67), .second, .val (.long z72), .second, .val (.int z73), .val (.int z74), .val (.int z76), .val (.int z78)]) rfl k) ?_
  obtain ⟨T82, h82, X82, e82, E82, A82, D82, -, st82⟩ := newO X71 hx hZ hown (hw _ (List.mem_of_getElem? (i := 9) rfl)) (hw _ (List.mem_of_getElem? (i := 10) rfl)) (hw _ (List.mem_of_getElem? (i := 11) rfl)) e71 (g := (mkF m 220 #[.val (.int p0), .val (.int p1), .val (.int p2), .val (.int p3), .val (.int p4), .val (.int p5), .val (.int z56), .val (.int z57), .val (.int z59), .val (.int z61), .val (.int z62), .val (.int z63), .val (.int z65), .val (.long z67), .second, .val (.long z72), .second, .val (.int z73), .val (.int z74), .val (.int z76), .val (.int z78)] [])) rfl (hb hby at_220) (by decide) (by decide)
  obtain ⟨b82, g82⟩ : ∃ z, z = h0.size := ⟨_, rfl⟩
  rw [← g82] at A82 D82 st82
  have gg_b82 : n0 ≤ b82 := Nat.le_trans (Nat.le_trans Z0 (Keep.refl h0 []).1) (Nat.le_of_eq g82.symm)
  have sz_b82 : h0.size ≤ b82 := Nat.le_trans (Keep.refl h0 []).1 (Nat.le_of_eq g82.symm)
  have F_first_b82 : Fld Z h82 b82 "com/example/grantbook/grantbook/CommandEntry$Positions" "first" "I" (.int (0 : Int32)) := D82 (Or.inr (hw _ (List.mem_of_getElem? (i := 24) rfl))) (ty := .int) (by decide)
  have F_last_b82 : Fld Z h82 b82 "com/example/grantbook/grantbook/CommandEntry$Positions" "last" "I" (.int (0 : Int32)) := D82 (Or.inr (hw _ (List.mem_of_getElem? (i := 26) rfl))) (ty := .int) (by decide)
  have F_step_b82 : Fld Z h82 b82 "com/example/grantbook/grantbook/CommandEntry$Positions" "step" "I" (.int (0 : Int32)) := D82 (Or.inr (hw _ (List.mem_of_getElem? (i := 28) rfl))) (ty := .int) (by decide)
  have K83 : Keep h0 h82 [] := (Keep.refl h0 []).ext E82
  refine own_via (T82.setTop (mkF m 223 #[.val (.int p0), .val (.int p1), .val (.int p2), .val (.int p3), .val (.int p4), .val (.int p5), .val (.int z56), .val (.int z57), .val (.int z59), .val (.int z61), .val (.int z62), .val (.int z63), .val (.int z65), .val (.long z67), .second, .val (.long z72), .second, .val (.int z73), .val (.int z74), .val (.int z76), .val (.int z78)] [(.ref b82)])) (fun t k => st82 t k) ?_
  refine own_via (T82.setTop (mkF m 224 #[.val (.int p0), .val (.int p1), .val (.int p2), .val (.int p3), .val (.int p4), .val (.int p5), .val (.int z56), .val (.int z57), .val (.int z59), .val (.int z61), .val (.int z62), .val (.int z63), .val (.int z65), .val (.long z67), .second, .val (.long z72), .second, .val (.int z73), .val (.int z74), .val (.int z76), .val (.int z78)] [(.ref b82), (.ref b82)])) (fun t k => XS.dup X82.here hx rfl (hb hby at_223) rfl rfl k) ?_
  refine own_via (T82.setTop (mkF m 226 #[.val (.int p0), .val (.int p1), .val (.int p2), .val (.int p3), .val (.int p4), .val (.int p5), .val (.int z56), .val (.int z57), .val (.int z59), .val (.int z61), .val (.int z62), .val (.int z63), .val (.int z65), .val (.long z67), .second, .val (.long z72), .second, .val (.int z73), .val (.int z74), .val (.int z76), .val (.int z78)] [(.int z56), (.ref b82), (.ref b82)])) (fun t k => XS.iload X82.here hx rfl (hb hby at_224) rfl  k) ?_
  refine own_via (T82.setTop (mkF m 228 #[.val (.int p0), .val (.int p1), .val (.int p2), .val (.int p3), .val (.int p4), .val (.int p5), .val (.int z56), .val (.int z57), .val (.int z59), .val (.int z61), .val (.int z62), .val (.int z63), .val (.int z65), .val (.long z67), .second, .val (.long z72), .second, .val (.int z73), .val (.int z74), .val (.int z76), .val (.int z78)] [(.int z74), (.int z56), (.ref b82), (.ref b82)])) (fun t k => XS.iload X82.here hx rfl (hb hby at_226) rfl  k) ?_
  refine own_via (T82.setTop (mkF m 230 #[.val (.int p0), .val (.int p1), .val (.int p2), .val (.int p3), .val (.int p4), .val (.int p5), .val (.int z56), .val (.int z57), .val (.int z59), .val (.int z61), .val (.int z62), .val (.int z63), .val (.int z65), .val (.long z67), .second, .val (.long z72), .second, .val (.int z73), .val (.int z74), .val (.int z76), .val (.int z78)] [(.int z57), (.int z74), (.int z56), (.ref b82), (.ref b82)])) (fun t k => XS.iload X82.here hx rfl (hb hby at_228) rfl  k) ?_
  obtain ⟨_, _, ⟨T84, L84, k84, n84⟩, -, X84, ⟨Lc84, hQ84, l84, y84, z84⟩, st84⟩ := X82.specialBack hx (y := (⟨"com/example/grantbook/grantbook/CommandEntry$Positions", "<init>", "(III)V"⟩ : MethodName)) rfl hown (mvT hZ (hw _ (List.mem_of_getElem? (i := 12) rfl))) (mvT hZ (hw _ (List.mem_of_getElem? (i := 13) rfl))) (mvT hZ (hw _ (List.mem_of_getElem? (i := 14) rfl))) (by decide) (backOf (W := 1) (rm2 l Z a0 hw [] b82 z56 z74 z57 h82 n0 (Nat.le_trans Z0 K83.1) F_first_b82 F_last_b82 F_step_b82 A82 gg_b82) hZ (hw _ (List.mem_of_getElem? (i := 14) rfl)) (hw _ (List.mem_of_getElem? (i := 11) rfl)) (by decide) (by decide)) (g := (mkF m 230 #[.val (.int p0), .val (.int p1), .val (.int p2), .val (.int p3), .val (.int p4), .val (.int p5), .val (.int z56), .val (.int z57), .val (.int z59), .val (.int z61), .val (.int z62), .val (.int z63), .val (.int z65), .val (.long z67), .second, .val (.long z72), .second, .val (.int z73), .val (.int z74), .val (.int z76), .val (.int z78)] [(.int z57), (.int z74), (.int z56), (.ref b82), (.ref b82)])) rfl (by rw [hml]; rfl) (Steps.refl _) (a := b82) (argsL := [(.int z56), (.int z74), (.int z57)]) (rest := [(.ref b82)]) (lenOf pd_2 rfl) rfl (by show 2 * 0 + _ ≤ _; exact Nat.le_of_eq rfl) (hb hby at_230) (fun _ _ => ⟨rfl, e82, (by decide : 1 + 0 ≤ _), (by decide : 3 + 0 ≤ _)⟩)
  dsimp only [Pt.U, Pt.locs, Pt.cells, Pt.slots] at X84 l84 y84 z84 st84 hQ84
  subst l84 y84 z84
  obtain ⟨h84, e84⟩ : ∃ h, T84.heap = h := ⟨_, rfl⟩
  rw [e84] at hQ84
  obtain ⟨rfl, N84q, K84q, G84_0, G84_1, G84_2, G84_3⟩ := hQ84
  have N84 := Fr.app N71 N84q
  have K85 : Keep h0 h84 [] := K83.trans K84q (fun x hx => (List.mem_cons.mp hx).elim (fun e => e ▸ Or.inr sz_b82) ((fun x hx => nomatch hx) x))
  refine own_via (T84.setTop (mkF m 233 #[.val (.int p0), .val (.int p1), .val (.int p2), .val (.int p3), .val (.int p4), .val (.int p5), .val (.int z56), .val (.int z57), .val (.int z59), .val (.int z61), .val (.int z62), .val (.int z63), .val (.int z65), .val (.long z67), .second, .val (.long z72), .second, .val (.int z73), .val (.int z74), .val (.int z76), .val (.int z78)] [(.ref b82)])) (fun t k => st84.trans k) ?_
  refine own_via (T84.setTop (mkF m 235 #[.val (.int p0), .val (.int p1), .val (.int p2), .val (.int p3), .val (.int p4), .val (.int p5), .val (.int z56), .val (.int z57), .val (.int z59), .val (.int z61), .val (.int z62), .val (.int z63), .val (.int z65), .val (.long z67), .second, .val (.long z72), .second, .val (.int z73), .val (.int z74), .val (.int z76), .val (.int z78)] [(.int z62), (.ref b82)])) (fun t k => XS.iload X84.here hx rfl (hb hby at_233) rfl  k) ?_
  refine own_via (T84.setTop (mkF m 237 #[.val (.int p0), .val (.int p1), .val (.int p2), .val (.int p3), .val (.int p4), .val (.int p5), .val (.int z56), .val (.int z57), .val (.int z59), .val (.int z61), .val (.int z62), .val (.int z63), .val (.int z65), .val (.long z67), .second, .val (.long z72), .second, .val (.int z73), .val (.int z74), .val (.int z76), .val (.int z78)] [(.int z76), (.int z62), (.ref b82)])) (fun t k => XS.iload X84.here hx rfl (hb hby at_235) rfl  k) ?_
  obtain ⟨cq86, kq86, q86a, q86b, q86c⟩ := isOf hZ e84 G84_0
  obtain ⟨_, _, ⟨T86, L86, k86, n86⟩, -, X86, ⟨Lc86, hQ86, l86, y86, z86⟩, st86⟩ := X84.virtualBack hx (y := (⟨"com/example/grantbook/grantbook/CommandEntry$Positions", "contains", "(II)Z"⟩ : MethodName)) (z := (⟨"com/example/grantbook/grantbook/CommandEntry$Positions", "contains", "(II)Z"⟩ : MethodName)) hown (mvT hZ (hw _ (List.mem_of_getElem? (i := 29) rfl))) (mvT hZ (hw _ (List.mem_of_getElem? (i := 30) rfl))) (notFace_of_selects (args := #[]) (mvT hZ (hw _ (List.mem_of_getElem? (i := 32) rfl)))) (mvT hZ (hw _ (List.mem_of_getElem? (i := 32) rfl))) (mvT hZ (hw _ (List.mem_of_getElem? (i := 31) rfl))) (by decide) (backOf (W := 0) (rm5 l Z a0 hw [] b82 z62 z76 h84 n0 (Nat.le_trans Z0 K85.1) z56 z74 z57 G84_1 G84_2 G84_3 (own_nz hz57)) hZ (hw _ (List.mem_of_getElem? (i := 33) rfl)) (hw _ (List.mem_of_getElem? (i := 11) rfl)) (by decide) (by decide)) q86a q86c (g := (mkF m 237 #[.val (.int p0), .val (.int p1), .val (.int p2), .val (.int p3), .val (.int p4), .val (.int p5), .val (.int z56), .val (.int z57), .val (.int z59), .val (.int z61), .val (.int z62), .val (.int z63), .val (.int z65), .val (.long z67), .second, .val (.long z72), .second, .val (.int z73), .val (.int z74), .val (.int z76), .val (.int z78)] [(.int z76), (.int z62), (.ref b82)])) rfl (by rw [hml]; rfl) (Steps.refl _) (argsL := [(.int z62), (.int z76)]) (rest := []) (lenOf pd_3 rfl) rfl (by show 2 * 0 + _ ≤ _; exact Nat.le_of_eq rfl) (hb hby at_237) (fun _ _ => ⟨rfl, e84, (by decide : 1 + 0 ≤ _), (by decide : 3 + 0 ≤ _)⟩)
  dsimp only [Pt.U, Pt.locs, Pt.cells, Pt.slots] at X86 l86 y86 z86 st86 hQ86
  subst l86 y86 z86
  obtain ⟨rfl, N86q, e86⟩ := hQ86
  have N86 := Fr.app N84 N86q
  refine own_via (T86.setTop (mkF m 240 #[.val (.int p0), .val (.int p1), .val (.int p2), .val (.int p3), .val (.int p4), .val (.int p5), .val (.int z56), .val (.int z57), .val (.int z59), .val (.int z61), .val (.int z62), .val (.int z63), .val (.int z65), .val (.long z67), .second, .val (.long z72), .second, .val (.int z73), .val (.int z74), .val (.int z76), .val (.int z78)] [(.int (own_f5 z62 z76 z56 z74 z57))])) (fun t k => st86.trans k) ?_
  refine own_via (T86.setTop (mkF m 242 #[.val (.int p0), .val (.int p1), .val (.int p2), .val (.int p3), .val (.int p4), .val (.int p5), .val (.int z56), .val (.int z57), .val (.int z59), .val (.int z61), .val (.int z62), .val (.int z63), .val (.int z65), .val (.long z67), .second, .val (.long z72), .second, .val (.int z73), .val (.int z74), .val (.int z76), .val (.int z78)] [(.int z78), (.int (own_f5 z62 z76 z56 z74 z57))])) (fun t k => XS.iload X86.here hx rfl (hb hby at_240) rfl  k) ?_
  obtain ⟨z87, hz87⟩ : ∃ z : Int32, z = (if (own_f5 z62 z76 z56 z74 z57) = z78 then (1 : Int32) else (0 : Int32)) := ⟨_, rfl⟩
  refine own_via (T86.setTop (mkF m 250 #[.val (.int p0), .val (.int p1), .val (.int p2), .val (.int p3), .val (.int p4), .val (.int p5), .val (.int z56), .val (.int z57), .val (.int z59), .val (.int z61), .val (.int z62), .val (.int z63), .val (.int z65), .val (.long z67), .second, .val (.long z72), .second, .val (.int z73), .val (.int z74), .val (.int z76), .val (.int z78)] [(.int z87)])) (fun t k => ?_) ?_
  · skip
    by_cases hj242_88 : (own_f5 z62 z76 z56 z74 z57) = z78
    · refine XS.icmpNo X86.here hx rfl (hb hby at_242) rfl (teq hj242_88).2 (?_ : Steps p.tables e below (T86.setTop (mkF m 245 #[.val (.int p0), .val (.int p1), .val (.int p2), .val (.int p3), .val (.int p4), .val (.int p5), .val (.int z56), .val (.int z57), .val (.int z59), .val (.int z61), .val (.int z62), .val (.int z63), .val (.int z65), .val (.long z67), .second, .val (.long z72), .second, .val (.int z73), .val (.int z74), .val (.int z76), .val (.int z78)] [])) t)
      refine XS.iconst X86.here hx rfl (hb hby at_245) (?_ : Steps p.tables e below (T86.setTop (mkF m 246 #[.val (.int p0), .val (.int p1), .val (.int p2), .val (.int p3), .val (.int p4), .val (.int p5), .val (.int z56), .val (.int z57), .val (.int z59), .val (.int z61), .val (.int z62), .val (.int z63), .val (.int z65), .val (.long z67), .second, .val (.long z72), .second, .val (.int z73), .val (.int z74), .val (.int z76), .val (.int z78)] [(.int (1 : Int32))])) t)
      refine XS.goto X86.here hx rfl (pc0 := 246) (pc' := 250) rfl (hb hby at_246) (by decide) (by decide) (?_ : Steps p.tables e below (T86.setTop (mkF m 250 #[.val (.int p0), .val (.int p1), .val (.int p2), .val (.int p3), .val (.int p4), .val (.int p5), .val (.int z56), .val (.int z57), .val (.int z59), .val (.int z61), .val (.int z62), .val (.int z63), .val (.int z65), .val (.long z67), .second, .val (.long z72), .second, .val (.int z73), .val (.int z74), .val (.int z76), .val (.int z78)] [(.int (1 : Int32))])) t)
      have q_z87 := (hz87.trans (if_pos hj242_88))
      subst q_z87
      exact k
    · refine XS.icmpYes X86.here hx rfl (pc0 := 242) (pc' := 249) rfl (hb hby at_242) rfl (feq hj242_88).2 (by decide) (by decide) (?_ : Steps p.tables e below (T86.setTop (mkF m 249 #[.val (.int p0), .val (.int p1), .val (.int p2), .val (.int p3), .val (.int p4), .val (.int p5), .val (.int z56), .val (.int z57), .val (.int z59), .val (.int z61), .val (.int z62), .val (.int z63), .val (.int z65), .val (.long z67), .second, .val (.long z72), .second, .val (.int z73), .val (.int z74), .val (.int z76), .val (.int z78)] [])) t)
      refine XS.iconst X86.here hx rfl (hb hby at_249) (?_ : Steps p.tables e below (T86.setTop (mkF m 250 #[.val (.int p0), .val (.int p1), .val (.int p2), .val (.int p3), .val (.int p4), .val (.int p5), .val (.int z56), .val (.int z57), .val (.int z59), .val (.int z61), .val (.int z62), .val (.int z63), .val (.int z65), .val (.long z67), .second, .val (.long z72), .second, .val (.int z73), .val (.int z74), .val (.int z76), .val (.int z78)] [(.int (0 : Int32))])) t)
      have q_z87 := (hz87.trans (if_neg hj242_88))
      subst q_z87
      exact k
  refine own_leave X86 Bd.notSynchronized (v := some (.int (nar .boolean z87))) (fun h => by rw [Bd.returns] at h; cases h) (fun fs hr => retN X86 hx (t := .boolean) Bd.returns (by simp) (hb hby at_250) hr) ?_ (by decide) (by decide)
  refine ⟨?_, N86⟩
  rw [hz87, if_pos (own_law _ _ _ _ _ _ _ _ _ _ _ _ _ _ _ _ _ _ _ _ hz56 hz57 hz61 hz62 hz63 hz67 hz69 hz72 hz73 hz74 hz76 hz78)]; rfl
set_option maxRecDepth 65536 in
set_option maxHeartbeats 40000000 in
theorem comes_1 {Post : Tables → Env → Array Value → State → Outcome → State → Prop} (hpost : ∀ tb e args s v u, (limb_1_1.after args s (.returned v) u = true ∧ limb_1_2.after args s (.returned v) u = true ∧ True) → FrameEnd s (.returned v) u (Jvm.fieldLocs frame_1_writes args s ++ Jvm.arrayLocs frame_1_arrays args s ++ Jvm.staticLocs frame_1_statics s) 16 128 → Post tb e args s (.returned v) u) :
    ArmFor flags0 classFile x code maxLocals ret World_1 tables_1 room_1 Calls_1 rest_1 Pre_1 Post := by
  intro l hfl _ _ p e ha hc hk s m args below hf hA hF happ hP
  obtain ⟨hcalls, hrest, hpre⟩ := hP
  obtain ⟨-, -, -, hnamed, -, -, -, hat⟩ := (Spec.applies_iff hf).mp happ
  obtain ⟨hg, hn⟩ := and_e (Cond.before_iff.mp (show (Jvm.Cond.and given_1 narrow_1).before args s = true from hpre))
  obtain ⟨g0, g⟩ := and_e hg
  obtain ⟨ga0, g⟩ := and_e g
  obtain ⟨ga1, g⟩ := and_e g
  obtain ⟨ga2, g⟩ := and_e g
  obtain ⟨ga3, g⟩ := and_e g
  obtain ⟨ga4, g⟩ := and_e g
  have ga5 := g
  obtain ⟨w0, w1, w2, w3, w4, w5, rfl⟩ : ∃ w0 w1 w2 w3 w4 w5 : Value, args = #[w0, w1, w2, w3, w4, w5] := by
    have hs : args.size = 6 := by simpa [Cond.value, given_1] using g0
    obtain ⟨L⟩ := args
    match L, hs with
    | [w0, w1, w2, w3, w4, w5], _ => exact ⟨w0, w1, w2, w3, w4, w5, rfl⟩
  have hw := fun d (hd : d ∈ tables_1) => atoms_spec (ws := Jvm.Cond.code x code maxLocals ret :: tables_1) hat d (List.mem_cons_of_mem _ hd)
  have hfit : Fit s := fun {y c} hc i hi => by
    obtain ⟨ha, rfl⟩ := Array.getElem?_eq_some_iff.mp hc
    have q := List.all_eq_true.mp ((Array.all_eq_true_iff_forall_mem.mp hF) _ (Array.getElem_mem ha)) i (List.mem_range.mpr hi)
    simpa [Array.getElem?_eq_getElem hi] using q
  obtain ⟨i0, ei0⟩ := is_v ga0
  obtain rfl : w0 = (.int i0) := Option.some.inj ei0
  obtain ⟨i1, ei1⟩ := is_v ga1
  obtain rfl : w1 = (.int i1) := Option.some.inj ei1
  obtain ⟨i2, ei2⟩ := is_v ga2
  obtain rfl : w2 = (.int i2) := Option.some.inj ei2
  obtain ⟨i3, ei3⟩ := is_v ga3
  obtain rfl : w3 = (.int i3) := Option.some.inj ei3
  obtain ⟨i4, ei4⟩ := is_v ga4
  obtain rfl : w4 = (.int i4) := Option.some.inj ei4
  obtain ⟨i5, ei5⟩ := is_v ga5
  obtain rfl : w5 = (.int i5) := Option.some.inj ei5
  obtain ⟨n, o, h1, h2, h3, _, L, rfl, ⟨rfl, N⟩, hq⟩ := rm0 l s _ hw tables_1 i0 i1 i2 i3 i4 i5 s.heap s.heap.size (Nat.le_refl _)  p e ha hc hk s m _ below hf ((Spec.applies_iff_loose hf).mp happ).1 ⟨rfl, State.Warmed39.refl s, rfl⟩ trivial
  refine ⟨n, _, h1, h2, h3, hpost _ _ _ _ _ _ ⟨Cond.after_iff.mpr rfl, Cond.after_iff.mpr (eq_i res_at (Term.int_eval (1)) rfl), trivial⟩ ⟨hq.1, hq.2.1, (hq.2.2.sift fun y hy => Or.inr (N y hy)).mono (by decide) (by decide)⟩⟩
theorem main_1_1 : Claimed_1_1 := comes_1 fun _ _ _ _ _ _ h hF => ⟨h.1, hF⟩
theorem main_1_2 : Claimed_1_2 := comes_1 fun _ _ _ _ _ _ h hF => ⟨h.2.1, hF⟩
end Jvm.Pilot.@@N@@
namespace Jvm.Pilot.@@N@@
open Jvm Jvm.ClassFile Sem Op Lib Jvm.Free Jvm.Stand Jvm.Pilot.@@N@@.Jvm.D
/-! MADE BY PROGRAM (witnessworld.py) out of the Statement's table words and the real class files: 11 classes; the members and pool entries that the words name. The judged class is class 1, her method 1. -/
namespace start1
open Jvm.ClassFile
def u (s : String) : CpInfo := .utf8 (stringToUtf16 s)
/-- a pool by its gaps: so many unusable entries, then the entry; so many at the end -/
def gap : Nat → List CpInfo → List CpInfo
  | 0, r => r
  | n + 1, r => .unusable :: gap n r
def poolList (es : List (Nat × CpInfo)) (last : Nat) : List CpInfo := es.foldr (fun e r => gap e.1 (e.2 :: r)) (gap last [])
def pool (es : List (Nat × CpInfo)) (last : Nat) : Array CpInfo := ⟨poolList es last⟩
def fileOf (pool : Array CpInfo) (this : Nat) (attrs : Array Attribute := #[]) (ms : Array MethodInfo := #[]) (fl : Nat := 33) (sup : Nat := 0) (ifs : Array Nat := #[]) (fds : Array FieldInfo := #[]) : ClassFile where
  minorVersion := 0
  majorVersion := 65
  constantPool := pool
  accessFlags := fl
  thisClass := this
  superClass := sup
  interfaces := ifs
  fields := fds
  methods := ms
  attributes := attrs
def plain (name : String) (sup : Option ClassId) : Class where
  name := name
  kind := .ordinary
  loader := none
  accessFlags := 33
  super := sup
  interfaces := #[]
  cf := none
  fields := #[]
  methods := #[]
  instanceTypes := #[]
  staticTypes := #[]
  resolved := #[]
  callSites := []
  init := .initialized
  statics := none
  mirror := none

def pool0 : Array CpInfo := pool [(5, u "<init>"), (0, u "()V"), (1, .class_ 10), (1, u "java/lang/Object")] 113

def k0c0 : Code := { maxStack := 0, maxLocals := 1, code := object_method_1_code, exceptionTable := #[], attributes := #[] }
def k0m0 : Method := { name := "<init>", desc := "()V", sig := { parameters := [], returnType := none }, accessFlags := 1, code := some k0c0 }
/-- java/lang/Object -/
def k0 : Class := { plain "java/lang/Object" none with
  accessFlags := 33
  interfaces := #[]
  cf := some (fileOf pool0 8 #[] #[{ accessFlags := 1, nameIndex := 5, descriptorIndex := 6, attributes := #[] }] 33 0 #[] #[])
  fields := #[]
  methods := #[k0m0]
  instanceTypes := #[]
  staticTypes := #[]
  resolved := Array.replicate 124 none
  statics := none }

def pool1 : Array CpInfo := pool [(2, .class_ 4), (1, u "java/lang/Object"), (0, u "<init>"), (0, u "()V"), (0, .integer 268435455), (0, .integer 65536), (0, .integer 65535), (0, .integer 2147483647), (0, .long 18446744073709551615), (1, .methodref 14 15), (0, .class_ 16), (0, .nameAndType 17 18), (0, u "java/lang/Math"), (0, u "max"), (0, u "(JJ)J"), (0, .class_ 20), (0, u "com/example/grantbook/grantbook/CommandEntry$Positions"), (0, .methodref 19 22), (0, .nameAndType 5 23), (0, u "(III)V"), (0, .methodref 19 25), (0, .nameAndType 26 27), (0, u "contains"), (0, u "(II)Z"), (0, .class_ 29), (0, u "com/example/grantbook/grantbook/PositionsContainsPinLaw"), (2, u "law"), (0, u "(IIIIII)Z")] 7

def k1m0 : Method := { name := "<init>", desc := "()V", sig := { parameters := [], returnType := none }, accessFlags := 1, code := none }
def k1c1 : Code := { maxStack := 5, maxLocals := 21, code := code, exceptionTable := #[], attributes := #[] }
def k1m1 : Method := { name := "law", desc := "(IIIIII)Z", sig := { parameters := [.int, .int, .int, .int, .int, .int], returnType := some .boolean }, accessFlags := 9, code := some k1c1 }
/-- com/example/grantbook/grantbook/PositionsContainsPinLaw -/
def k1 : Class := { plain "com/example/grantbook/grantbook/PositionsContainsPinLaw" (some 0) with
  accessFlags := 49
  interfaces := #[]
  cf := some (fileOf pool1 28 #[] #[{ accessFlags := 1, nameIndex := 5, descriptorIndex := 6, attributes := #[] }, { accessFlags := 9, nameIndex := 32, descriptorIndex := 33, attributes := #[] }] 49 2 #[] #[])
  fields := #[]
  methods := #[k1m0, k1m1]
  instanceTypes := #[]
  staticTypes := #[]
  resolved := Array.replicate 41 none
  statics := none }

def pool2 : Array CpInfo := pool [(1, .class_ 2), (0, u "java/lang/Math"), (1, .class_ 6), (1, u "java/lang/Object"), (0, u "<init>"), (0, u "()V"), (89, .class_ 100), (1, u "java/lang/Math$RandomNumberGeneratorHolder"), (20, u "(JJ)J"), (50, u "negativeZeroFloatBits"), (0, u "J"), (2, u "negativeZeroDoubleBits"), (21, u "max"), (46, u "$assertionsDisabled"), (0, u "Z"), (91, u "twoToTheDoubleScaleDown"), (0, u "D"), (4, u "twoToTheDoubleScaleUp"), (9, u "E"), (3, u "PI"), (2, u "TAU"), (2, u "DEGREES_TO_RADIANS"), (0, u "RADIANS_TO_DEGREES")] 94

def k2m0 : Method := { name := "<init>", desc := "()V", sig := { parameters := [], returnType := none }, accessFlags := 2, code := none }
def k2c1 : Code := { maxStack := 4, maxLocals := 4, code := jdk_29_method_66_code, exceptionTable := #[], attributes := #[] }
def k2m1 : Method := { name := "max", desc := "(JJ)J", sig := { parameters := [.long, .long], returnType := some .long }, accessFlags := 9, code := some k2c1 }
/-- java/lang/Math -/
def k2 : Class := { plain "java/lang/Math" (some 0) with
  accessFlags := 49
  interfaces := #[]
  cf := some (fileOf pool2 1 #[.nestMembers #[98]] #[{ accessFlags := 2, nameIndex := 7, descriptorIndex := 8, attributes := #[] }, { accessFlags := 9, nameIndex := 198, descriptorIndex := 121, attributes := #[] }] 49 4 #[] #[{ accessFlags := 25, nameIndex := 354, descriptorIndex := 339, attributes := #[] }, { accessFlags := 25, nameIndex := 358, descriptorIndex := 339, attributes := #[] }, { accessFlags := 25, nameIndex := 361, descriptorIndex := 339, attributes := #[] }, { accessFlags := 26, nameIndex := 364, descriptorIndex := 339, attributes := #[] }, { accessFlags := 26, nameIndex := 365, descriptorIndex := 339, attributes := #[] }, { accessFlags := 26, nameIndex := 172, descriptorIndex := 173, attributes := #[] }, { accessFlags := 26, nameIndex := 176, descriptorIndex := 173, attributes := #[] }, { accessFlags := 8, nameIndex := 344, descriptorIndex := 339, attributes := #[] }, { accessFlags := 8, nameIndex := 338, descriptorIndex := 339, attributes := #[] }, { accessFlags := 4120, nameIndex := 245, descriptorIndex := 246, attributes := #[] }])
  fields := #[{ name := "E", type := .double, accessFlags := 25, slot := 0, constantValue := 0 }, { name := "PI", type := .double, accessFlags := 25, slot := 1, constantValue := 0 }, { name := "TAU", type := .double, accessFlags := 25, slot := 2, constantValue := 0 }, { name := "DEGREES_TO_RADIANS", type := .double, accessFlags := 26, slot := 3, constantValue := 0 }, { name := "RADIANS_TO_DEGREES", type := .double, accessFlags := 26, slot := 4, constantValue := 0 }, { name := "negativeZeroFloatBits", type := .long, accessFlags := 26, slot := 5, constantValue := 0 }, { name := "negativeZeroDoubleBits", type := .long, accessFlags := 26, slot := 6, constantValue := 0 }, { name := "twoToTheDoubleScaleUp", type := .double, accessFlags := 8, slot := 7, constantValue := 0 }, { name := "twoToTheDoubleScaleDown", type := .double, accessFlags := 8, slot := 8, constantValue := 0 }, { name := "$assertionsDisabled", type := .boolean, accessFlags := 4120, slot := 9, constantValue := 0 }]
  methods := #[k2m0, k2m1]
  instanceTypes := #[]
  staticTypes := #[.double, .double, .double, .double, .double, .long, .long, .double, .double, .boolean]
  resolved := Array.replicate 460 none
  statics := none }

def pool3 : Array CpInfo := pool [(1, .methodref 2 3), (0, .class_ 4), (0, .nameAndType 5 6), (0, u "java/lang/Object"), (0, u "<init>"), (0, u "()V"), (0, .class_ 8), (0, u "java/lang/Record")] 13

def k3c0 : Code := { maxStack := 1, maxLocals := 1, code := jdk_30_method_1_code, exceptionTable := #[], attributes := #[] }
def k3m0 : Method := { name := "<init>", desc := "()V", sig := { parameters := [], returnType := none }, accessFlags := 4, code := some k3c0 }
/-- java/lang/Record -/
def k3 : Class := { plain "java/lang/Record" (some 0) with
  accessFlags := 1057
  interfaces := #[]
  cf := some (fileOf pool3 7 #[] #[{ accessFlags := 4, nameIndex := 5, descriptorIndex := 6, attributes := #[] }] 1057 2 #[] #[])
  fields := #[]
  methods := #[k3m0]
  instanceTypes := #[]
  staticTypes := #[]
  resolved := Array.replicate 22 none
  statics := none }

def pool4 : Array CpInfo := pool [(1, .methodref 2 3), (0, .class_ 4), (0, .nameAndType 5 6), (0, u "java/lang/Record"), (0, u "<init>"), (0, u "()V"), (0, .fieldref 8 9), (0, .class_ 10), (0, .nameAndType 11 12), (0, u "com/example/grantbook/grantbook/CommandEntry$Positions"), (0, u "first"), (0, u "I"), (0, .fieldref 8 14), (0, .nameAndType 15 12), (0, u "last"), (0, .fieldref 8 17), (0, .nameAndType 18 12), (0, u "step"), (12, u "(III)V"), (3, u "contains"), (0, u "(II)Z"), (7, .class_ 45), (0, u "com/example/grantbook/grantbook/CommandEntry")] 21

def k4c0 : Code := { maxStack := 2, maxLocals := 4, code := prog_15_method_1_code, exceptionTable := #[], attributes := #[] }
def k4m0 : Method := { name := "<init>", desc := "(III)V", sig := { parameters := [.int, .int, .int], returnType := none }, accessFlags := 0, code := some k4c0 }
def k4c1 : Code := { maxStack := 2, maxLocals := 4, code := prog_15_method_2_code, exceptionTable := #[], attributes := #[] }
def k4m1 : Method := { name := "contains", desc := "(II)Z", sig := { parameters := [.int, .int], returnType := some .boolean }, accessFlags := 0, code := some k4c1 }
/-- com/example/grantbook/grantbook/CommandEntry$Positions -/
def k4 : Class := { plain "com/example/grantbook/grantbook/CommandEntry$Positions" (some 3) with
  accessFlags := 48
  interfaces := #[]
  cf := some (fileOf pool4 8 #[.nestHost 44] #[{ accessFlags := 0, nameIndex := 5, descriptorIndex := 31, attributes := #[] }, { accessFlags := 0, nameIndex := 35, descriptorIndex := 36, attributes := #[] }] 48 2 #[] #[{ accessFlags := 18, nameIndex := 11, descriptorIndex := 12, attributes := #[] }, { accessFlags := 18, nameIndex := 15, descriptorIndex := 12, attributes := #[] }, { accessFlags := 18, nameIndex := 18, descriptorIndex := 12, attributes := #[] }])
  fields := #[{ name := "first", type := .int, accessFlags := 18, slot := 0, constantValue := 0 }, { name := "last", type := .int, accessFlags := 18, slot := 1, constantValue := 0 }, { name := "step", type := .int, accessFlags := 18, slot := 2, constantValue := 0 }]
  methods := #[k4m0, k4m1]
  instanceTypes := #[.int, .int, .int]
  staticTypes := #[]
  resolved := Array.replicate 67 none
  statics := none }

def pool5 : Array CpInfo := pool [(1, u "java/lang/Cloneable"), (0, .class_ 1), (0, u "java/lang/Object"), (0, .class_ 3)] 3

/-- java/lang/Cloneable -/
def k5 : Class := { plain "java/lang/Cloneable" (some 0) with
  accessFlags := 1537
  interfaces := #[]
  cf := some (fileOf pool5 2 #[] #[] 1537 4 #[] #[])
  fields := #[]
  methods := #[]
  instanceTypes := #[]
  staticTypes := #[]
  resolved := Array.replicate 8 none
  statics := none }

def pool6 : Array CpInfo := pool [(1, u "java/io/Serializable"), (0, .class_ 1), (0, u "java/lang/Object"), (0, .class_ 3)] 3

/-- java/io/Serializable -/
def k6 : Class := { plain "java/io/Serializable" (some 0) with
  accessFlags := 1537
  interfaces := #[]
  cf := some (fileOf pool6 2 #[] #[] 1537 4 #[] #[])
  fields := #[]
  methods := #[]
  instanceTypes := #[]
  staticTypes := #[]
  resolved := Array.replicate 8 none
  statics := none }

/-- the primitive byte -/
def k7 : Class := { plain "byte" none with kind := .primitive 'B', accessFlags := 0x411 }
/-- [B -/
def k8 : Class := { plain "[B" (some 0) with kind := .array 7 .byte, interfaces := #[5, 6], accessFlags := 1041 }

/-- the primitive int -/
def k9 : Class := { plain "int" none with kind := .primitive 'I', accessFlags := 0x411 }
/-- [I -/
def k10 : Class := { plain "[I" (some 0) with kind := .array 9 .int, interfaces := #[5, 6], accessFlags := 1041 }

def heap : Heap := #[]
def classes : Array Class := #[k0, k1, k2, k3, k4, k5, k6, k7, k8, k9, k10]
def interned : List (Array UInt16 × Addr) := []
def slotsUsed : Nat := 0
def theMethod : MethodId := ⟨1, 1⟩
def args0 : Array Value := #[.int 5, .int 7, .int 3, .int 9, .int 2, .int 1]
def aboutOver (below : List Frame) : State where
  vm := { classes := classes, interned := interned.toArray }
  heap := heap
  slotsUsed := slotsUsed
  threads := #[{ frames := .invoking theMethod args0 :: below }]
def below0 : List Frame := [.native { method := ⟨0, 0⟩, args := #[] }]
def about1 : State := aboutOver below0
def p0 : Program := .bare "" "" ""
def e0 : Env := launch0.env 0 0 0
theorem w_frames : about1.frames = Frame.invoking theMethod args0 :: below0 := rfl
set_option maxRecDepth 65536 in
theorem w_args : argsFit about1.vm theMethod args0 = true := by decide +kernel
set_option maxRecDepth 65536 in
theorem w_heap : heapFits about1 = true := by decide +kernel
set_option maxRecDepth 65536 in
theorem w_runnable : about1.curStatus? = some .runnable := by decide +kernel
set_option maxRecDepth 65536 in
theorem w_alone : about1.alone = true := by decide +kernel
set_option maxRecDepth 65536 in
theorem w_named : about1.methodNamed? x = some theMethod := by decide +kernel
set_option maxRecDepth 65536 in
theorem w_hears : about1.hears theMethod below0 = true := by decide +kernel
set_option maxRecDepth 65536 in
theorem w_ripe : about1.ripe theMethod args0 below0 = true := by decide +kernel
theorem w_running : about1.status = .running := rfl
set_option maxRecDepth 65536 in
theorem w_room : about1.hasRoom e0.platform room_1 = true :=
  launch0.hasRoom_least _ room_1 (by decide +kernel) (by decide +kernel) (by decide +kernel) (by decide +kernel) (by decide +kernel) (by decide +kernel)
theorem allAtoms_all (ts : List Jvm.Cond) (a : Array Jvm.Value) (st : Jvm.State) : (allAtoms ts).before a st = ts.all (fun c => c.before a st) := by
  induction ts with
  | nil => rfl
  | cons c t ih =>
    show (Jvm.Cond.and c (allAtoms t)).before a st = _
    rw [Jvm.Cond.before_and, ih, List.all_cons]
def words1 : List Jvm.Cond := Jvm.Cond.code x code maxLocals ret :: tables_1
/-- a 'code' word, met by the world's own term for the bytes: nothing is compared byte by byte -/
theorem code_word {y : MethodName} {bytes : ByteArray} {mx : Nat} {rt : Option FieldType} {a : Array Value} {s : State} {m : MethodId} {meth : Method} {c : Code} (h1 : s.methodNamed? y = some m) (h2 : s.vm.method? m = some meth) (h3 : meth.code = some c) (h4 : c.code = bytes)
    (h5 : (c.maxLocals == mx && c.exceptionTable.isEmpty && decide (c.maxStack ≤ mostOperands) && decide (meth.sig.returnType = rt) && !meth.locks && decide (parseMethodDescriptor y.desc = some meth.sig)) = true) : (Jvm.Cond.code y bytes mx rt).before a s = true := by
  simp only [Bool.and_eq_true, beq_iff_eq, Bool.not_eq_true', decide_eq_true_eq] at h5
  obtain ⟨⟨⟨⟨⟨g1, g2⟩, g3⟩, g4⟩, g5⟩, g6⟩ := h5
  simp [Cond.before, Cond.holds, Cond.value, h1, h2, h3, h4, g1, g2, g3, g4, g5, g6]
def isCode : Jvm.Cond → Bool
  | .code _ _ _ _ => true
  | _ => false
theorem all_split {L : List Jvm.Cond} {P : Jvm.Cond → Bool} (h1 : L.all (fun c => isCode c || P c) = true) (h2 : ∀ c ∈ L.filter isCode, P c = true) : L.all P = true := by
  refine List.all_eq_true.mpr fun c hc => ?_
  have h := List.all_eq_true.mp h1 c hc
  rcases Bool.eq_false_or_eq_true (isCode c) with hi | hi
  · exact h2 c (List.mem_filter.mpr ⟨hc, hi⟩)
  · simpa [hi] using h
set_option maxRecDepth 65536 in
theorem w_c0 : (Jvm.Cond.code x code maxLocals ret).before args0 about1 = true := code_word (m := ⟨1, 1⟩) (meth := k1m1) (c := k1c1) (by decide +kernel) rfl rfl rfl (by decide +kernel)
set_option maxRecDepth 65536 in
theorem w_c1 : (Jvm.Cond.code ({ cls := "java/lang/Math", name := "max", desc := "(JJ)J" } : Jvm.MethodName) jdk_29_method_66_code (4 : Nat) (Option.some Jvm.ClassFile.FieldType.long)).before args0 about1 = true := code_word (m := ⟨2, 1⟩) (meth := k2m1) (c := k2c1) (by decide +kernel) rfl rfl rfl (by decide +kernel)
set_option maxRecDepth 65536 in
theorem w_c2 : (Jvm.Cond.code ({ cls := "com/example/grantbook/grantbook/CommandEntry$Positions", name := "<init>", desc := "(III)V" } : Jvm.MethodName) prog_15_method_1_code (4 : Nat) (Option.none : Option Jvm.ClassFile.FieldType)).before args0 about1 = true := code_word (m := ⟨4, 0⟩) (meth := k4m0) (c := k4c0) (by decide +kernel) rfl rfl rfl (by decide +kernel)
set_option maxRecDepth 65536 in
theorem w_c3 : (Jvm.Cond.code ({ cls := "java/lang/Record", name := "<init>", desc := "()V" } : Jvm.MethodName) jdk_30_method_1_code (1 : Nat) (Option.none : Option Jvm.ClassFile.FieldType)).before args0 about1 = true := code_word (m := ⟨3, 0⟩) (meth := k3m0) (c := k3c0) (by decide +kernel) rfl rfl rfl (by decide +kernel)
set_option maxRecDepth 65536 in
theorem w_c4 : (Jvm.Cond.code ({ cls := "java/lang/Object", name := "<init>", desc := "()V" } : Jvm.MethodName) object_method_1_code (1 : Nat) (Option.none : Option Jvm.ClassFile.FieldType)).before args0 about1 = true := code_word (m := ⟨0, 0⟩) (meth := k0m0) (c := k0c0) (by decide +kernel) rfl rfl rfl (by decide +kernel)
set_option maxRecDepth 65536 in
theorem w_c5 : (Jvm.Cond.code ({ cls := "com/example/grantbook/grantbook/CommandEntry$Positions", name := "contains", desc := "(II)Z" } : Jvm.MethodName) prog_15_method_2_code (4 : Nat) (Option.some Jvm.ClassFile.FieldType.boolean)).before args0 about1 = true := code_word (m := ⟨4, 1⟩) (meth := k4m1) (c := k4c1) (by decide +kernel) rfl rfl rfl (by decide +kernel)
def codes1 : List Jvm.Cond := [Jvm.Cond.code x code maxLocals ret, Jvm.Cond.code ({ cls := "java/lang/Math", name := "max", desc := "(JJ)J" } : Jvm.MethodName) jdk_29_method_66_code (4 : Nat) (Option.some Jvm.ClassFile.FieldType.long), Jvm.Cond.code ({ cls := "com/example/grantbook/grantbook/CommandEntry$Positions", name := "<init>", desc := "(III)V" } : Jvm.MethodName) prog_15_method_1_code (4 : Nat) (Option.none : Option Jvm.ClassFile.FieldType), Jvm.Cond.code ({ cls := "java/lang/Record", name := "<init>", desc := "()V" } : Jvm.MethodName) jdk_30_method_1_code (1 : Nat) (Option.none : Option Jvm.ClassFile.FieldType), Jvm.Cond.code ({ cls := "java/lang/Object", name := "<init>", desc := "()V" } : Jvm.MethodName) object_method_1_code (1 : Nat) (Option.none : Option Jvm.ClassFile.FieldType), Jvm.Cond.code ({ cls := "com/example/grantbook/grantbook/CommandEntry$Positions", name := "contains", desc := "(II)Z" } : Jvm.MethodName) prog_15_method_2_code (4 : Nat) (Option.some Jvm.ClassFile.FieldType.boolean)]
set_option maxRecDepth 65536 in
theorem codes_eq : words1.filter isCode = codes1 := rfl
theorem w_codes : ∀ c ∈ words1.filter isCode, c.before args0 about1 = true := by
  rw [codes_eq]
  intro c hc
  simp only [codes1, List.mem_cons, List.not_mem_nil, or_false] at hc
  rcases hc with rfl | rfl | rfl | rfl | rfl | rfl
  · exact w_c0
  · exact w_c1
  · exact w_c2
  · exact w_c3
  · exact w_c4
  · exact w_c5
set_option maxRecDepth 65536 in
theorem w_t1 : (words1.take 24).all (fun c => isCode c || c.before args0 about1) = true := by decide +kernel
set_option maxRecDepth 65536 in
theorem w_t2 : (words1.drop 24).all (fun c => isCode c || c.before args0 about1) = true := by decide +kernel
theorem w_tables : (allAtoms (Jvm.Cond.code x code maxLocals ret :: tables_1)).before args0 about1 = true := by
  rw [allAtoms_all]
  show words1.all (fun c => c.before args0 about1) = true
  refine all_split ?_ w_codes
  rw [← List.take_append_drop 24 words1, List.all_append, w_t1, w_t2]
  rfl
set_option maxRecDepth 65536 in
theorem w_case : (Jvm.Cond.and given_1 narrow_1).before args0 about1 = true := by decide +kernel
theorem w_applies : (headSpec (Jvm.Cond.code x code maxLocals ret :: tables_1) room_1).applies x e0.platform about1 = true :=
  (Spec.applies_iff w_frames).mpr ⟨w_running, w_runnable, w_alone, w_named, w_hears, w_ripe, w_room, w_tables⟩
theorem atStart : AtStart classFile x code maxLocals ret World_1 tables_1 room_1 Calls_1 rest_1 Pre_1 launch0 p0 e0 about1 theMethod args0 below0 :=
  ⟨lists_1, trivial, launch0.admits_env _ _ _, launch0.least_env, fairChoices_fair.cas, fairChoices_fair.clock, w_frames, w_args, w_heap, w_applies, trivial, trivial, w_case⟩
end start1
theorem witness_1 : WitnessClaimed_1 := ⟨start1.p0, start1.e0, start1.about1, start1.theMethod, start1.args0, start1.below0, start1.atStart⟩
end Jvm.Pilot.@@N@@
