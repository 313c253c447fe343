import JvmDerived
import JvmDerived.Pilot.@@N@@Statement
import JvmDerived.Pilot.@@N@@Code
set_option linter.unusedVariables false
set_option linter.unusedSimpArgs false
namespace Jvm.RoadKit
open Sem ClassFile Op Lib Jvm.Stand Jvm.Free Jvm.LawKit
section New
variable {p : Program} {l : Launch} {e : Env} {R : Room} {s : State} {m : MethodId} {args : Array Value} {below : List Frame} {meth : Method} {c : Code} {T : State} {locs : List Loc} {cells slots : Nat}
theorem retI (X : Stand p l e R s m args below meth c T locs cells slots) (hx : p.tables.exec = Jvm.exec) {pc : Nat} {Ls : Array Slot} {z : Int32} {rest : List Value} (hret : meth.sig.returnType = some .int) (hd : decode c.code pc = .ok (.ireturn, 1)) {fs : List Frame}
    (hl : ∀ (f : JFrame) (acts : List Action), f.method = m → f.locked = none → f.entered = [] → (doReturn e (T.setTop f) acts (some (.int z))).1 = T.setFrames fs) : Steps p.tables e below (T.setTop (mkF m pc Ls (.int z :: rest))) (T.setFrames fs) :=
  retOut X hx hret rfl (Or.inl ⟨rfl, Or.inl rfl, _, rfl⟩) hd hl
end New
end Jvm.RoadKit
namespace Jvm.Pilot.@@N@@
open Jvm Jvm.ClassFile Sem Op Lib Jvm.Free Jvm.Stand Jvm.LawKit Jvm.RoadKit Bundle Jvm.Pilot.@@N@@.Jvm.D
/-! own_Goes: from A the run comes to a state of which P holds -/
def own_Goes (p : Program) (e : Env) (below : List Frame) (P : State → Prop) (A : State) : Prop := ∃ B, Steps p.tables e below A B ∧ P B
def own_Fin (s : State) (below : List Frame) (QQ : Option Value → Heap → List Loc → Prop) (C N : Nat) (B : State) : Prop := ∃ v L, B.status = .running ∧ Ended B below (.returned v) ∧ QQ v B.heap L ∧ FrameEnd s (.returned v) B L C N
theorem own_via {p : Program} {e : Env} {below : List Frame} {P : State → Prop} {A : State} (B : State) (h : ∀ t, Steps p.tables e below B t → Steps p.tables e below A t) (k : own_Goes p e below P B) : own_Goes p e below P A := by
  obtain ⟨t, h1, h2⟩ := k
  exact ⟨t, h t h1, h2⟩
theorem own_body {p : Program} {e : Env} {below : List Frame} {s s₁ : State} {QQ : Option Value → Heap → List Loc → Prop} {C N ml : Nat} {m : MethodId} {args : Array Value} {F : JFrame} (hF : entryFrame m args ml = F) (k : own_Goes p e below (own_Fin s below QQ C N) (s₁.setTop F)) :
    ∃ s₂ o, Steps p.tables e below (s₁.setTop (entryFrame m args ml)) s₂ ∧ s₂.status = .running ∧ Ended s₂ below o ∧ (∃ v L, o = .returned v ∧ QQ v s₂.heap L ∧ FrameEnd s o s₂ L C N) := by
  obtain ⟨B, h1, v, L, h2, h3, h4, h5⟩ := k
  exact ⟨B, .returned v, hF ▸ h1, h2, h3, v, L, rfl, h4, h5⟩
theorem own_leave {p : Program} {l : Launch} {e : Env} {R : Room} {s : State} {m : MethodId} {args : Array Value} {below : List Frame} {meth : Method} {c : Code} {T : State} {locs : List Loc} {cells slots : Nat} {QQ : Option Value → Heap → List Loc → Prop} {C N : Nat}
    (X : Stand p l e R s m args below meth c T locs cells slots) (hlocks : meth.locks = false) {v : Option Value} (hv : meth.sig.returnType = none → v = none) {F : JFrame}
    (hstep : ∀ fs, (∀ (f : JFrame) (acts : List Action), f.method = m → f.locked = none → f.entered = [] → (doReturn e (T.setTop f) acts v).1 = T.setFrames fs) → Steps p.tables e below (T.setTop F) (T.setFrames fs))
    (hq : QQ v T.heap locs) (hc : cells ≤ C) (hn : slots ≤ N) : own_Goes p e below (own_Fin s below QQ C N) (T.setTop F) := by
  obtain ⟨fs, hr, hrun, hended, hW, hsame⟩ := X.leave hv hlocks
  exact ⟨_, hstep fs hr, v, locs, hrun, hended, hq, ⟨_, rfl⟩, hW, hsame.mono hc hn⟩
/-- what a body that writes nothing leaves -/
def own_Q (r : Option Value) (h0 : Heap) (n0 : Nat) (v : Option Value) (h : Heap) (L : List Loc) : Prop := v = r ∧ Fr n0 L ∧ h = h0
theorem d2_0 : decode jdk_30_method_1_code 0 = .ok (.aload_n 0, 1) := by decide +kernel
theorem d2_1 : decode jdk_30_method_1_code 1 = .ok (.invokespecial 1, 3) := by decide +kernel
theorem d2_4 : decode jdk_30_method_1_code 4 = .ok (.return_, 1) := by decide +kernel
theorem pn_java_lang_Record : plainName "java/lang/Record" = true := by first | (simp [plainName, overriddenIn]; done) | decide +kernel
theorem ef_2 (m : MethodId) (p0 : Addr) : entryFrame m #[(.ref p0)] 1 = mkF m 0 #[.val (.ref p0)] [] := by first | (simp [entryFrame, mkF, argsToLocals, Value.category]; done) | rfl
set_option maxRecDepth 65536 in
set_option maxHeartbeats 40000000 in
theorem rm2 (l : Launch) (Z : State) (a0 : Array Value) (hw : ∀ d ∈ tables_1, d.before a0 Z = true) (ws : List Jvm.Cond) (p0 : Addr) (h0 : Heap) (n0 : Nat) (Z0 : n0 ≤ h0.size)  :
    MetFree l (⟨"java/lang/Record", "<init>", "()V"⟩ : MethodName) (head1 (Jvm.Cond.code (⟨"java/lang/Record", "<init>", "()V"⟩ : MethodName) jdk_30_method_1_code 1 none :: ws) ({ frames := 1, cells := 0, slots := 0, locals := 12 } : Room)) (fun a U => a = #[(.ref p0)] ∧ Z.Warmed39 U.vm ∧ U.heap = h0) (fun _ _ _ _ _ => True) (fun _ U o U' => ∃ v L, o = .returned v ∧ (own_Q none h0 n0) v U'.heap L ∧ FrameEnd U o U' L ({ frames := 1, cells := 0, slots := 0, locals := 12 } : Room).cells ({ frames := 1, cells := 0, slots := 0, locals := 12 } : Room).slots) := by
  refine MetFree.of_bodySF (plainFor_of_name pn_java_lang_Record) hisR ?_
  intro p e s m args below meth c s₁ Bd hml0 hP hK
  obtain ⟨rfl, hZ, hh⟩ := hP
  have hx := Bd.exec
  have hby := Bd.bytes
  have hml : c.maxLocals = 1 := hml0
  have hown : s.vm.findClass "java/lang/Record" = some m.cls := findClass_of_methodNamed Bd.named
  have hnm := (name_of_methodNamed Bd.named Bd.method).1
  have X0 : Stand p l e ({ frames := 1, cells := 0, slots := 0, locals := 12 } : Room) s m #[(.ref p0)] below meth c s₁ [] 0 0 := Stand.of_body Bd
  have e0 : s₁.heap = h0 := by rw [← hh, Bd.state]; rfl
  have N0 := Fr.nil n0
  refine own_body (QQ := (own_Q none h0 n0)) (ef_2 m p0) ?_
  refine own_via (s₁.setTop (mkF m 1 #[.val (.ref p0)] [(.ref p0)])) (fun t k => XS.aloadN X0.here hx rfl (hb hby d2_0) rfl rfl k) ?_
  obtain ⟨T1, X1, e1, st1⟩ := initO X0 hx hZ hown (hw _ (List.mem_of_getElem? (i := 11) rfl)) (hw _ (List.mem_of_getElem? (i := 12) rfl)) (hw _ (List.mem_of_getElem? (i := 13) rfl)) e0 (g := (mkF m 1 #[.val (.ref p0)] [(.ref p0)])) rfl (by rw [hml]; rfl) rfl (hb hby d2_1) (by decide) (W := 0) (by show 2 * 0 + _ ≤ _; exact Nat.le_of_eq rfl) (by decide)
  refine own_via (T1.setTop (mkF m 4 #[.val (.ref p0)] [])) (fun t k => st1 t k) ?_
  refine own_leave X1 Bd.notSynchronized (v := none) (fun _ => rfl) (fun fs hr => X1.returnOut hx Bd.returns (hb hby d2_4) hr) ?_ (by decide) (by decide)
  refine ⟨?_, N0, e1⟩
  rfl
def own_Q1 (Z : State) (p0 : Addr) (p1 : Int64)  (h0 : Heap) (n0 : Nat) (v : Option Value) (h : Heap) (L : List Loc) : Prop := v = none ∧ Fr n0 L ∧ Keep h0 h [p0] ∧ Exa Z h p0 "com/example/ragged_cursor/raggedcursor/ids/Id" ∧ Fld Z h p0 "com/example/ragged_cursor/raggedcursor/ids/Id" "bits" "J" (.long p1)
theorem d1_0 : decode prog_14_method_1_code 0 = .ok (.aload_n 0, 1) := by decide +kernel
theorem d1_1 : decode prog_14_method_1_code 1 = .ok (.invokespecial 1, 3) := by decide +kernel
theorem d1_4 : decode prog_14_method_1_code 4 = .ok (.aload_n 0, 1) := by decide +kernel
theorem d1_5 : decode prog_14_method_1_code 5 = .ok (.lload_n 1, 1) := by decide +kernel
theorem d1_6 : decode prog_14_method_1_code 6 = .ok (.putfield 7, 3) := by decide +kernel
theorem d1_9 : decode prog_14_method_1_code 9 = .ok (.return_, 1) := by decide +kernel
theorem pd_0 : parseMethodDescriptor "()V" = some ⟨[], none⟩ := by decide +kernel
theorem pn_com_example_ragged_cursor_raggedcursor_ids_Id : plainName "com/example/ragged_cursor/raggedcursor/ids/Id" = true := by first | (simp [plainName, overriddenIn]; done) | decide +kernel
theorem ef_1 (m : MethodId) (p0 : Addr) (p1 : Int64) : entryFrame m #[(.ref p0), (.long p1)] 3 = mkF m 0 #[.val (.ref p0), .val (.long p1), .second] [] := by first | (simp [entryFrame, mkF, argsToLocals, Value.category]; done) | rfl
set_option maxRecDepth 65536 in
set_option maxHeartbeats 40000000 in
theorem rm1 (l : Launch) (Z : State) (a0 : Array Value) (hw : ∀ d ∈ tables_1, d.before a0 Z = true) (ws : List Jvm.Cond) (p0 : Addr) (p1 : Int64) (h0 : Heap) (n0 : Nat) (Z0 : n0 ≤ h0.size) (P0 : Fld Z h0 p0 "com/example/ragged_cursor/raggedcursor/ids/Id" "bits" "J" (.long (0 : Int64))) (P1 : Exa Z h0 p0 "com/example/ragged_cursor/raggedcursor/ids/Id") (gg_p0 : n0 ≤ p0) :
    MetFree l (⟨"com/example/ragged_cursor/raggedcursor/ids/Id", "<init>", "(J)V"⟩ : MethodName) (head1 (Jvm.Cond.code (⟨"com/example/ragged_cursor/raggedcursor/ids/Id", "<init>", "(J)V"⟩ : MethodName) prog_14_method_1_code 3 none :: ws) ({ frames := 2, cells := 0, slots := 0, locals := 24 } : Room)) (fun a U => a = #[(.ref p0), (.long p1)] ∧ Z.Warmed39 U.vm ∧ U.heap = h0) (fun _ _ _ _ _ => True) (fun _ U o U' => ∃ v L, o = .returned v ∧ (own_Q1 Z p0 p1  h0 n0) v U'.heap L ∧ FrameEnd U o U' L ({ frames := 2, cells := 0, slots := 0, locals := 24 } : Room).cells ({ frames := 2, cells := 0, slots := 0, locals := 24 } : Room).slots) := by
  refine MetFree.of_bodySF (plainFor_of_name pn_com_example_ragged_cursor_raggedcursor_ids_Id) hisR ?_
  intro p e s m args below meth c s₁ Bd hml0 hP hK
  obtain ⟨rfl, hZ, hh⟩ := hP
  have hx := Bd.exec
  have hby := Bd.bytes
  have hml : c.maxLocals = 3 := hml0
  have hown : s.vm.findClass "com/example/ragged_cursor/raggedcursor/ids/Id" = some m.cls := findClass_of_methodNamed Bd.named
  have hnm := (name_of_methodNamed Bd.named Bd.method).1
  have X0 : Stand p l e ({ frames := 2, cells := 0, slots := 0, locals := 24 } : Room) s m #[(.ref p0), (.long p1)] below meth c s₁ [] 0 0 := Stand.of_body Bd
  have e0 : s₁.heap = h0 := by rw [← hh, Bd.state]; rfl
  have N0 := Fr.nil n0
  refine own_body (QQ := (own_Q1 Z p0 p1  h0 n0)) (ef_1 m p0 p1) ?_
  refine own_via (s₁.setTop (mkF m 1 #[.val (.ref p0), .val (.long p1), .second] [(.ref p0)])) (fun t k => XS.aloadN X0.here hx rfl (hb hby d1_0) rfl rfl k) ?_
  obtain ⟨_, _, ⟨T2, L2, k2, n2⟩, -, X2, ⟨Lc2, hQ2, l2, y2, z2⟩, st2⟩ := X0.specialBack hx (y := (⟨"java/lang/Record", "<init>", "()V"⟩ : MethodName)) rfl hown (mvT hZ (hw _ (List.mem_of_getElem? (i := 6) rfl))) (mvT hZ (hw _ (List.mem_of_getElem? (i := 7) rfl))) (mvT hZ (hw _ (List.mem_of_getElem? (i := 10) rfl))) (by decide) (backOf (W := 0) (rm2 l Z a0 hw [] p0 h0 n0 (Nat.le_trans Z0 (Keep.refl h0 [p0]).1)) hZ (hw _ (List.mem_of_getElem? (i := 10) rfl)) (hw _ (List.mem_of_getElem? (i := 9) rfl)) (by decide) (by decide)) (g := (mkF m 1 #[.val (.ref p0), .val (.long p1), .second] [(.ref p0)])) rfl (by rw [hml]; rfl) (Steps.refl _) (a := p0) (argsL := []) (rest := []) (lenOf pd_0 rfl) rfl (by show 2 * 0 + _ ≤ _; exact Nat.le_of_eq rfl) (hb hby d1_1) (fun _ _ => ⟨rfl, e0, (by decide : 0 + 0 ≤ _), (by decide : 0 + 0 ≤ _)⟩)
  dsimp only [Pt.U, Pt.locs, Pt.cells, Pt.slots] at X2 l2 y2 z2 st2 hQ2
  subst l2 y2 z2
  obtain ⟨rfl, N2q, e2⟩ := hQ2
  have N2 := Fr.app N0 N2q
  refine own_via (T2.setTop (mkF m 4 #[.val (.ref p0), .val (.long p1), .second] [])) (fun t k => st2.trans k) ?_
  refine own_via (T2.setTop (mkF m 5 #[.val (.ref p0), .val (.long p1), .second] [(.ref p0)])) (fun t k => XS.aloadN X2.here hx rfl (hb hby d1_4) rfl rfl k) ?_
  refine own_via (T2.setTop (mkF m 6 #[.val (.ref p0), .val (.long p1), .second] [(.long p1), (.ref p0)])) (fun t k => XS.lloadN X2.here hx rfl (hb hby d1_5) rfl  k) ?_
  obtain ⟨T3, h3, X3, e3, W3, st3⟩ := putF X2 hx hZ hown (host := "") (Or.inl (hw _ (List.mem_of_getElem? (i := 14) rfl))) Via.refl e2 P0 P1 (Or.inr ⟨(hw _ (List.mem_of_getElem? (i := 15) rfl)), rfl, hnm⟩) (hw _ (List.mem_of_getElem? (i := 1) rfl)) (ty := .long) (by decide) rfl rfl (g := (mkF m 6 #[.val (.ref p0), .val (.long p1), .second] [(.long p1), (.ref p0)])) rfl rfl (hb hby d1_6)
  have Fw3 := P0.same W3
  have N3 := Fr.snoc X3 N2 gg_p0
  have K4 : Keep h0 h3 [p0] := (Keep.refl h0 [p0]).wr W3 (Or.inl (List.mem_of_getElem? (i := 0) rfl))
  refine own_via (T3.setTop (mkF m 9 #[.val (.ref p0), .val (.long p1), .second] [])) (fun t k => st3 t k) ?_
  refine own_leave X3 Bd.notSynchronized (v := none) (fun _ => rfl) (fun fs hr => X3.returnOut hx Bd.returns (hb hby d1_9) hr) ?_ (by decide) (by decide)
  have F5 := (P1.wr W3)
  show (own_Q1 Z p0 p1  h0 n0) _ T3.heap _
  rw [e3]
  exact ⟨rfl, N3, K4, F5, Fw3⟩
def own_f6 (p0 : Int64) (p1 : Int64) : Int32 := (if p0 < p1 then (-1 : Int32) else (if p0 = p1 then (0 : Int32) else (1 : Int32)))
theorem d6_0 : decode jdk_35_method_42_code 0 = .ok (.lload_n 0, 1) := by decide +kernel
theorem d6_1 : decode jdk_35_method_42_code 1 = .ok (.lload_n 2, 1) := by decide +kernel
theorem d6_2 : decode jdk_35_method_42_code 2 = .ok (.lcmp, 1) := by decide +kernel
theorem d6_3 : decode jdk_35_method_42_code 3 = .ok (.ifCond .ge 7, 3) := by decide +kernel
theorem d6_6 : decode jdk_35_method_42_code 6 = .ok (.iconst (-1), 1) := by decide +kernel
theorem d6_7 : decode jdk_35_method_42_code 7 = .ok (.goto 14, 3) := by decide +kernel
theorem d6_10 : decode jdk_35_method_42_code 10 = .ok (.lload_n 0, 1) := by decide +kernel
theorem d6_11 : decode jdk_35_method_42_code 11 = .ok (.lload_n 2, 1) := by decide +kernel
theorem d6_12 : decode jdk_35_method_42_code 12 = .ok (.lcmp, 1) := by decide +kernel
theorem d6_13 : decode jdk_35_method_42_code 13 = .ok (.ifCond .ne 7, 3) := by decide +kernel
theorem d6_16 : decode jdk_35_method_42_code 16 = .ok (.iconst 0, 1) := by decide +kernel
theorem d6_17 : decode jdk_35_method_42_code 17 = .ok (.goto 4, 3) := by decide +kernel
theorem d6_20 : decode jdk_35_method_42_code 20 = .ok (.iconst 1, 1) := by decide +kernel
theorem d6_21 : decode jdk_35_method_42_code 21 = .ok (.ireturn, 1) := by decide +kernel
theorem pn_java_lang_Long : plainName "java/lang/Long" = true := by first | (simp [plainName, overriddenIn]; done) | decide +kernel
theorem ef_6 (m : MethodId) (p0 : Int64) (p1 : Int64) : entryFrame m #[(.long p0), (.long p1)] 4 = mkF m 0 #[.val (.long p0), .second, .val (.long p1), .second] [] := by first | (simp [entryFrame, mkF, argsToLocals, Value.category]; done) | rfl
set_option maxRecDepth 65536 in
set_option maxHeartbeats 40000000 in
theorem rm6 (l : Launch) (Z : State) (a0 : Array Value) (hw : ∀ d ∈ tables_1, d.before a0 Z = true) (ws : List Jvm.Cond) (p0 : Int64) (p1 : Int64) (h0 : Heap) (n0 : Nat) (Z0 : n0 ≤ h0.size)  :
    MetFree l (⟨"java/lang/Long", "compare", "(JJ)I"⟩ : MethodName) (head1 (Jvm.Cond.code (⟨"java/lang/Long", "compare", "(JJ)I"⟩ : MethodName) jdk_35_method_42_code 4 (some .int) :: ws) ({ frames := 0, cells := 0, slots := 0, locals := 0 } : Room)) (fun a U => a = #[(.long p0), (.long p1)] ∧ Z.Warmed39 U.vm ∧ U.heap = h0) (fun _ _ _ _ _ => True) (fun _ U o U' => ∃ v L, o = .returned v ∧ (own_Q (some (.int (own_f6 p0 p1))) h0 n0) v U'.heap L ∧ FrameEnd U o U' L ({ frames := 0, cells := 0, slots := 0, locals := 0 } : Room).cells ({ frames := 0, cells := 0, slots := 0, locals := 0 } : Room).slots) := by
  refine MetFree.of_bodySF (plainFor_of_name pn_java_lang_Long) hisR ?_
  intro p e s m args below meth c s₁ Bd hml0 hP hK
  obtain ⟨rfl, hZ, hh⟩ := hP
  have hx := Bd.exec
  have hby := Bd.bytes
  have hml : c.maxLocals = 4 := hml0
  have hown : s.vm.findClass "java/lang/Long" = some m.cls := findClass_of_methodNamed Bd.named
  have hnm := (name_of_methodNamed Bd.named Bd.method).1
  have X0 : Stand p l e ({ frames := 0, cells := 0, slots := 0, locals := 0 } : Room) s m #[(.long p0), (.long p1)] below meth c s₁ [] 0 0 := Stand.of_body Bd
  have e0 : s₁.heap = h0 := by rw [← hh, Bd.state]; rfl
  have N0 := Fr.nil n0
  refine own_body (QQ := (own_Q (some (.int (own_f6 p0 p1))) h0 n0)) (ef_6 m p0 p1) ?_
  refine own_via (s₁.setTop (mkF m 1 #[.val (.long p0), .second, .val (.long p1), .second] [(.long p0)])) (fun t k => XS.lloadN X0.here hx rfl (hb hby d6_0) rfl  k) ?_
  refine own_via (s₁.setTop (mkF m 2 #[.val (.long p0), .second, .val (.long p1), .second] [(.long p1), (.long p0)])) (fun t k => XS.lloadN X0.here hx rfl (hb hby d6_1) rfl  k) ?_
  refine own_via (s₁.setTop (mkF m 3 #[.val (.long p0), .second, .val (.long p1), .second] [(.int (lcmpW p0 p1))])) (fun t k => XS.lcmp X0.here hx rfl (hb hby d6_2) rfl k) ?_
  by_cases hc3_8 : p0 < p1
  · refine own_via (s₁.setTop (mkF m 6 #[.val (.long p0), .second, .val (.long p1), .second] [])) (fun t k => XS.ifNo X0.here hx rfl (hb hby d6_3) rfl ((if0 _ _).trans (tlt ((lw_lt p0 p1).mpr hc3_8)).2.1) k) ?_
    refine own_via (s₁.setTop (mkF m 7 #[.val (.long p0), .second, .val (.long p1), .second] [(.int (-1 : Int32))])) (fun t k => XS.iconst X0.here hx rfl (hb hby d6_6) k) ?_
    refine own_via (s₁.setTop (mkF m 21 #[.val (.long p0), .second, .val (.long p1), .second] [(.int (-1 : Int32))])) (fun t k => XS.goto X0.here hx rfl (pc0 := 7) (pc' := 21) rfl (hb hby d6_7) (by decide) (by decide) k) ?_
    refine own_leave X0 Bd.notSynchronized (v := some (.int (-1 : Int32))) (fun h => by rw [Bd.returns] at h; cases h) (fun fs hr => retI X0 hx Bd.returns (hb hby d6_21) hr) ?_ (by decide) (by decide)
    refine ⟨?_, N0, e0⟩
    show some (Value.int _) = some (Value.int _); unfold own_f6; rw [if_pos hc3_8]
  · refine own_via (s₁.setTop (mkF m 10 #[.val (.long p0), .second, .val (.long p1), .second] [])) (fun t k => XS.ifYes X0.here hx rfl (pc0 := 3) (pc' := 10) rfl (hb hby d6_3) rfl ((if0 _ _).trans (flt (fun q => hc3_8 ((lw_lt p0 p1).mp q))).2.1) (by decide) (by decide) k) ?_
    refine own_via (s₁.setTop (mkF m 11 #[.val (.long p0), .second, .val (.long p1), .second] [(.long p0)])) (fun t k => XS.lloadN X0.here hx rfl (hb hby d6_10) rfl  k) ?_
    refine own_via (s₁.setTop (mkF m 12 #[.val (.long p0), .second, .val (.long p1), .second] [(.long p1), (.long p0)])) (fun t k => XS.lloadN X0.here hx rfl (hb hby d6_11) rfl  k) ?_
    refine own_via (s₁.setTop (mkF m 13 #[.val (.long p0), .second, .val (.long p1), .second] [(.int (lcmpW p0 p1))])) (fun t k => XS.lcmp X0.here hx rfl (hb hby d6_12) rfl k) ?_
    by_cases hc13_9 : p0 = p1
    · refine own_via (s₁.setTop (mkF m 16 #[.val (.long p0), .second, .val (.long p1), .second] [])) (fun t k => XS.ifNo X0.here hx rfl (hb hby d6_13) rfl ((if0 _ _).trans (teq ((lw_eq p0 p1).mpr hc13_9)).2) k) ?_
      refine own_via (s₁.setTop (mkF m 17 #[.val (.long p0), .second, .val (.long p1), .second] [(.int (0 : Int32))])) (fun t k => XS.iconst X0.here hx rfl (hb hby d6_16) k) ?_
      refine own_via (s₁.setTop (mkF m 21 #[.val (.long p0), .second, .val (.long p1), .second] [(.int (0 : Int32))])) (fun t k => XS.goto X0.here hx rfl (pc0 := 17) (pc' := 21) rfl (hb hby d6_17) (by decide) (by decide) k) ?_
      refine own_leave X0 Bd.notSynchronized (v := some (.int (0 : Int32))) (fun h => by rw [Bd.returns] at h; cases h) (fun fs hr => retI X0 hx Bd.returns (hb hby d6_21) hr) ?_ (by decide) (by decide)
      refine ⟨?_, N0, e0⟩
      show some (Value.int _) = some (Value.int _); unfold own_f6; rw [if_neg hc3_8, if_pos hc13_9]
    · refine own_via (s₁.setTop (mkF m 20 #[.val (.long p0), .second, .val (.long p1), .second] [])) (fun t k => XS.ifYes X0.here hx rfl (pc0 := 13) (pc' := 20) rfl (hb hby d6_13) rfl ((if0 _ _).trans (feq (fun q => hc13_9 ((lw_eq p0 p1).mp q))).2) (by decide) (by decide) k) ?_
      refine own_via (s₁.setTop (mkF m 21 #[.val (.long p0), .second, .val (.long p1), .second] [(.int (1 : Int32))])) (fun t k => XS.iconst X0.here hx rfl (hb hby d6_20) k) ?_
      refine own_leave X0 Bd.notSynchronized (v := some (.int (1 : Int32))) (fun h => by rw [Bd.returns] at h; cases h) (fun fs hr => retI X0 hx Bd.returns (hb hby d6_21) hr) ?_ (by decide) (by decide)
      refine ⟨?_, N0, e0⟩
      show some (Value.int _) = some (Value.int _); unfold own_f6; rw [if_neg hc3_8, if_neg hc13_9]
def own_f5 (p0 : Int64) (p1 : Int64) : Int32 := (own_f6 (p0 + (-9223372036854775808 : Int64)) (p1 + (-9223372036854775808 : Int64)))
theorem d5_0 : decode jdk_35_method_43_code 0 = .ok (.lload_n 0, 1) := by decide +kernel
theorem d5_1 : decode jdk_35_method_43_code 1 = .ok (.ldc2_w 168, 3) := by decide +kernel
theorem d5_4 : decode jdk_35_method_43_code 4 = .ok (.ladd, 1) := by decide +kernel
theorem d5_5 : decode jdk_35_method_43_code 5 = .ok (.lload_n 2, 1) := by decide +kernel
theorem d5_6 : decode jdk_35_method_43_code 6 = .ok (.ldc2_w 168, 3) := by decide +kernel
theorem d5_9 : decode jdk_35_method_43_code 9 = .ok (.ladd, 1) := by decide +kernel
theorem d5_10 : decode jdk_35_method_43_code 10 = .ok (.invokestatic 302, 3) := by decide +kernel
theorem d5_13 : decode jdk_35_method_43_code 13 = .ok (.ireturn, 1) := by decide +kernel
theorem pd_1 : parseMethodDescriptor "(JJ)I" = some ⟨[.long, .long], some .int⟩ := by decide +kernel
theorem ef_5 (m : MethodId) (p0 : Int64) (p1 : Int64) : entryFrame m #[(.long p0), (.long p1)] 4 = mkF m 0 #[.val (.long p0), .second, .val (.long p1), .second] [] := by first | (simp [entryFrame, mkF, argsToLocals, Value.category]; done) | rfl
set_option maxRecDepth 65536 in
set_option maxHeartbeats 40000000 in
theorem rm5 (l : Launch) (Z : State) (a0 : Array Value) (hw : ∀ d ∈ tables_1, d.before a0 Z = true) (ws : List Jvm.Cond) (p0 : Int64) (p1 : Int64) (h0 : Heap) (n0 : Nat) (Z0 : n0 ≤ h0.size)  :
    MetFree l (⟨"java/lang/Long", "compareUnsigned", "(JJ)I"⟩ : MethodName) (head1 (Jvm.Cond.code (⟨"java/lang/Long", "compareUnsigned", "(JJ)I"⟩ : MethodName) jdk_35_method_43_code 4 (some .int) :: ws) ({ frames := 1, cells := 0, slots := 0, locals := 15 } : Room)) (fun a U => a = #[(.long p0), (.long p1)] ∧ Z.Warmed39 U.vm ∧ U.heap = h0) (fun _ _ _ _ _ => True) (fun _ U o U' => ∃ v L, o = .returned v ∧ (own_Q (some (.int (own_f5 p0 p1))) h0 n0) v U'.heap L ∧ FrameEnd U o U' L ({ frames := 1, cells := 0, slots := 0, locals := 15 } : Room).cells ({ frames := 1, cells := 0, slots := 0, locals := 15 } : Room).slots) := by
  refine MetFree.of_bodySF (plainFor_of_name pn_java_lang_Long) hisR ?_
  intro p e s m args below meth c s₁ Bd hml0 hP hK
  obtain ⟨rfl, hZ, hh⟩ := hP
  have hx := Bd.exec
  have hby := Bd.bytes
  have hml : c.maxLocals = 4 := hml0
  have hown : s.vm.findClass "java/lang/Long" = some m.cls := findClass_of_methodNamed Bd.named
  have hnm := (name_of_methodNamed Bd.named Bd.method).1
  have X0 : Stand p l e ({ frames := 1, cells := 0, slots := 0, locals := 15 } : Room) s m #[(.long p0), (.long p1)] below meth c s₁ [] 0 0 := Stand.of_body Bd
  have e0 : s₁.heap = h0 := by rw [← hh, Bd.state]; rfl
  have N0 := Fr.nil n0
  refine own_body (QQ := (own_Q (some (.int (own_f5 p0 p1))) h0 n0)) (ef_5 m p0 p1) ?_
  refine own_via (s₁.setTop (mkF m 1 #[.val (.long p0), .second, .val (.long p1), .second] [(.long p0)])) (fun t k => XS.lloadN X0.here hx rfl (hb hby d5_0) rfl  k) ?_
  refine own_via (s₁.setTop (mkF m 4 #[.val (.long p0), .second, .val (.long p1), .second] [(.long (-9223372036854775808 : Int64)), (.long p0)])) (fun t k => X0.ldc2Long hx hown (mvT hZ (hw _ (List.mem_of_getElem? (i := 25) rfl))) (g := (mkF m 1 #[.val (.long p0), .second, .val (.long p1), .second] [(.long p0)])) rfl (hb hby d5_1) _ k) ?_
  refine own_via (s₁.setTop (mkF m 5 #[.val (.long p0), .second, .val (.long p1), .second] [(.long (p0 + (-9223372036854775808 : Int64)))])) (fun t k => XS.ladd X0.here hx rfl (hb hby d5_4) rfl k) ?_
  refine own_via (s₁.setTop (mkF m 6 #[.val (.long p0), .second, .val (.long p1), .second] [(.long p1), (.long (p0 + (-9223372036854775808 : Int64)))])) (fun t k => XS.lloadN X0.here hx rfl (hb hby d5_5) rfl  k) ?_
  refine own_via (s₁.setTop (mkF m 9 #[.val (.long p0), .second, .val (.long p1), .second] [(.long (-9223372036854775808 : Int64)), (.long p1), (.long (p0 + (-9223372036854775808 : Int64)))])) (fun t k => X0.ldc2Long hx hown (mvT hZ (hw _ (List.mem_of_getElem? (i := 25) rfl))) (g := (mkF m 6 #[.val (.long p0), .second, .val (.long p1), .second] [(.long p1), (.long (p0 + (-9223372036854775808 : Int64)))])) rfl (hb hby d5_6) _ k) ?_
  refine own_via (s₁.setTop (mkF m 10 #[.val (.long p0), .second, .val (.long p1), .second] [(.long (p1 + (-9223372036854775808 : Int64))), (.long (p0 + (-9223372036854775808 : Int64)))])) (fun t k => XS.ladd X0.here hx rfl (hb hby d5_9) rfl k) ?_
  obtain ⟨_, _, ⟨T11, L11, k11, n11⟩, -, X11, ⟨Lc11, hQ11, l11, y11, z11⟩, st11⟩ := Jvm.LawKit.callS X0 hx (y := (⟨"java/lang/Long", "compare", "(JJ)I"⟩ : MethodName)) hown (mvT hZ (hw _ (List.mem_of_getElem? (i := 26) rfl))) (mvT hZ (hw _ (List.mem_of_getElem? (i := 27) rfl))) (mvT hZ (hw _ (List.mem_of_getElem? (i := 23) rfl))) (mvT hZ (hw _ (List.mem_of_getElem? (i := 28) rfl))) (by decide) (backOf (W := 0) (rm6 l Z a0 hw [] (p0 + (-9223372036854775808 : Int64)) (p1 + (-9223372036854775808 : Int64)) h0 n0 Z0) hZ (hw _ (List.mem_of_getElem? (i := 28) rfl)) (hw _ (List.mem_of_getElem? (i := 23) rfl)) (by decide) (by decide)) (g := (mkF m 10 #[.val (.long p0), .second, .val (.long p1), .second] [(.long (p1 + (-9223372036854775808 : Int64))), (.long (p0 + (-9223372036854775808 : Int64)))])) rfl (by rw [hml]; rfl) (argsL := [(.long (p0 + (-9223372036854775808 : Int64))), (.long (p1 + (-9223372036854775808 : Int64)))]) (rest := []) (lenOf pd_1 rfl) rfl (by show 2 * 0 + _ ≤ _; exact Nat.le_of_eq rfl) (hb hby d5_10) (fun _ _ => ⟨rfl, e0, (by decide : 0 + 0 ≤ _), (by decide : 0 + 0 ≤ _)⟩)
  dsimp only [Pt.U, Pt.locs, Pt.cells, Pt.slots] at X11 l11 y11 z11 st11 hQ11
  subst l11 y11 z11
  obtain ⟨rfl, N11q, e11⟩ := hQ11
  have N11 := Fr.app N0 N11q
  refine own_via (T11.setTop (mkF m 13 #[.val (.long p0), .second, .val (.long p1), .second] [(.int (own_f6 (p0 + (-9223372036854775808 : Int64)) (p1 + (-9223372036854775808 : Int64))))])) (fun t k => st11 t k) ?_
  refine own_leave X11 Bd.notSynchronized (v := some (.int (own_f6 (p0 + (-9223372036854775808 : Int64)) (p1 + (-9223372036854775808 : Int64))))) (fun h => by rw [Bd.returns] at h; cases h) (fun fs hr => retI X11 hx Bd.returns (hb hby d5_13) hr) ?_ (by decide) (by decide)
  refine ⟨?_, N11, e11⟩
  show some (Value.int _) = some (Value.int _); unfold own_f5; rfl
def own_f7 (p0 : Int32) : Int32 := (if p0 < (0 : Int32) then (-1 : Int32) else (if (0 : Int32) < p0 then (1 : Int32) else (0 : Int32)))
theorem d7_0 : decode method_2_code 0 = .ok (.iload_n 0, 1) := by decide +kernel
theorem d7_1 : decode method_2_code 1 = .ok (.ifCond .ge 5, 3) := by decide +kernel
theorem d7_4 : decode method_2_code 4 = .ok (.iconst (-1), 1) := by decide +kernel
theorem d7_5 : decode method_2_code 5 = .ok (.ireturn, 1) := by decide +kernel
theorem d7_6 : decode method_2_code 6 = .ok (.iload_n 0, 1) := by decide +kernel
theorem d7_7 : decode method_2_code 7 = .ok (.ifCond .le 5, 3) := by decide +kernel
theorem d7_10 : decode method_2_code 10 = .ok (.iconst 1, 1) := by decide +kernel
theorem d7_11 : decode method_2_code 11 = .ok (.ireturn, 1) := by decide +kernel
theorem d7_12 : decode method_2_code 12 = .ok (.iconst 0, 1) := by decide +kernel
theorem d7_13 : decode method_2_code 13 = .ok (.ireturn, 1) := by decide +kernel
theorem pn_com_example_ragged_cursor_raggedcursor_ids_IdCompareToPinLaw : plainName "com/example/ragged_cursor/raggedcursor/ids/IdCompareToPinLaw" = true := by first | (simp [plainName, overriddenIn]; done) | decide +kernel
theorem ef_7 (m : MethodId) (p0 : Int32) : entryFrame m #[(.int p0)] 1 = mkF m 0 #[.val (.int p0)] [] := by first | (simp [entryFrame, mkF, argsToLocals, Value.category]; done) | rfl
set_option maxRecDepth 65536 in
set_option maxHeartbeats 40000000 in
theorem rm7 (l : Launch) (Z : State) (a0 : Array Value) (hw : ∀ d ∈ tables_1, d.before a0 Z = true) (ws : List Jvm.Cond) (p0 : Int32) (h0 : Heap) (n0 : Nat) (Z0 : n0 ≤ h0.size)  :
    MetFree l (⟨"com/example/ragged_cursor/raggedcursor/ids/IdCompareToPinLaw", "sign", "(I)I"⟩ : MethodName) (head1 (Jvm.Cond.code (⟨"com/example/ragged_cursor/raggedcursor/ids/IdCompareToPinLaw", "sign", "(I)I"⟩ : MethodName) method_2_code 1 (some .int) :: ws) ({ frames := 0, cells := 0, slots := 0, locals := 0 } : Room)) (fun a U => a = #[(.int p0)] ∧ Z.Warmed39 U.vm ∧ U.heap = h0) (fun _ _ _ _ _ => True) (fun _ U o U' => ∃ v L, o = .returned v ∧ (own_Q (some (.int (own_f7 p0))) h0 n0) v U'.heap L ∧ FrameEnd U o U' L ({ frames := 0, cells := 0, slots := 0, locals := 0 } : Room).cells ({ frames := 0, cells := 0, slots := 0, locals := 0 } : Room).slots) := by
  refine MetFree.of_bodySF (plainFor_of_name pn_com_example_ragged_cursor_raggedcursor_ids_IdCompareToPinLaw) hisR ?_
  intro p e s m args below meth c s₁ Bd hml0 hP hK
  obtain ⟨rfl, hZ, hh⟩ := hP
  have hx := Bd.exec
  have hby := Bd.bytes
  have hml : c.maxLocals = 1 := hml0
  have hown : s.vm.findClass "com/example/ragged_cursor/raggedcursor/ids/IdCompareToPinLaw" = some m.cls := findClass_of_methodNamed Bd.named
  have hnm := (name_of_methodNamed Bd.named Bd.method).1
  have X0 : Stand p l e ({ frames := 0, cells := 0, slots := 0, locals := 0 } : Room) s m #[(.int p0)] below meth c s₁ [] 0 0 := Stand.of_body Bd
  have e0 : s₁.heap = h0 := by rw [← hh, Bd.state]; rfl
  have N0 := Fr.nil n0
  refine own_body (QQ := (own_Q (some (.int (own_f7 p0))) h0 n0)) (ef_7 m p0) ?_
  refine own_via (s₁.setTop (mkF m 1 #[.val (.int p0)] [(.int p0)])) (fun t k => XS.iloadN X0.here hx rfl (hb hby d7_0) rfl  k) ?_
  by_cases hc1_14 : p0 < (0 : Int32)
  · refine own_via (s₁.setTop (mkF m 4 #[.val (.int p0)] [])) (fun t k => XS.ifNo X0.here hx rfl (hb hby d7_1) rfl ((if0 _ _).trans (tlt hc1_14).2.1) k) ?_
    refine own_via (s₁.setTop (mkF m 5 #[.val (.int p0)] [(.int (-1 : Int32))])) (fun t k => XS.iconst X0.here hx rfl (hb hby d7_4) k) ?_
    refine own_leave X0 Bd.notSynchronized (v := some (.int (-1 : Int32))) (fun h => by rw [Bd.returns] at h; cases h) (fun fs hr => retI X0 hx Bd.returns (hb hby d7_5) hr) ?_ (by decide) (by decide)
    refine ⟨?_, N0, e0⟩
    show some (Value.int _) = some (Value.int _); unfold own_f7; rw [if_pos hc1_14]
  · refine own_via (s₁.setTop (mkF m 6 #[.val (.int p0)] [])) (fun t k => XS.ifYes X0.here hx rfl (pc0 := 1) (pc' := 6) rfl (hb hby d7_1) rfl ((if0 _ _).trans (flt hc1_14).2.1) (by decide) (by decide) k) ?_
    refine own_via (s₁.setTop (mkF m 7 #[.val (.int p0)] [(.int p0)])) (fun t k => XS.iloadN X0.here hx rfl (hb hby d7_6) rfl  k) ?_
    by_cases hc7_15 : (0 : Int32) < p0
    · refine own_via (s₁.setTop (mkF m 10 #[.val (.int p0)] [])) (fun t k => XS.ifNo X0.here hx rfl (hb hby d7_7) rfl ((if0 _ _).trans (tlt hc7_15).2.2.2) k) ?_
      refine own_via (s₁.setTop (mkF m 11 #[.val (.int p0)] [(.int (1 : Int32))])) (fun t k => XS.iconst X0.here hx rfl (hb hby d7_10) k) ?_
      refine own_leave X0 Bd.notSynchronized (v := some (.int (1 : Int32))) (fun h => by rw [Bd.returns] at h; cases h) (fun fs hr => retI X0 hx Bd.returns (hb hby d7_11) hr) ?_ (by decide) (by decide)
      refine ⟨?_, N0, e0⟩
      show some (Value.int _) = some (Value.int _); unfold own_f7; rw [if_neg hc1_14, if_pos hc7_15]
    · refine own_via (s₁.setTop (mkF m 12 #[.val (.int p0)] [])) (fun t k => XS.ifYes X0.here hx rfl (pc0 := 7) (pc' := 12) rfl (hb hby d7_7) rfl ((if0 _ _).trans (flt hc7_15).2.2.2) (by decide) (by decide) k) ?_
      refine own_via (s₁.setTop (mkF m 13 #[.val (.int p0)] [(.int (0 : Int32))])) (fun t k => XS.iconst X0.here hx rfl (hb hby d7_12) k) ?_
      refine own_leave X0 Bd.notSynchronized (v := some (.int (0 : Int32))) (fun h => by rw [Bd.returns] at h; cases h) (fun fs hr => retI X0 hx Bd.returns (hb hby d7_13) hr) ?_ (by decide) (by decide)
      refine ⟨?_, N0, e0⟩
      show some (Value.int _) = some (Value.int _); unfold own_f7; rw [if_neg hc1_14, if_neg hc7_15]
def own_f8 (p0 : Int64) (p1 : Int64) : Int32 := (if p0 = p1 then (0 : Int32) else (if p0 < (0 : Int64) then (if p1 < (0 : Int64) then (if p0 < p1 then (-1 : Int32) else (1 : Int32)) else (1 : Int32)) else (if p1 < (0 : Int64) then (-1 : Int32) else (if p0 < p1 then (-1 : Int32) else (1 : Int32)))))
theorem d8_0 : decode method_3_code 0 = .ok (.lload_n 0, 1) := by decide +kernel
theorem d8_1 : decode method_3_code 1 = .ok (.lload_n 2, 1) := by decide +kernel
theorem d8_2 : decode method_3_code 2 = .ok (.lcmp, 1) := by decide +kernel
theorem d8_3 : decode method_3_code 3 = .ok (.ifCond .ne 5, 3) := by decide +kernel
theorem d8_6 : decode method_3_code 6 = .ok (.iconst 0, 1) := by decide +kernel
theorem d8_7 : decode method_3_code 7 = .ok (.ireturn, 1) := by decide +kernel
theorem d8_8 : decode method_3_code 8 = .ok (.lload_n 0, 1) := by decide +kernel
theorem d8_9 : decode method_3_code 9 = .ok (.lconst 0, 1) := by decide +kernel
theorem d8_10 : decode method_3_code 10 = .ok (.lcmp, 1) := by decide +kernel
theorem d8_11 : decode method_3_code 11 = .ok (.ifCond .ge 7, 3) := by decide +kernel
theorem d8_14 : decode method_3_code 14 = .ok (.iconst 1, 1) := by decide +kernel
theorem d8_15 : decode method_3_code 15 = .ok (.goto 4, 3) := by decide +kernel
theorem d8_18 : decode method_3_code 18 = .ok (.iconst 0, 1) := by decide +kernel
theorem d8_19 : decode method_3_code 19 = .ok (.istore 4, 2) := by decide +kernel
theorem d8_21 : decode method_3_code 21 = .ok (.lload_n 2, 1) := by decide +kernel
theorem d8_22 : decode method_3_code 22 = .ok (.lconst 0, 1) := by decide +kernel
theorem d8_23 : decode method_3_code 23 = .ok (.lcmp, 1) := by decide +kernel
theorem d8_24 : decode method_3_code 24 = .ok (.ifCond .ge 7, 3) := by decide +kernel
theorem d8_27 : decode method_3_code 27 = .ok (.iconst 1, 1) := by decide +kernel
theorem d8_28 : decode method_3_code 28 = .ok (.goto 4, 3) := by decide +kernel
theorem d8_31 : decode method_3_code 31 = .ok (.iconst 0, 1) := by decide +kernel
theorem d8_32 : decode method_3_code 32 = .ok (.istore 5, 2) := by decide +kernel
theorem d8_34 : decode method_3_code 34 = .ok (.iload 4, 2) := by decide +kernel
theorem d8_36 : decode method_3_code 36 = .ok (.iload 5, 2) := by decide +kernel
theorem d8_38 : decode method_3_code 38 = .ok (.if_icmp .eq 12, 3) := by decide +kernel
theorem d8_41 : decode method_3_code 41 = .ok (.iload 4, 2) := by decide +kernel
theorem d8_43 : decode method_3_code 43 = .ok (.ifCond .eq 5, 3) := by decide +kernel
theorem d8_46 : decode method_3_code 46 = .ok (.iconst 1, 1) := by decide +kernel
theorem d8_47 : decode method_3_code 47 = .ok (.ireturn, 1) := by decide +kernel
theorem d8_48 : decode method_3_code 48 = .ok (.iconst (-1), 1) := by decide +kernel
theorem d8_49 : decode method_3_code 49 = .ok (.ireturn, 1) := by decide +kernel
theorem d8_50 : decode method_3_code 50 = .ok (.lload_n 0, 1) := by decide +kernel
theorem d8_51 : decode method_3_code 51 = .ok (.lload_n 2, 1) := by decide +kernel
theorem d8_52 : decode method_3_code 52 = .ok (.lcmp, 1) := by decide +kernel
theorem d8_53 : decode method_3_code 53 = .ok (.ifCond .ge 5, 3) := by decide +kernel
theorem d8_56 : decode method_3_code 56 = .ok (.iconst (-1), 1) := by decide +kernel
theorem d8_57 : decode method_3_code 57 = .ok (.ireturn, 1) := by decide +kernel
theorem d8_58 : decode method_3_code 58 = .ok (.iconst 1, 1) := by decide +kernel
theorem d8_59 : decode method_3_code 59 = .ok (.ireturn, 1) := by decide +kernel
theorem ef_8 (m : MethodId) (p0 : Int64) (p1 : Int64) : entryFrame m #[(.long p0), (.long p1)] 6 = mkF m 0 #[.val (.long p0), .second, .val (.long p1), .second, .unset, .unset] [] := by first | (simp [entryFrame, mkF, argsToLocals, Value.category]; done) | rfl
set_option maxRecDepth 65536 in
set_option maxHeartbeats 40000000 in
theorem rm8 (l : Launch) (Z : State) (a0 : Array Value) (hw : ∀ d ∈ tables_1, d.before a0 Z = true) (ws : List Jvm.Cond) (p0 : Int64) (p1 : Int64) (h0 : Heap) (n0 : Nat) (Z0 : n0 ≤ h0.size)  :
    MetFree l (⟨"com/example/ragged_cursor/raggedcursor/ids/IdCompareToPinLaw", "unsignedReference", "(JJ)I"⟩ : MethodName) (head1 (Jvm.Cond.code (⟨"com/example/ragged_cursor/raggedcursor/ids/IdCompareToPinLaw", "unsignedReference", "(JJ)I"⟩ : MethodName) method_3_code 6 (some .int) :: ws) ({ frames := 0, cells := 0, slots := 0, locals := 0 } : Room)) (fun a U => a = #[(.long p0), (.long p1)] ∧ Z.Warmed39 U.vm ∧ U.heap = h0) (fun _ _ _ _ _ => True) (fun _ U o U' => ∃ v L, o = .returned v ∧ (own_Q (some (.int (own_f8 p0 p1))) h0 n0) v U'.heap L ∧ FrameEnd U o U' L ({ frames := 0, cells := 0, slots := 0, locals := 0 } : Room).cells ({ frames := 0, cells := 0, slots := 0, locals := 0 } : Room).slots) := by
  refine MetFree.of_bodySF (plainFor_of_name pn_com_example_ragged_cursor_raggedcursor_ids_IdCompareToPinLaw) hisR ?_
  intro p e s m args below meth c s₁ Bd hml0 hP hK
  obtain ⟨rfl, hZ, hh⟩ := hP
  have hx := Bd.exec
  have hby := Bd.bytes
  have hml : c.maxLocals = 6 := hml0
  have hown : s.vm.findClass "com/example/ragged_cursor/raggedcursor/ids/IdCompareToPinLaw" = some m.cls := findClass_of_methodNamed Bd.named
  have hnm := (name_of_methodNamed Bd.named Bd.method).1
  have X0 : Stand p l e ({ frames := 0, cells := 0, slots := 0, locals := 0 } : Room) s m #[(.long p0), (.long p1)] below meth c s₁ [] 0 0 := Stand.of_body Bd
  have e0 : s₁.heap = h0 := by rw [← hh, Bd.state]; rfl
  have N0 := Fr.nil n0
  refine own_body (QQ := (own_Q (some (.int (own_f8 p0 p1))) h0 n0)) (ef_8 m p0 p1) ?_
  refine own_via (s₁.setTop (mkF m 1 #[.val (.long p0), .second, .val (.long p1), .second, .unset, .unset] [(.long p0)])) (fun t k => XS.lloadN X0.here hx rfl (hb hby d8_0) rfl  k) ?_
  refine own_via (s₁.setTop (mkF m 2 #[.val (.long p0), .second, .val (.long p1), .second, .unset, .unset] [(.long p1), (.long p0)])) (fun t k => XS.lloadN X0.here hx rfl (hb hby d8_1) rfl  k) ?_
  refine own_via (s₁.setTop (mkF m 3 #[.val (.long p0), .second, .val (.long p1), .second, .unset, .unset] [(.int (lcmpW p0 p1))])) (fun t k => XS.lcmp X0.here hx rfl (hb hby d8_2) rfl k) ?_
  by_cases hc3_22 : p0 = p1
  · refine own_via (s₁.setTop (mkF m 6 #[.val (.long p0), .second, .val (.long p1), .second, .unset, .unset] [])) (fun t k => XS.ifNo X0.here hx rfl (hb hby d8_3) rfl ((if0 _ _).trans (teq ((lw_eq p0 p1).mpr hc3_22)).2) k) ?_
    refine own_via (s₁.setTop (mkF m 7 #[.val (.long p0), .second, .val (.long p1), .second, .unset, .unset] [(.int (0 : Int32))])) (fun t k => XS.iconst X0.here hx rfl (hb hby d8_6) k) ?_
    refine own_leave X0 Bd.notSynchronized (v := some (.int (0 : Int32))) (fun h => by rw [Bd.returns] at h; cases h) (fun fs hr => retI X0 hx Bd.returns (hb hby d8_7) hr) ?_ (by decide) (by decide)
    refine ⟨?_, N0, e0⟩
    show some (Value.int _) = some (Value.int _); unfold own_f8; rw [if_pos hc3_22]
  · refine own_via (s₁.setTop (mkF m 8 #[.val (.long p0), .second, .val (.long p1), .second, .unset, .unset] [])) (fun t k => XS.ifYes X0.here hx rfl (pc0 := 3) (pc' := 8) rfl (hb hby d8_3) rfl ((if0 _ _).trans (feq (fun q => hc3_22 ((lw_eq p0 p1).mp q))).2) (by decide) (by decide) k) ?_
    refine own_via (s₁.setTop (mkF m 9 #[.val (.long p0), .second, .val (.long p1), .second, .unset, .unset] [(.long p0)])) (fun t k => XS.lloadN X0.here hx rfl (hb hby d8_8) rfl  k) ?_
    refine own_via (s₁.setTop (mkF m 10 #[.val (.long p0), .second, .val (.long p1), .second, .unset, .unset] [(.long (0 : Int64)), (.long p0)])) (fun t k => XS.lconst X0.here hx rfl (hb hby d8_9) k) ?_
    refine own_via (s₁.setTop (mkF m 11 #[.val (.long p0), .second, .val (.long p1), .second, .unset, .unset] [(.int (lcmpW p0 (0 : Int64)))])) (fun t k => XS.lcmp X0.here hx rfl (hb hby d8_10) rfl k) ?_
    by_cases hc11_23 : p0 < (0 : Int64)
    · refine own_via (s₁.setTop (mkF m 14 #[.val (.long p0), .second, .val (.long p1), .second, .unset, .unset] [])) (fun t k => XS.ifNo X0.here hx rfl (hb hby d8_11) rfl ((if0 _ _).trans (tlt ((lw_lt p0 (0 : Int64)).mpr hc11_23)).2.1) k) ?_
      refine own_via (s₁.setTop (mkF m 15 #[.val (.long p0), .second, .val (.long p1), .second, .unset, .unset] [(.int (1 : Int32))])) (fun t k => XS.iconst X0.here hx rfl (hb hby d8_14) k) ?_
      refine own_via (s₁.setTop (mkF m 19 #[.val (.long p0), .second, .val (.long p1), .second, .unset, .unset] [(.int (1 : Int32))])) (fun t k => XS.goto X0.here hx rfl (pc0 := 15) (pc' := 19) rfl (hb hby d8_15) (by decide) (by decide) k) ?_
      refine own_via (s₁.setTop (mkF m 21 #[.val (.long p0), .second, .val (.long p1), .second, .val (.int (1 : Int32)), .unset] [])) (fun t k => XS.istore X0.here hx rfl (hb hby d8_19) rfl (l' := #[.val (.long p0), .second, .val (.long p1), .second, .val (.int (1 : Int32)), .unset]) rfl k) ?_
      refine own_via (s₁.setTop (mkF m 22 #[.val (.long p0), .second, .val (.long p1), .second, .val (.int (1 : Int32)), .unset] [(.long p1)])) (fun t k => XS.lloadN X0.here hx rfl (hb hby d8_21) rfl  k) ?_
      refine own_via (s₁.setTop (mkF m 23 #[.val (.long p0), .second, .val (.long p1), .second, .val (.int (1 : Int32)), .unset] [(.long (0 : Int64)), (.long p1)])) (fun t k => XS.lconst X0.here hx rfl (hb hby d8_22) k) ?_
      refine own_via (s₁.setTop (mkF m 24 #[.val (.long p0), .second, .val (.long p1), .second, .val (.int (1 : Int32)), .unset] [(.int (lcmpW p1 (0 : Int64)))])) (fun t k => XS.lcmp X0.here hx rfl (hb hby d8_23) rfl k) ?_
      by_cases hc24_24 : p1 < (0 : Int64)
      · refine own_via (s₁.setTop (mkF m 27 #[.val (.long p0), .second, .val (.long p1), .second, .val (.int (1 : Int32)), .unset] [])) (fun t k => XS.ifNo X0.here hx rfl (hb hby d8_24) rfl ((if0 _ _).trans (tlt ((lw_lt p1 (0 : Int64)).mpr hc24_24)).2.1) k) ?_
        refine own_via (s₁.setTop (mkF m 28 #[.val (.long p0), .second, .val (.long p1), .second, .val (.int (1 : Int32)), .unset] [(.int (1 : Int32))])) (fun t k => XS.iconst X0.here hx rfl (hb hby d8_27) k) ?_
        refine own_via (s₁.setTop (mkF m 32 #[.val (.long p0), .second, .val (.long p1), .second, .val (.int (1 : Int32)), .unset] [(.int (1 : Int32))])) (fun t k => XS.goto X0.here hx rfl (pc0 := 28) (pc' := 32) rfl (hb hby d8_28) (by decide) (by decide) k) ?_
        refine own_via (s₁.setTop (mkF m 34 #[.val (.long p0), .second, .val (.long p1), .second, .val (.int (1 : Int32)), .val (.int (1 : Int32))] [])) (fun t k => XS.istore X0.here hx rfl (hb hby d8_32) rfl (l' := #[.val (.long p0), .second, .val (.long p1), .second, .val (.int (1 : Int32)), .val (.int (1 : Int32))]) rfl k) ?_
        refine own_via (s₁.setTop (mkF m 36 #[.val (.long p0), .second, .val (.long p1), .second, .val (.int (1 : Int32)), .val (.int (1 : Int32))] [(.int (1 : Int32))])) (fun t k => XS.iload X0.here hx rfl (hb hby d8_34) rfl  k) ?_
        refine own_via (s₁.setTop (mkF m 38 #[.val (.long p0), .second, .val (.long p1), .second, .val (.int (1 : Int32)), .val (.int (1 : Int32))] [(.int (1 : Int32)), (.int (1 : Int32))])) (fun t k => XS.iload X0.here hx rfl (hb hby d8_36) rfl  k) ?_
        refine own_via (s₁.setTop (mkF m 50 #[.val (.long p0), .second, .val (.long p1), .second, .val (.int (1 : Int32)), .val (.int (1 : Int32))] [])) (fun t k => XS.icmpYes X0.here hx rfl (pc0 := 38) (pc' := 50) rfl (hb hby d8_38) rfl (teq (by decide)).1 (by decide) (by decide) k) ?_
        refine own_via (s₁.setTop (mkF m 51 #[.val (.long p0), .second, .val (.long p1), .second, .val (.int (1 : Int32)), .val (.int (1 : Int32))] [(.long p0)])) (fun t k => XS.lloadN X0.here hx rfl (hb hby d8_50) rfl  k) ?_
        refine own_via (s₁.setTop (mkF m 52 #[.val (.long p0), .second, .val (.long p1), .second, .val (.int (1 : Int32)), .val (.int (1 : Int32))] [(.long p1), (.long p0)])) (fun t k => XS.lloadN X0.here hx rfl (hb hby d8_51) rfl  k) ?_
        refine own_via (s₁.setTop (mkF m 53 #[.val (.long p0), .second, .val (.long p1), .second, .val (.int (1 : Int32)), .val (.int (1 : Int32))] [(.int (lcmpW p0 p1))])) (fun t k => XS.lcmp X0.here hx rfl (hb hby d8_52) rfl k) ?_
        by_cases hc53_25 : p0 < p1
        · refine own_via (s₁.setTop (mkF m 56 #[.val (.long p0), .second, .val (.long p1), .second, .val (.int (1 : Int32)), .val (.int (1 : Int32))] [])) (fun t k => XS.ifNo X0.here hx rfl (hb hby d8_53) rfl ((if0 _ _).trans (tlt ((lw_lt p0 p1).mpr hc53_25)).2.1) k) ?_
          refine own_via (s₁.setTop (mkF m 57 #[.val (.long p0), .second, .val (.long p1), .second, .val (.int (1 : Int32)), .val (.int (1 : Int32))] [(.int (-1 : Int32))])) (fun t k => XS.iconst X0.here hx rfl (hb hby d8_56) k) ?_
          refine own_leave X0 Bd.notSynchronized (v := some (.int (-1 : Int32))) (fun h => by rw [Bd.returns] at h; cases h) (fun fs hr => retI X0 hx Bd.returns (hb hby d8_57) hr) ?_ (by decide) (by decide)
          refine ⟨?_, N0, e0⟩
          show some (Value.int _) = some (Value.int _); unfold own_f8; rw [if_neg hc3_22, if_pos hc11_23, if_pos hc24_24, if_pos hc53_25]
        · refine own_via (s₁.setTop (mkF m 58 #[.val (.long p0), .second, .val (.long p1), .second, .val (.int (1 : Int32)), .val (.int (1 : Int32))] [])) (fun t k => XS.ifYes X0.here hx rfl (pc0 := 53) (pc' := 58) rfl (hb hby d8_53) rfl ((if0 _ _).trans (flt (fun q => hc53_25 ((lw_lt p0 p1).mp q))).2.1) (by decide) (by decide) k) ?_
          refine own_via (s₁.setTop (mkF m 59 #[.val (.long p0), .second, .val (.long p1), .second, .val (.int (1 : Int32)), .val (.int (1 : Int32))] [(.int (1 : Int32))])) (fun t k => XS.iconst X0.here hx rfl (hb hby d8_58) k) ?_
          refine own_leave X0 Bd.notSynchronized (v := some (.int (1 : Int32))) (fun h => by rw [Bd.returns] at h; cases h) (fun fs hr => retI X0 hx Bd.returns (hb hby d8_59) hr) ?_ (by decide) (by decide)
          refine ⟨?_, N0, e0⟩
          show some (Value.int _) = some (Value.int _); unfold own_f8; rw [if_neg hc3_22, if_pos hc11_23, if_pos hc24_24, if_neg hc53_25]
      · refine own_via (s₁.setTop (mkF m 31 #[.val (.long p0), .second, .val (.long p1), .second, .val (.int (1 : Int32)), .unset] [])) (fun t k => XS.ifYes X0.here hx rfl (pc0 := 24) (pc' := 31) rfl (hb hby d8_24) rfl ((if0 _ _).trans (flt (fun q => hc24_24 ((lw_lt p1 (0 : Int64)).mp q))).2.1) (by decide) (by decide) k) ?_
        refine own_via (s₁.setTop (mkF m 32 #[.val (.long p0), .second, .val (.long p1), .second, .val (.int (1 : Int32)), .unset] [(.int (0 : Int32))])) (fun t k => XS.iconst X0.here hx rfl (hb hby d8_31) k) ?_
        refine own_via (s₁.setTop (mkF m 34 #[.val (.long p0), .second, .val (.long p1), .second, .val (.int (1 : Int32)), .val (.int (0 : Int32))] [])) (fun t k => XS.istore X0.here hx rfl (hb hby d8_32) rfl (l' := #[.val (.long p0), .second, .val (.long p1), .second, .val (.int (1 : Int32)), .val (.int (0 : Int32))]) rfl k) ?_
        refine own_via (s₁.setTop (mkF m 36 #[.val (.long p0), .second, .val (.long p1), .second, .val (.int (1 : Int32)), .val (.int (0 : Int32))] [(.int (1 : Int32))])) (fun t k => XS.iload X0.here hx rfl (hb hby d8_34) rfl  k) ?_
        refine own_via (s₁.setTop (mkF m 38 #[.val (.long p0), .second, .val (.long p1), .second, .val (.int (1 : Int32)), .val (.int (0 : Int32))] [(.int (0 : Int32)), (.int (1 : Int32))])) (fun t k => XS.iload X0.here hx rfl (hb hby d8_36) rfl  k) ?_
        refine own_via (s₁.setTop (mkF m 41 #[.val (.long p0), .second, .val (.long p1), .second, .val (.int (1 : Int32)), .val (.int (0 : Int32))] [])) (fun t k => XS.icmpNo X0.here hx rfl (hb hby d8_38) rfl (feq (by decide)).1 k) ?_
        refine own_via (s₁.setTop (mkF m 43 #[.val (.long p0), .second, .val (.long p1), .second, .val (.int (1 : Int32)), .val (.int (0 : Int32))] [(.int (1 : Int32))])) (fun t k => XS.iload X0.here hx rfl (hb hby d8_41) rfl  k) ?_
        refine own_via (s₁.setTop (mkF m 46 #[.val (.long p0), .second, .val (.long p1), .second, .val (.int (1 : Int32)), .val (.int (0 : Int32))] [])) (fun t k => XS.ifNo X0.here hx rfl (hb hby d8_43) rfl ((if0 _ _).trans (feq (by decide)).1) k) ?_
        refine own_via (s₁.setTop (mkF m 47 #[.val (.long p0), .second, .val (.long p1), .second, .val (.int (1 : Int32)), .val (.int (0 : Int32))] [(.int (1 : Int32))])) (fun t k => XS.iconst X0.here hx rfl (hb hby d8_46) k) ?_
        refine own_leave X0 Bd.notSynchronized (v := some (.int (1 : Int32))) (fun h => by rw [Bd.returns] at h; cases h) (fun fs hr => retI X0 hx Bd.returns (hb hby d8_47) hr) ?_ (by decide) (by decide)
        refine ⟨?_, N0, e0⟩
        show some (Value.int _) = some (Value.int _); unfold own_f8; rw [if_neg hc3_22, if_pos hc11_23, if_neg hc24_24]
    · refine own_via (s₁.setTop (mkF m 18 #[.val (.long p0), .second, .val (.long p1), .second, .unset, .unset] [])) (fun t k => XS.ifYes X0.here hx rfl (pc0 := 11) (pc' := 18) rfl (hb hby d8_11) rfl ((if0 _ _).trans (flt (fun q => hc11_23 ((lw_lt p0 (0 : Int64)).mp q))).2.1) (by decide) (by decide) k) ?_
      refine own_via (s₁.setTop (mkF m 19 #[.val (.long p0), .second, .val (.long p1), .second, .unset, .unset] [(.int (0 : Int32))])) (fun t k => XS.iconst X0.here hx rfl (hb hby d8_18) k) ?_
      refine own_via (s₁.setTop (mkF m 21 #[.val (.long p0), .second, .val (.long p1), .second, .val (.int (0 : Int32)), .unset] [])) (fun t k => XS.istore X0.here hx rfl (hb hby d8_19) rfl (l' := #[.val (.long p0), .second, .val (.long p1), .second, .val (.int (0 : Int32)), .unset]) rfl k) ?_
      refine own_via (s₁.setTop (mkF m 22 #[.val (.long p0), .second, .val (.long p1), .second, .val (.int (0 : Int32)), .unset] [(.long p1)])) (fun t k => XS.lloadN X0.here hx rfl (hb hby d8_21) rfl  k) ?_
      refine own_via (s₁.setTop (mkF m 23 #[.val (.long p0), .second, .val (.long p1), .second, .val (.int (0 : Int32)), .unset] [(.long (0 : Int64)), (.long p1)])) (fun t k => XS.lconst X0.here hx rfl (hb hby d8_22) k) ?_
      refine own_via (s₁.setTop (mkF m 24 #[.val (.long p0), .second, .val (.long p1), .second, .val (.int (0 : Int32)), .unset] [(.int (lcmpW p1 (0 : Int64)))])) (fun t k => XS.lcmp X0.here hx rfl (hb hby d8_23) rfl k) ?_
      by_cases hc24_26 : p1 < (0 : Int64)
      · refine own_via (s₁.setTop (mkF m 27 #[.val (.long p0), .second, .val (.long p1), .second, .val (.int (0 : Int32)), .unset] [])) (fun t k => XS.ifNo X0.here hx rfl (hb hby d8_24) rfl ((if0 _ _).trans (tlt ((lw_lt p1 (0 : Int64)).mpr hc24_26)).2.1) k) ?_
        refine own_via (s₁.setTop (mkF m 28 #[.val (.long p0), .second, .val (.long p1), .second, .val (.int (0 : Int32)), .unset] [(.int (1 : Int32))])) (fun t k => XS.iconst X0.here hx rfl (hb hby d8_27) k) ?_
        refine own_via (s₁.setTop (mkF m 32 #[.val (.long p0), .second, .val (.long p1), .second, .val (.int (0 : Int32)), .unset] [(.int (1 : Int32))])) (fun t k => XS.goto X0.here hx rfl (pc0 := 28) (pc' := 32) rfl (hb hby d8_28) (by decide) (by decide) k) ?_
        refine own_via (s₁.setTop (mkF m 34 #[.val (.long p0), .second, .val (.long p1), .second, .val (.int (0 : Int32)), .val (.int (1 : Int32))] [])) (fun t k => XS.istore X0.here hx rfl (hb hby d8_32) rfl (l' := #[.val (.long p0), .second, .val (.long p1), .second, .val (.int (0 : Int32)), .val (.int (1 : Int32))]) rfl k) ?_
        refine own_via (s₁.setTop (mkF m 36 #[.val (.long p0), .second, .val (.long p1), .second, .val (.int (0 : Int32)), .val (.int (1 : Int32))] [(.int (0 : Int32))])) (fun t k => XS.iload X0.here hx rfl (hb hby d8_34) rfl  k) ?_
        refine own_via (s₁.setTop (mkF m 38 #[.val (.long p0), .second, .val (.long p1), .second, .val (.int (0 : Int32)), .val (.int (1 : Int32))] [(.int (1 : Int32)), (.int (0 : Int32))])) (fun t k => XS.iload X0.here hx rfl (hb hby d8_36) rfl  k) ?_
        refine own_via (s₁.setTop (mkF m 41 #[.val (.long p0), .second, .val (.long p1), .second, .val (.int (0 : Int32)), .val (.int (1 : Int32))] [])) (fun t k => XS.icmpNo X0.here hx rfl (hb hby d8_38) rfl (feq (by decide)).1 k) ?_
        refine own_via (s₁.setTop (mkF m 43 #[.val (.long p0), .second, .val (.long p1), .second, .val (.int (0 : Int32)), .val (.int (1 : Int32))] [(.int (0 : Int32))])) (fun t k => XS.iload X0.here hx rfl (hb hby d8_41) rfl  k) ?_
        refine own_via (s₁.setTop (mkF m 48 #[.val (.long p0), .second, .val (.long p1), .second, .val (.int (0 : Int32)), .val (.int (1 : Int32))] [])) (fun t k => XS.ifYes X0.here hx rfl (pc0 := 43) (pc' := 48) rfl (hb hby d8_43) rfl ((if0 _ _).trans (teq (by decide)).1) (by decide) (by decide) k) ?_
        refine own_via (s₁.setTop (mkF m 49 #[.val (.long p0), .second, .val (.long p1), .second, .val (.int (0 : Int32)), .val (.int (1 : Int32))] [(.int (-1 : Int32))])) (fun t k => XS.iconst X0.here hx rfl (hb hby d8_48) k) ?_
        refine own_leave X0 Bd.notSynchronized (v := some (.int (-1 : Int32))) (fun h => by rw [Bd.returns] at h; cases h) (fun fs hr => retI X0 hx Bd.returns (hb hby d8_49) hr) ?_ (by decide) (by decide)
        refine ⟨?_, N0, e0⟩
        show some (Value.int _) = some (Value.int _); unfold own_f8; rw [if_neg hc3_22, if_neg hc11_23, if_pos hc24_26]
      · refine own_via (s₁.setTop (mkF m 31 #[.val (.long p0), .second, .val (.long p1), .second, .val (.int (0 : Int32)), .unset] [])) (fun t k => XS.ifYes X0.here hx rfl (pc0 := 24) (pc' := 31) rfl (hb hby d8_24) rfl ((if0 _ _).trans (flt (fun q => hc24_26 ((lw_lt p1 (0 : Int64)).mp q))).2.1) (by decide) (by decide) k) ?_
        refine own_via (s₁.setTop (mkF m 32 #[.val (.long p0), .second, .val (.long p1), .second, .val (.int (0 : Int32)), .unset] [(.int (0 : Int32))])) (fun t k => XS.iconst X0.here hx rfl (hb hby d8_31) k) ?_
        refine own_via (s₁.setTop (mkF m 34 #[.val (.long p0), .second, .val (.long p1), .second, .val (.int (0 : Int32)), .val (.int (0 : Int32))] [])) (fun t k => XS.istore X0.here hx rfl (hb hby d8_32) rfl (l' := #[.val (.long p0), .second, .val (.long p1), .second, .val (.int (0 : Int32)), .val (.int (0 : Int32))]) rfl k) ?_
        refine own_via (s₁.setTop (mkF m 36 #[.val (.long p0), .second, .val (.long p1), .second, .val (.int (0 : Int32)), .val (.int (0 : Int32))] [(.int (0 : Int32))])) (fun t k => XS.iload X0.here hx rfl (hb hby d8_34) rfl  k) ?_
        refine own_via (s₁.setTop (mkF m 38 #[.val (.long p0), .second, .val (.long p1), .second, .val (.int (0 : Int32)), .val (.int (0 : Int32))] [(.int (0 : Int32)), (.int (0 : Int32))])) (fun t k => XS.iload X0.here hx rfl (hb hby d8_36) rfl  k) ?_
        refine own_via (s₁.setTop (mkF m 50 #[.val (.long p0), .second, .val (.long p1), .second, .val (.int (0 : Int32)), .val (.int (0 : Int32))] [])) (fun t k => XS.icmpYes X0.here hx rfl (pc0 := 38) (pc' := 50) rfl (hb hby d8_38) rfl (teq (by decide)).1 (by decide) (by decide) k) ?_
        refine own_via (s₁.setTop (mkF m 51 #[.val (.long p0), .second, .val (.long p1), .second, .val (.int (0 : Int32)), .val (.int (0 : Int32))] [(.long p0)])) (fun t k => XS.lloadN X0.here hx rfl (hb hby d8_50) rfl  k) ?_
        refine own_via (s₁.setTop (mkF m 52 #[.val (.long p0), .second, .val (.long p1), .second, .val (.int (0 : Int32)), .val (.int (0 : Int32))] [(.long p1), (.long p0)])) (fun t k => XS.lloadN X0.here hx rfl (hb hby d8_51) rfl  k) ?_
        refine own_via (s₁.setTop (mkF m 53 #[.val (.long p0), .second, .val (.long p1), .second, .val (.int (0 : Int32)), .val (.int (0 : Int32))] [(.int (lcmpW p0 p1))])) (fun t k => XS.lcmp X0.here hx rfl (hb hby d8_52) rfl k) ?_
        by_cases hc53_27 : p0 < p1
        · refine own_via (s₁.setTop (mkF m 56 #[.val (.long p0), .second, .val (.long p1), .second, .val (.int (0 : Int32)), .val (.int (0 : Int32))] [])) (fun t k => XS.ifNo X0.here hx rfl (hb hby d8_53) rfl ((if0 _ _).trans (tlt ((lw_lt p0 p1).mpr hc53_27)).2.1) k) ?_
          refine own_via (s₁.setTop (mkF m 57 #[.val (.long p0), .second, .val (.long p1), .second, .val (.int (0 : Int32)), .val (.int (0 : Int32))] [(.int (-1 : Int32))])) (fun t k => XS.iconst X0.here hx rfl (hb hby d8_56) k) ?_
          refine own_leave X0 Bd.notSynchronized (v := some (.int (-1 : Int32))) (fun h => by rw [Bd.returns] at h; cases h) (fun fs hr => retI X0 hx Bd.returns (hb hby d8_57) hr) ?_ (by decide) (by decide)
          refine ⟨?_, N0, e0⟩
          show some (Value.int _) = some (Value.int _); unfold own_f8; rw [if_neg hc3_22, if_neg hc11_23, if_neg hc24_26, if_pos hc53_27]
        · refine own_via (s₁.setTop (mkF m 58 #[.val (.long p0), .second, .val (.long p1), .second, .val (.int (0 : Int32)), .val (.int (0 : Int32))] [])) (fun t k => XS.ifYes X0.here hx rfl (pc0 := 53) (pc' := 58) rfl (hb hby d8_53) rfl ((if0 _ _).trans (flt (fun q => hc53_27 ((lw_lt p0 p1).mp q))).2.1) (by decide) (by decide) k) ?_
          refine own_via (s₁.setTop (mkF m 59 #[.val (.long p0), .second, .val (.long p1), .second, .val (.int (0 : Int32)), .val (.int (0 : Int32))] [(.int (1 : Int32))])) (fun t k => XS.iconst X0.here hx rfl (hb hby d8_58) k) ?_
          refine own_leave X0 Bd.notSynchronized (v := some (.int (1 : Int32))) (fun h => by rw [Bd.returns] at h; cases h) (fun fs hr => retI X0 hx Bd.returns (hb hby d8_59) hr) ?_ (by decide) (by decide)
          refine ⟨?_, N0, e0⟩
          show some (Value.int _) = some (Value.int _); unfold own_f8; rw [if_neg hc3_22, if_neg hc11_23, if_neg hc24_26, if_neg hc53_27]
theorem own_law (a b : Int64) : own_f7 (own_f5 a b) = own_f8 a b := by
  have r1 := rng64 a; have r2 := rng64 b
  have h1 := c_ladd a (-9223372036854775808 : Int64)
  have r3 := rng64 (a + (-9223372036854775808 : Int64))
  have h2 := c_ladd b (-9223372036854775808 : Int64)
  have r4 := rng64 (b + (-9223372036854775808 : Int64))
  have e0 : (0 : Int64).toInt = 0 := rfl
  have e2 : (-9223372036854775808 : Int64).toInt = -9223372036854775808 := rfl
  unfold own_f5 own_f6 own_f8
  simp only [Int64.lt_iff_toInt_lt, ← Int64.toInt_inj, e0, e2] at *
  generalize (a + (-9223372036854775808 : Int64)).toInt = x at *
  generalize (b + (-9223372036854775808 : Int64)).toInt = y at *
  generalize a.toInt = u at *
  generalize b.toInt = v at *
  have k1 : own_f7 (-1) = -1 := by decide
  have k2 : own_f7 0 = 0 := by decide
  have k3 : own_f7 1 = 1 := by decide
  by_cases q1 : x < y
  · rw [if_pos q1, k1]
    repeat' split
    all_goals first | rfl | (exfalso; omega)
  · rw [if_neg q1]
    by_cases q2 : x = y
    · rw [if_pos q2, k2]
      repeat' split
      all_goals first | rfl | (exfalso; omega)
    · rw [if_neg q2, k3]
      repeat' split
      all_goals first | rfl | (exfalso; omega)
def own_Q4 (Z : State) (p0 : Addr) (p1 : Addr) (f0 : Int64) (f1 : Int64) (h0 : Heap) (n0 : Nat) (v : Option Value) (h : Heap) (L : List Loc) : Prop := v = some (.int (own_f5 f0 f1)) ∧ Fr n0 L ∧ h = h0
theorem d4_0 : decode prog_14_method_3_code 0 = .ok (.aload_n 0, 1) := by decide +kernel
theorem d4_1 : decode prog_14_method_3_code 1 = .ok (.getfield 7, 3) := by decide +kernel
theorem d4_4 : decode prog_14_method_3_code 4 = .ok (.aload_n 1, 1) := by decide +kernel
theorem d4_5 : decode prog_14_method_3_code 5 = .ok (.getfield 7, 3) := by decide +kernel
theorem d4_8 : decode prog_14_method_3_code 8 = .ok (.invokestatic 53, 3) := by decide +kernel
theorem d4_11 : decode prog_14_method_3_code 11 = .ok (.ireturn, 1) := by decide +kernel
theorem ef_4 (m : MethodId) (p0 : Addr) (p1 : Addr) : entryFrame m #[(.ref p0), (.ref p1)] 2 = mkF m 0 #[.val (.ref p0), .val (.ref p1)] [] := by first | (simp [entryFrame, mkF, argsToLocals, Value.category]; done) | rfl
set_option maxRecDepth 65536 in
set_option maxHeartbeats 40000000 in
theorem rm4 (l : Launch) (Z : State) (a0 : Array Value) (hw : ∀ d ∈ tables_1, d.before a0 Z = true) (ws : List Jvm.Cond) (p0 : Addr) (p1 : Addr) (h0 : Heap) (n0 : Nat) (Z0 : n0 ≤ h0.size) (f0 : Int64) (f1 : Int64) (P0 : Fld Z h0 p0 "com/example/ragged_cursor/raggedcursor/ids/Id" "bits" "J" (.long f0)) (P1 : Fld Z h0 p1 "com/example/ragged_cursor/raggedcursor/ids/Id" "bits" "J" (.long f1)) :
    MetFree l (⟨"com/example/ragged_cursor/raggedcursor/ids/Id", "compareTo", "(Lcom/example/ragged_cursor/raggedcursor/ids/Id;)I"⟩ : MethodName) (head1 (Jvm.Cond.code (⟨"com/example/ragged_cursor/raggedcursor/ids/Id", "compareTo", "(Lcom/example/ragged_cursor/raggedcursor/ids/Id;)I"⟩ : MethodName) prog_14_method_3_code 2 (some .int) :: ws) ({ frames := 2, cells := 0, slots := 0, locals := 30 } : Room)) (fun a U => a = #[(.ref p0), (.ref p1)] ∧ Z.Warmed39 U.vm ∧ U.heap = h0) (fun _ _ _ _ _ => True) (fun _ U o U' => ∃ v L, o = .returned v ∧ (own_Q4 Z p0 p1 f0 f1 h0 n0) v U'.heap L ∧ FrameEnd U o U' L ({ frames := 2, cells := 0, slots := 0, locals := 30 } : Room).cells ({ frames := 2, cells := 0, slots := 0, locals := 30 } : Room).slots) := by
  refine MetFree.of_bodySF (plainFor_of_name pn_com_example_ragged_cursor_raggedcursor_ids_Id) hisR ?_
  intro p e s m args below meth c s₁ Bd hml0 hP hK
  obtain ⟨rfl, hZ, hh⟩ := hP
  have hx := Bd.exec
  have hby := Bd.bytes
  have hml : c.maxLocals = 2 := hml0
  have hown : s.vm.findClass "com/example/ragged_cursor/raggedcursor/ids/Id" = some m.cls := findClass_of_methodNamed Bd.named
  have hnm := (name_of_methodNamed Bd.named Bd.method).1
  have X0 : Stand p l e ({ frames := 2, cells := 0, slots := 0, locals := 30 } : Room) s m #[(.ref p0), (.ref p1)] below meth c s₁ [] 0 0 := Stand.of_body Bd
  have e0 : s₁.heap = h0 := by rw [← hh, Bd.state]; rfl
  have N0 := Fr.nil n0
  refine own_body (QQ := (own_Q4 Z p0 p1 f0 f1 h0 n0)) (ef_4 m p0 p1) ?_
  refine own_via (s₁.setTop (mkF m 1 #[.val (.ref p0), .val (.ref p1)] [(.ref p0)])) (fun t k => XS.aloadN X0.here hx rfl (hb hby d4_0) rfl rfl k) ?_
  obtain ⟨T28, X28, e28, st28⟩ := getF X0 hx hZ hown (host := "") (Or.inl (hw _ (List.mem_of_getElem? (i := 14) rfl))) Via.refl e0 P0 (g := (mkF m 1 #[.val (.ref p0), .val (.ref p1)] [(.ref p0)])) rfl rfl (hb hby d4_1)
  refine own_via (T28.setTop (mkF m 4 #[.val (.ref p0), .val (.ref p1)] [(.long f0)])) (fun t k => st28 t k) ?_
  refine own_via (T28.setTop (mkF m 5 #[.val (.ref p0), .val (.ref p1)] [(.ref p1), (.long f0)])) (fun t k => XS.aloadN X28.here hx rfl (hb hby d4_4) rfl rfl k) ?_
  obtain ⟨T29, X29, e29, st29⟩ := getF X28 hx hZ hown (host := "") (Or.inl (hw _ (List.mem_of_getElem? (i := 14) rfl))) Via.refl e28 P1 (g := (mkF m 5 #[.val (.ref p0), .val (.ref p1)] [(.ref p1), (.long f0)])) rfl rfl (hb hby d4_5)
  refine own_via (T29.setTop (mkF m 8 #[.val (.ref p0), .val (.ref p1)] [(.long f1), (.long f0)])) (fun t k => st29 t k) ?_
  obtain ⟨_, _, ⟨T30, L30, k30, n30⟩, -, X30, ⟨Lc30, hQ30, l30, y30, z30⟩, st30⟩ := Jvm.LawKit.callS X29 hx (y := (⟨"java/lang/Long", "compareUnsigned", "(JJ)I"⟩ : MethodName)) hown (mvT hZ (hw _ (List.mem_of_getElem? (i := 21) rfl))) (mvT hZ (hw _ (List.mem_of_getElem? (i := 22) rfl))) (mvT hZ (hw _ (List.mem_of_getElem? (i := 23) rfl))) (mvT hZ (hw _ (List.mem_of_getElem? (i := 24) rfl))) (by decide) (backOf (W := 0) (rm5 l Z a0 hw [] f0 f1 h0 n0 (Nat.le_trans Z0 (Keep.refl h0 []).1)) hZ (hw _ (List.mem_of_getElem? (i := 24) rfl)) (hw _ (List.mem_of_getElem? (i := 23) rfl)) (by decide) (by decide)) (g := (mkF m 8 #[.val (.ref p0), .val (.ref p1)] [(.long f1), (.long f0)])) rfl (by rw [hml]; rfl) (argsL := [(.long f0), (.long f1)]) (rest := []) (lenOf pd_1 rfl) rfl (by show 2 * 0 + _ ≤ _; exact Nat.le_of_eq rfl) (hb hby d4_8) (fun _ _ => ⟨rfl, e29, (by decide : 0 + 0 ≤ _), (by decide : 0 + 0 ≤ _)⟩)
  dsimp only [Pt.U, Pt.locs, Pt.cells, Pt.slots] at X30 l30 y30 z30 st30 hQ30
  subst l30 y30 z30
  obtain ⟨rfl, N30q, e30⟩ := hQ30
  have N30 := Fr.app N0 N30q
  refine own_via (T30.setTop (mkF m 11 #[.val (.ref p0), .val (.ref p1)] [(.int (own_f5 f0 f1))])) (fun t k => st30 t k) ?_
  refine own_leave X30 Bd.notSynchronized (v := some (.int (own_f5 f0 f1))) (fun h => by rw [Bd.returns] at h; cases h) (fun fs hr => retI X30 hx Bd.returns (hb hby d4_11) hr) ?_ (by decide) (by decide)
  exact ⟨rfl, N30, e30⟩
def own_Q0 (n0 : Nat) (v : Option Value) (h : Heap) (L : List Loc) : Prop := v = some (.int 1) ∧ Fr n0 L
theorem pd_2 : parseMethodDescriptor "(J)V" = some ⟨[.long], none⟩ := by decide +kernel
theorem pd_3 : parseMethodDescriptor "(Lcom/example/ragged_cursor/raggedcursor/ids/Id;)I" = some ⟨[(.object "com/example/ragged_cursor/raggedcursor/ids/Id")], some .int⟩ := by decide +kernel
theorem pd_4 : parseMethodDescriptor "(I)I" = some ⟨[.int], some .int⟩ := by decide +kernel
theorem ef_0 (m : MethodId) (p0 : Int64) (p1 : Int64) (p2 : Int32) : entryFrame m #[(.long p0), (.long p1), (.int p2)] maxLocals = mkF m 0 #[.val (.long p0), .second, .val (.long p1), .second, .val (.int p2), .unset, .unset, .unset, .unset, .unset, .unset] [] := by first | (simp [entryFrame, mkF, argsToLocals, Value.category, maxLocals]; done) | rfl
set_option maxRecDepth 65536 in
set_option maxHeartbeats 40000000 in
theorem rm0 (l : Launch) (Z : State) (a0 : Array Value) (hw : ∀ d ∈ tables_1, d.before a0 Z = true) (ws : List Jvm.Cond) (p0 : Int64) (p1 : Int64) (p2 : Int32) (h0 : Heap) (n0 : Nat) (Z0 : n0 ≤ h0.size)  :
    MetFree l x (head1 (Jvm.Cond.code x code maxLocals ret :: ws) room_1) (fun a U => a = #[(.long p0), (.long p1), (.int p2)] ∧ Z.Warmed39 U.vm ∧ U.heap = h0) (fun _ _ _ _ _ => True) (fun _ U o U' => ∃ v L, o = .returned v ∧ (own_Q0 n0) v U'.heap L ∧ FrameEnd U o U' L room_1.cells room_1.slots) := by
  refine MetFree.of_bodySF (plainFor_of_name pn_com_example_ragged_cursor_raggedcursor_ids_IdCompareToPinLaw) hisR ?_
  intro p e s m args below meth c s₁ Bd hml0 hP hK
  obtain ⟨rfl, hZ, hh⟩ := hP
  have hx := Bd.exec
  have hby := Bd.bytes
  have hml : c.maxLocals = 11 := hml0
  have hown : s.vm.findClass "com/example/ragged_cursor/raggedcursor/ids/IdCompareToPinLaw" = some m.cls := findClass_of_methodNamed Bd.named
  have hnm := (name_of_methodNamed Bd.named Bd.method).1
  have X0 : Stand p l e room_1 s m #[(.long p0), (.long p1), (.int p2)] below meth c s₁ [] 0 0 := Stand.of_body Bd
  have e0 : s₁.heap = h0 := by rw [← hh, Bd.state]; rfl
  have N0 := Fr.nil n0
  refine own_body (QQ := (own_Q0 n0)) (ef_0 m p0 p1 p2) ?_
  refine own_via (s₁.setTop (mkF m 2 #[.val (.long p0), .second, .val (.long p1), .second, .val (.int p2), .unset, .unset, .unset, .unset, .unset, .unset] [(.int p2)])) (fun t k => XS.iload X0.here hx rfl (hb hby at_0) rfl  k) ?_
  refine own_via (s₁.setTop (mkF m 3 #[.val (.long p0), .second, .val (.long p1), .second, .val (.int p2), .unset, .unset, .unset, .unset, .unset, .unset] [(.int (3 : Int32)), (.int p2)])) (fun t k => XS.iconst X0.here hx rfl (hb hby at_2) k) ?_
  refine own_via (s₁.setTop (mkF m 4 #[.val (.long p0), .second, .val (.long p1), .second, .val (.int p2), .unset, .unset, .unset, .unset, .unset, .unset] [(.int (p2 &&& (3 : Int32)))])) (fun t k => XS.iand X0.here hx rfl (hb hby at_3) rfl k) ?_
  obtain ⟨z31, hz31⟩ : ∃ z : Int32, z = (p2 &&& (3 : Int32)) := ⟨_, rfl⟩
  refine own_via (s₁.setTop (mkF m 6 #[.val (.long p0), .second, .val (.long p1), .second, .val (.int p2), .val (.int z31), .unset, .unset, .unset, .unset, .unset] [])) (fun t k => XS.istore X0.here hx rfl (hb hby at_4) rfl (l' := #[.val (.long p0), .second, .val (.long p1), .second, .val (.int p2), .val (.int z31), .unset, .unset, .unset, .unset, .unset]) (by rw [hz31]; rfl) k) ?_
  refine own_via (s₁.setTop (mkF m 8 #[.val (.long p0), .second, .val (.long p1), .second, .val (.int p2), .val (.int z31), .unset, .unset, .unset, .unset, .unset] [(.int z31)])) (fun t k => XS.iload X0.here hx rfl (hb hby at_6) rfl  k) ?_
  obtain ⟨z32, hz32⟩ : ∃ z : Int64, z = (if z31 = (0 : Int32) then p1 else (if z31 = (1 : Int32) then p0 else (if z31 = (2 : Int32) then (p0 + (1 : Int64)) else (p0 ^^^ (-9223372036854775808 : Int64))))) := ⟨_, rfl⟩
  refine own_via (s₁.setTop (mkF m 50 #[.val (.long p0), .second, .val (.long p1), .second, .val (.int p2), .val (.int z31), .val (.long z32), .second, .unset, .unset, .unset] [])) (fun t k => ?_) ?_
  · skip
    by_cases hj8_33 : z31 = (0 : Int32)
    · refine XS.ifNo X0.here hx rfl (hb hby at_8) rfl ((if0 _ _).trans (teq hj8_33).2) (?_ : Steps p.tables e below (s₁.setTop (mkF m 11 #[.val (.long p0), .second, .val (.long p1), .second, .val (.int p2), .val (.int z31), .unset, .unset, .unset, .unset, .unset] [])) t)
      refine XS.lloadN X0.here hx rfl (hb hby at_11) rfl  (?_ : Steps p.tables e below (s₁.setTop (mkF m 12 #[.val (.long p0), .second, .val (.long p1), .second, .val (.int p2), .val (.int z31), .unset, .unset, .unset, .unset, .unset] [(.long p1)])) t)
      refine XS.lstore X0.here hx rfl (hb hby at_12) rfl (l' := #[.val (.long p0), .second, .val (.long p1), .second, .val (.int p2), .val (.int z31), .val (.long p1), .second, .unset, .unset, .unset]) rfl (?_ : Steps p.tables e below (s₁.setTop (mkF m 14 #[.val (.long p0), .second, .val (.long p1), .second, .val (.int p2), .val (.int z31), .val (.long p1), .second, .unset, .unset, .unset] [])) t)
      refine XS.goto X0.here hx rfl (pc0 := 14) (pc' := 50) rfl (hb hby at_14) (by decide) (by decide) (?_ : Steps p.tables e below (s₁.setTop (mkF m 50 #[.val (.long p0), .second, .val (.long p1), .second, .val (.int p2), .val (.int z31), .val (.long p1), .second, .unset, .unset, .unset] [])) t)
      have q_z32 := (hz32.trans (if_pos hj8_33))
      subst q_z32
      exact k
    · refine XS.ifYes X0.here hx rfl (pc0 := 8) (pc' := 17) rfl (hb hby at_8) rfl ((if0 _ _).trans (feq hj8_33).2) (by decide) (by decide) (?_ : Steps p.tables e below (s₁.setTop (mkF m 17 #[.val (.long p0), .second, .val (.long p1), .second, .val (.int p2), .val (.int z31), .unset, .unset, .unset, .unset, .unset] [])) t)
      refine XS.iload X0.here hx rfl (hb hby at_17) rfl  (?_ : Steps p.tables e below (s₁.setTop (mkF m 19 #[.val (.long p0), .second, .val (.long p1), .second, .val (.int p2), .val (.int z31), .unset, .unset, .unset, .unset, .unset] [(.int z31)])) t)
      refine XS.iconst X0.here hx rfl (hb hby at_19) (?_ : Steps p.tables e below (s₁.setTop (mkF m 20 #[.val (.long p0), .second, .val (.long p1), .second, .val (.int p2), .val (.int z31), .unset, .unset, .unset, .unset, .unset] [(.int (1 : Int32)), (.int z31)])) t)
      by_cases hj20_34 : z31 = (1 : Int32)
      · refine XS.icmpNo X0.here hx rfl (hb hby at_20) rfl (teq hj20_34).2 (?_ : Steps p.tables e below (s₁.setTop (mkF m 23 #[.val (.long p0), .second, .val (.long p1), .second, .val (.int p2), .val (.int z31), .unset, .unset, .unset, .unset, .unset] [])) t)
        refine XS.lloadN X0.here hx rfl (hb hby at_23) rfl  (?_ : Steps p.tables e below (s₁.setTop (mkF m 24 #[.val (.long p0), .second, .val (.long p1), .second, .val (.int p2), .val (.int z31), .unset, .unset, .unset, .unset, .unset] [(.long p0)])) t)
        refine XS.lstore X0.here hx rfl (hb hby at_24) rfl (l' := #[.val (.long p0), .second, .val (.long p1), .second, .val (.int p2), .val (.int z31), .val (.long p0), .second, .unset, .unset, .unset]) rfl (?_ : Steps p.tables e below (s₁.setTop (mkF m 26 #[.val (.long p0), .second, .val (.long p1), .second, .val (.int p2), .val (.int z31), .val (.long p0), .second, .unset, .unset, .unset] [])) t)
        refine XS.goto X0.here hx rfl (pc0 := 26) (pc' := 50) rfl (hb hby at_26) (by decide) (by decide) (?_ : Steps p.tables e below (s₁.setTop (mkF m 50 #[.val (.long p0), .second, .val (.long p1), .second, .val (.int p2), .val (.int z31), .val (.long p0), .second, .unset, .unset, .unset] [])) t)
        have q_z32 := ((hz32.trans (if_neg hj8_33)).trans (if_pos hj20_34))
        subst q_z32
        exact k
      · refine XS.icmpYes X0.here hx rfl (pc0 := 20) (pc' := 29) rfl (hb hby at_20) rfl (feq hj20_34).2 (by decide) (by decide) (?_ : Steps p.tables e below (s₁.setTop (mkF m 29 #[.val (.long p0), .second, .val (.long p1), .second, .val (.int p2), .val (.int z31), .unset, .unset, .unset, .unset, .unset] [])) t)
        refine XS.iload X0.here hx rfl (hb hby at_29) rfl  (?_ : Steps p.tables e below (s₁.setTop (mkF m 31 #[.val (.long p0), .second, .val (.long p1), .second, .val (.int p2), .val (.int z31), .unset, .unset, .unset, .unset, .unset] [(.int z31)])) t)
        refine XS.iconst X0.here hx rfl (hb hby at_31) (?_ : Steps p.tables e below (s₁.setTop (mkF m 32 #[.val (.long p0), .second, .val (.long p1), .second, .val (.int p2), .val (.int z31), .unset, .unset, .unset, .unset, .unset] [(.int (2 : Int32)), (.int z31)])) t)
        by_cases hj32_35 : z31 = (2 : Int32)
        · refine XS.icmpNo X0.here hx rfl (hb hby at_32) rfl (teq hj32_35).2 (?_ : Steps p.tables e below (s₁.setTop (mkF m 35 #[.val (.long p0), .second, .val (.long p1), .second, .val (.int p2), .val (.int z31), .unset, .unset, .unset, .unset, .unset] [])) t)
          refine XS.lloadN X0.here hx rfl (hb hby at_35) rfl  (?_ : Steps p.tables e below (s₁.setTop (mkF m 36 #[.val (.long p0), .second, .val (.long p1), .second, .val (.int p2), .val (.int z31), .unset, .unset, .unset, .unset, .unset] [(.long p0)])) t)
          refine XS.lconst X0.here hx rfl (hb hby at_36) (?_ : Steps p.tables e below (s₁.setTop (mkF m 37 #[.val (.long p0), .second, .val (.long p1), .second, .val (.int p2), .val (.int z31), .unset, .unset, .unset, .unset, .unset] [(.long (1 : Int64)), (.long p0)])) t)
          refine XS.ladd X0.here hx rfl (hb hby at_37) rfl (?_ : Steps p.tables e below (s₁.setTop (mkF m 38 #[.val (.long p0), .second, .val (.long p1), .second, .val (.int p2), .val (.int z31), .unset, .unset, .unset, .unset, .unset] [(.long (p0 + (1 : Int64)))])) t)
          refine XS.lstore X0.here hx rfl (hb hby at_38) rfl (l' := #[.val (.long p0), .second, .val (.long p1), .second, .val (.int p2), .val (.int z31), .val (.long (p0 + (1 : Int64))), .second, .unset, .unset, .unset]) rfl (?_ : Steps p.tables e below (s₁.setTop (mkF m 40 #[.val (.long p0), .second, .val (.long p1), .second, .val (.int p2), .val (.int z31), .val (.long (p0 + (1 : Int64))), .second, .unset, .unset, .unset] [])) t)
          refine XS.goto X0.here hx rfl (pc0 := 40) (pc' := 50) rfl (hb hby at_40) (by decide) (by decide) (?_ : Steps p.tables e below (s₁.setTop (mkF m 50 #[.val (.long p0), .second, .val (.long p1), .second, .val (.int p2), .val (.int z31), .val (.long (p0 + (1 : Int64))), .second, .unset, .unset, .unset] [])) t)
          have q_z32 := (((hz32.trans (if_neg hj8_33)).trans (if_neg hj20_34)).trans (if_pos hj32_35))
          subst q_z32
          exact k
        · refine XS.icmpYes X0.here hx rfl (pc0 := 32) (pc' := 43) rfl (hb hby at_32) rfl (feq hj32_35).2 (by decide) (by decide) (?_ : Steps p.tables e below (s₁.setTop (mkF m 43 #[.val (.long p0), .second, .val (.long p1), .second, .val (.int p2), .val (.int z31), .unset, .unset, .unset, .unset, .unset] [])) t)
          refine XS.lloadN X0.here hx rfl (hb hby at_43) rfl  (?_ : Steps p.tables e below (s₁.setTop (mkF m 44 #[.val (.long p0), .second, .val (.long p1), .second, .val (.int p2), .val (.int z31), .unset, .unset, .unset, .unset, .unset] [(.long p0)])) t)
          refine X0.ldc2Long hx hown (mvT hZ (hw _ (List.mem_of_getElem? (i := 36) rfl))) (g := (mkF m 44 #[.val (.long p0), .second, .val (.long p1), .second, .val (.int p2), .val (.int z31), .unset, .unset, .unset, .unset, .unset] [(.long p0)])) rfl (hb hby at_44) _ (?_ : Steps p.tables e below (s₁.setTop (mkF m 47 #[.val (.long p0), .second, .val (.long p1), .second, .val (.int p2), .val (.int z31), .unset, .unset, .unset, .unset, .unset] [(.long (-9223372036854775808 : Int64)), (.long p0)])) t)
          refine XS.lxor X0.here hx rfl (hb hby at_47) rfl (?_ : Steps p.tables e below (s₁.setTop (mkF m 48 #[.val (.long p0), .second, .val (.long p1), .second, .val (.int p2), .val (.int z31), .unset, .unset, .unset, .unset, .unset] [(.long (p0 ^^^ (-9223372036854775808 : Int64)))])) t)
          refine XS.lstore X0.here hx rfl (hb hby at_48) rfl (l' := #[.val (.long p0), .second, .val (.long p1), .second, .val (.int p2), .val (.int z31), .val (.long (p0 ^^^ (-9223372036854775808 : Int64))), .second, .unset, .unset, .unset]) rfl (?_ : Steps p.tables e below (s₁.setTop (mkF m 50 #[.val (.long p0), .second, .val (.long p1), .second, .val (.int p2), .val (.int z31), .val (.long (p0 ^^^ (-9223372036854775808 : Int64))), .second, .unset, .unset, .unset] [])) t)
          have q_z32 := (((hz32.trans (if_neg hj8_33)).trans (if_neg hj20_34)).trans (if_neg hj32_35))
          subst q_z32
          exact k
  obtain ⟨T36, h36, X36, e36, E36, A36, D36, -, st36⟩ := newO X0 hx hZ hown (hw _ (List.mem_of_getElem? (i := 0) rfl)) (hw _ (List.mem_of_getElem? (i := 1) rfl)) (hw _ (List.mem_of_getElem? (i := 2) rfl)) e0 (g := (mkF m 50 #[.val (.long p0), .second, .val (.long p1), .second, .val (.int p2), .val (.int z31), .val (.long z32), .second, .unset, .unset, .unset] [])) rfl (hb hby at_50) (by decide) (by decide)
  obtain ⟨b36, g36⟩ : ∃ z, z = h0.size := ⟨_, rfl⟩
  rw [← g36] at A36 D36 st36
  have gg_b36 : n0 ≤ b36 := Nat.le_trans (Nat.le_trans Z0 (Keep.refl h0 []).1) (Nat.le_of_eq g36.symm)
  have sz_b36 : h0.size ≤ b36 := Nat.le_trans (Keep.refl h0 []).1 (Nat.le_of_eq g36.symm)
  have F_bits_b36 : Fld Z h36 b36 "com/example/ragged_cursor/raggedcursor/ids/Id" "bits" "J" (.long (0 : Int64)) := D36 (Or.inr (hw _ (List.mem_of_getElem? (i := 15) rfl))) (ty := .long) (by decide)
  have K37 : Keep h0 h36 [] := (Keep.refl h0 []).ext E36
  refine own_via (T36.setTop (mkF m 53 #[.val (.long p0), .second, .val (.long p1), .second, .val (.int p2), .val (.int z31), .val (.long z32), .second, .unset, .unset, .unset] [(.ref b36)])) (fun t k => st36 t k) ?_
  refine own_via (T36.setTop (mkF m 54 #[.val (.long p0), .second, .val (.long p1), .second, .val (.int p2), .val (.int z31), .val (.long z32), .second, .unset, .unset, .unset] [(.ref b36), (.ref b36)])) (fun t k => XS.dup X36.here hx rfl (hb hby at_53) rfl rfl k) ?_
  refine own_via (T36.setTop (mkF m 55 #[.val (.long p0), .second, .val (.long p1), .second, .val (.int p2), .val (.int z31), .val (.long z32), .second, .unset, .unset, .unset] [(.long p0), (.ref b36), (.ref b36)])) (fun t k => XS.lloadN X36.here hx rfl (hb hby at_54) rfl  k) ?_
  obtain ⟨_, _, ⟨T38, L38, k38, n38⟩, -, X38, ⟨Lc38, hQ38, l38, y38, z38⟩, st38⟩ := X36.specialBack hx (y := (⟨"com/example/ragged_cursor/raggedcursor/ids/Id", "<init>", "(J)V"⟩ : MethodName)) rfl hown (mvT hZ (hw _ (List.mem_of_getElem? (i := 3) rfl))) (mvT hZ (hw _ (List.mem_of_getElem? (i := 4) rfl))) (mvT hZ (hw _ (List.mem_of_getElem? (i := 5) rfl))) (by decide) (backOf (W := 1) (rm1 l Z a0 hw [] b36 p0 h36 n0 (Nat.le_trans Z0 K37.1) F_bits_b36 A36 gg_b36) hZ (hw _ (List.mem_of_getElem? (i := 5) rfl)) (hw _ (List.mem_of_getElem? (i := 2) rfl)) (by decide) (by decide)) (g := (mkF m 55 #[.val (.long p0), .second, .val (.long p1), .second, .val (.int p2), .val (.int z31), .val (.long z32), .second, .unset, .unset, .unset] [(.long p0), (.ref b36), (.ref b36)])) rfl (by rw [hml]; rfl) (Steps.refl _) (a := b36) (argsL := [(.long p0)]) (rest := [(.ref b36)]) (lenOf pd_2 rfl) rfl (by show 2 * 0 + _ ≤ _; exact Nat.le_of_eq rfl) (hb hby at_55) (fun _ _ => ⟨rfl, e36, (by decide : 1 + 0 ≤ _), (by decide : 1 + 0 ≤ _)⟩)
  dsimp only [Pt.U, Pt.locs, Pt.cells, Pt.slots] at X38 l38 y38 z38 st38 hQ38
  subst l38 y38 z38
  obtain ⟨h38, e38⟩ : ∃ h, T38.heap = h := ⟨_, rfl⟩
  rw [e38] at hQ38
  obtain ⟨rfl, N38q, K38q, G38_0, G38_1⟩ := hQ38
  have N38 := Fr.app N0 N38q
  have K39 : Keep h0 h38 [] := K37.trans K38q (fun x hx => (List.mem_cons.mp hx).elim (fun e => e ▸ Or.inr sz_b36) ((fun x hx => nomatch hx) x))
  refine own_via (T38.setTop (mkF m 58 #[.val (.long p0), .second, .val (.long p1), .second, .val (.int p2), .val (.int z31), .val (.long z32), .second, .unset, .unset, .unset] [(.ref b36)])) (fun t k => st38.trans k) ?_
  refine own_via (T38.setTop (mkF m 60 #[.val (.long p0), .second, .val (.long p1), .second, .val (.int p2), .val (.int z31), .val (.long z32), .second, .val (.ref b36), .unset, .unset] [])) (fun t k => XS.astore X38.here hx rfl (hb hby at_58) rfl rfl (l' := #[.val (.long p0), .second, .val (.long p1), .second, .val (.int p2), .val (.int z31), .val (.long z32), .second, .val (.ref b36), .unset, .unset]) rfl k) ?_
  obtain ⟨T40, h40, X40, e40, E40, A40, D40, -, st40⟩ := newO X38 hx hZ hown (hw _ (List.mem_of_getElem? (i := 0) rfl)) (hw _ (List.mem_of_getElem? (i := 1) rfl)) (hw _ (List.mem_of_getElem? (i := 2) rfl)) e38 (g := (mkF m 60 #[.val (.long p0), .second, .val (.long p1), .second, .val (.int p2), .val (.int z31), .val (.long z32), .second, .val (.ref b36), .unset, .unset] [])) rfl (hb hby at_60) (by decide) (by decide)
  obtain ⟨b40, g40⟩ : ∃ z, z = h38.size := ⟨_, rfl⟩
  rw [← g40] at A40 D40 st40
  have gg_b40 : n0 ≤ b40 := Nat.le_trans (Nat.le_trans Z0 K39.1) (Nat.le_of_eq g40.symm)
  have sz_b40 : h0.size ≤ b40 := Nat.le_trans K39.1 (Nat.le_of_eq g40.symm)
  have ne_b36_b40 : b36 ≠ b40 := Nat.ne_of_lt (Nat.lt_of_lt_of_le G38_0.lt (Nat.le_of_eq g40.symm))
  have F_bits_b40 : Fld Z h40 b40 "com/example/ragged_cursor/raggedcursor/ids/Id" "bits" "J" (.long (0 : Int64)) := D40 (Or.inr (hw _ (List.mem_of_getElem? (i := 15) rfl))) (ty := .long) (by decide)
  have K41 : Keep h0 h40 [] := K39.ext E40
  refine own_via (T40.setTop (mkF m 63 #[.val (.long p0), .second, .val (.long p1), .second, .val (.int p2), .val (.int z31), .val (.long z32), .second, .val (.ref b36), .unset, .unset] [(.ref b40)])) (fun t k => st40 t k) ?_
  refine own_via (T40.setTop (mkF m 64 #[.val (.long p0), .second, .val (.long p1), .second, .val (.int p2), .val (.int z31), .val (.long z32), .second, .val (.ref b36), .unset, .unset] [(.ref b40), (.ref b40)])) (fun t k => XS.dup X40.here hx rfl (hb hby at_63) rfl rfl k) ?_
  refine own_via (T40.setTop (mkF m 66 #[.val (.long p0), .second, .val (.long p1), .second, .val (.int p2), .val (.int z31), .val (.long z32), .second, .val (.ref b36), .unset, .unset] [(.long z32), (.ref b40), (.ref b40)])) (fun t k => XS.lload X40.here hx rfl (hb hby at_64) rfl  k) ?_
  obtain ⟨_, _, ⟨T42, L42, k42, n42⟩, -, X42, ⟨Lc42, hQ42, l42, y42, z42⟩, st42⟩ := X40.specialBack hx (y := (⟨"com/example/ragged_cursor/raggedcursor/ids/Id", "<init>", "(J)V"⟩ : MethodName)) rfl hown (mvT hZ (hw _ (List.mem_of_getElem? (i := 3) rfl))) (mvT hZ (hw _ (List.mem_of_getElem? (i := 4) rfl))) (mvT hZ (hw _ (List.mem_of_getElem? (i := 5) rfl))) (by decide) (backOf (W := 1) (rm1 l Z a0 hw [] b40 z32 h40 n0 (Nat.le_trans Z0 K41.1) F_bits_b40 A40 gg_b40) hZ (hw _ (List.mem_of_getElem? (i := 5) rfl)) (hw _ (List.mem_of_getElem? (i := 2) rfl)) (by decide) (by decide)) (g := (mkF m 66 #[.val (.long p0), .second, .val (.long p1), .second, .val (.int p2), .val (.int z31), .val (.long z32), .second, .val (.ref b36), .unset, .unset] [(.long z32), (.ref b40), (.ref b40)])) rfl (by rw [hml]; rfl) (Steps.refl _) (a := b40) (argsL := [(.long z32)]) (rest := [(.ref b40)]) (lenOf pd_2 rfl) rfl (by show 2 * 0 + _ ≤ _; exact Nat.le_of_eq rfl) (hb hby at_66) (fun _ _ => ⟨rfl, e40, (by decide : 2 + 0 ≤ _), (by decide : 2 + 0 ≤ _)⟩)
  dsimp only [Pt.U, Pt.locs, Pt.cells, Pt.slots] at X42 l42 y42 z42 st42 hQ42
  subst l42 y42 z42
  obtain ⟨h42, e42⟩ : ∃ h, T42.heap = h := ⟨_, rfl⟩
  rw [e42] at hQ42
  obtain ⟨rfl, N42q, K42q, G42_0, G42_1⟩ := hQ42
  have N42 := Fr.app N38 N42q
  have K43 : Keep h0 h42 [] := K41.trans K42q (fun x hx => (List.mem_cons.mp hx).elim (fun e => e ▸ Or.inr sz_b40) ((fun x hx => nomatch hx) x))
  refine own_via (T42.setTop (mkF m 69 #[.val (.long p0), .second, .val (.long p1), .second, .val (.int p2), .val (.int z31), .val (.long z32), .second, .val (.ref b36), .unset, .unset] [(.ref b40)])) (fun t k => st42.trans k) ?_
  refine own_via (T42.setTop (mkF m 71 #[.val (.long p0), .second, .val (.long p1), .second, .val (.int p2), .val (.int z31), .val (.long z32), .second, .val (.ref b36), .val (.ref b40), .unset] [])) (fun t k => XS.astore X42.here hx rfl (hb hby at_69) rfl rfl (l' := #[.val (.long p0), .second, .val (.long p1), .second, .val (.int p2), .val (.int z31), .val (.long z32), .second, .val (.ref b36), .val (.ref b40), .unset]) rfl k) ?_
  refine own_via (T42.setTop (mkF m 73 #[.val (.long p0), .second, .val (.long p1), .second, .val (.int p2), .val (.int z31), .val (.long z32), .second, .val (.ref b36), .val (.ref b40), .unset] [(.ref b36)])) (fun t k => XS.aload X42.here hx rfl (hb hby at_71) rfl rfl k) ?_
  refine own_via (T42.setTop (mkF m 75 #[.val (.long p0), .second, .val (.long p1), .second, .val (.int p2), .val (.int z31), .val (.long z32), .second, .val (.ref b36), .val (.ref b40), .unset] [(.ref b40), (.ref b36)])) (fun t k => XS.aload X42.here hx rfl (hb hby at_73) rfl rfl k) ?_
  have F45 := ((G38_1.ext E40).keep K42q (fun q => ne_b36_b40 (List.mem_singleton.mp q)))
  have F46 := ((G38_0.ext E40).keep K42q)
  obtain ⟨cq44, kq44, q44a, q44b, q44c⟩ := isOf hZ e42 F46
  obtain ⟨_, _, ⟨T44, L44, k44, n44⟩, -, X44, ⟨Lc44, hQ44, l44, y44, z44⟩, st44⟩ := X42.virtualBack hx (y := (⟨"com/example/ragged_cursor/raggedcursor/ids/Id", "compareTo", "(Lcom/example/ragged_cursor/raggedcursor/ids/Id;)I"⟩ : MethodName)) (z := (⟨"com/example/ragged_cursor/raggedcursor/ids/Id", "compareTo", "(Lcom/example/ragged_cursor/raggedcursor/ids/Id;)I"⟩ : MethodName)) hown (mvT hZ (hw _ (List.mem_of_getElem? (i := 16) rfl))) (mvT hZ (hw _ (List.mem_of_getElem? (i := 17) rfl))) (notFace_of_selects (args := #[]) (mvT hZ (hw _ (List.mem_of_getElem? (i := 19) rfl)))) (mvT hZ (hw _ (List.mem_of_getElem? (i := 19) rfl))) (mvT hZ (hw _ (List.mem_of_getElem? (i := 18) rfl))) (by decide) (backOf (W := 0) (rm4 l Z a0 hw [] b36 b40 h42 n0 (Nat.le_trans Z0 K43.1) p0 z32 F45 G42_1) hZ (hw _ (List.mem_of_getElem? (i := 20) rfl)) (hw _ (List.mem_of_getElem? (i := 2) rfl)) (by decide) (by decide)) q44a q44c (g := (mkF m 75 #[.val (.long p0), .second, .val (.long p1), .second, .val (.int p2), .val (.int z31), .val (.long z32), .second, .val (.ref b36), .val (.ref b40), .unset] [(.ref b40), (.ref b36)])) rfl (by rw [hml]; rfl) (Steps.refl _) (argsL := [(.ref b40)]) (rest := []) (lenOf pd_3 rfl) rfl (by show 2 * 0 + _ ≤ _; exact Nat.le_of_eq rfl) (hb hby at_75) (fun _ _ => ⟨rfl, e42, (by decide : 2 + 0 ≤ _), (by decide : 2 + 0 ≤ _)⟩)
  dsimp only [Pt.U, Pt.locs, Pt.cells, Pt.slots] at X44 l44 y44 z44 st44 hQ44
  subst l44 y44 z44
  obtain ⟨rfl, N44q, e44⟩ := hQ44
  have N44 := Fr.app N42 N44q
  refine own_via (T44.setTop (mkF m 78 #[.val (.long p0), .second, .val (.long p1), .second, .val (.int p2), .val (.int z31), .val (.long z32), .second, .val (.ref b36), .val (.ref b40), .unset] [(.int (own_f5 p0 z32))])) (fun t k => st44.trans k) ?_
  obtain ⟨z47, hz47⟩ : ∃ z : Int32, z = (own_f5 p0 z32) := ⟨_, rfl⟩
  refine own_via (T44.setTop (mkF m 80 #[.val (.long p0), .second, .val (.long p1), .second, .val (.int p2), .val (.int z31), .val (.long z32), .second, .val (.ref b36), .val (.ref b40), .val (.int z47)] [])) (fun t k => XS.istore X44.here hx rfl (hb hby at_78) rfl (l' := #[.val (.long p0), .second, .val (.long p1), .second, .val (.int p2), .val (.int z31), .val (.long z32), .second, .val (.ref b36), .val (.ref b40), .val (.int z47)]) (by rw [hz47]; rfl) k) ?_
  refine own_via (T44.setTop (mkF m 82 #[.val (.long p0), .second, .val (.long p1), .second, .val (.int p2), .val (.int z31), .val (.long z32), .second, .val (.ref b36), .val (.ref b40), .val (.int z47)] [(.int z47)])) (fun t k => XS.iload X44.here hx rfl (hb hby at_80) rfl  k) ?_
  obtain ⟨_, _, ⟨T48, L48, k48, n48⟩, -, X48, ⟨Lc48, hQ48, l48, y48, z48⟩, st48⟩ := Jvm.LawKit.callS X44 hx (y := (⟨"com/example/ragged_cursor/raggedcursor/ids/IdCompareToPinLaw", "sign", "(I)I"⟩ : MethodName)) hown (mvT hZ (hw _ (List.mem_of_getElem? (i := 29) rfl))) (mvT hZ (hw _ (List.mem_of_getElem? (i := 30) rfl))) (mvT hZ (hw _ (List.mem_of_getElem? (i := 31) rfl))) (mvT hZ (hw _ (List.mem_of_getElem? (i := 32) rfl))) (by decide) (backOf (W := 0) (rm7 l Z a0 hw [] z47 h42 n0 (Nat.le_trans Z0 K43.1)) hZ (hw _ (List.mem_of_getElem? (i := 32) rfl)) (hw _ (List.mem_of_getElem? (i := 31) rfl)) (by decide) (by decide)) (g := (mkF m 82 #[.val (.long p0), .second, .val (.long p1), .second, .val (.int p2), .val (.int z31), .val (.long z32), .second, .val (.ref b36), .val (.ref b40), .val (.int z47)] [(.int z47)])) rfl (by rw [hml]; rfl) (argsL := [(.int z47)]) (rest := []) (lenOf pd_4 rfl) rfl (by show 2 * 0 + _ ≤ _; exact Nat.le_of_eq rfl) (hb hby at_82) (fun _ _ => ⟨rfl, e44, (by decide : 2 + 0 ≤ _), (by decide : 2 + 0 ≤ _)⟩)
  dsimp only [Pt.U, Pt.locs, Pt.cells, Pt.slots] at X48 l48 y48 z48 st48 hQ48
  subst l48 y48 z48
  obtain ⟨rfl, N48q, e48⟩ := hQ48
  have N48 := Fr.app N44 N48q
  refine own_via (T48.setTop (mkF m 85 #[.val (.long p0), .second, .val (.long p1), .second, .val (.int p2), .val (.int z31), .val (.long z32), .second, .val (.ref b36), .val (.ref b40), .val (.int z47)] [(.int (own_f7 z47))])) (fun t k => st48 t k) ?_
  refine own_via (T48.setTop (mkF m 86 #[.val (.long p0), .second, .val (.long p1), .second, .val (.int p2), .val (.int z31), .val (.long z32), .second, .val (.ref b36), .val (.ref b40), .val (.int z47)] [(.long p0), (.int (own_f7 z47))])) (fun t k => XS.lloadN X48.here hx rfl (hb hby at_85) rfl  k) ?_
  refine own_via (T48.setTop (mkF m 88 #[.val (.long p0), .second, .val (.long p1), .second, .val (.int p2), .val (.int z31), .val (.long z32), .second, .val (.ref b36), .val (.ref b40), .val (.int z47)] [(.long z32), (.long p0), (.int (own_f7 z47))])) (fun t k => XS.lload X48.here hx rfl (hb hby at_86) rfl  k) ?_
  obtain ⟨_, _, ⟨T49, L49, k49, n49⟩, -, X49, ⟨Lc49, hQ49, l49, y49, z49⟩, st49⟩ := Jvm.LawKit.callS X48 hx (y := (⟨"com/example/ragged_cursor/raggedcursor/ids/IdCompareToPinLaw", "unsignedReference", "(JJ)I"⟩ : MethodName)) hown (mvT hZ (hw _ (List.mem_of_getElem? (i := 33) rfl))) (mvT hZ (hw _ (List.mem_of_getElem? (i := 34) rfl))) (mvT hZ (hw _ (List.mem_of_getElem? (i := 31) rfl))) (mvT hZ (hw _ (List.mem_of_getElem? (i := 35) rfl))) (by decide) (backOf (W := 1) (rm8 l Z a0 hw [] p0 z32 h42 n0 (Nat.le_trans Z0 K43.1)) hZ (hw _ (List.mem_of_getElem? (i := 35) rfl)) (hw _ (List.mem_of_getElem? (i := 31) rfl)) (by decide) (by decide)) (g := (mkF m 88 #[.val (.long p0), .second, .val (.long p1), .second, .val (.int p2), .val (.int z31), .val (.long z32), .second, .val (.ref b36), .val (.ref b40), .val (.int z47)] [(.long z32), (.long p0), (.int (own_f7 z47))])) rfl (by rw [hml]; rfl) (argsL := [(.long p0), (.long z32)]) (rest := [(.int (own_f7 z47))]) (lenOf pd_1 rfl) rfl (by show 2 * 0 + _ ≤ _; exact Nat.le_of_eq rfl) (hb hby at_88) (fun _ _ => ⟨rfl, e48, (by decide : 2 + 0 ≤ _), (by decide : 2 + 0 ≤ _)⟩)
  dsimp only [Pt.U, Pt.locs, Pt.cells, Pt.slots] at X49 l49 y49 z49 st49 hQ49
  subst l49 y49 z49
  obtain ⟨rfl, N49q, e49⟩ := hQ49
  have N49 := Fr.app N48 N49q
  refine own_via (T49.setTop (mkF m 91 #[.val (.long p0), .second, .val (.long p1), .second, .val (.int p2), .val (.int z31), .val (.long z32), .second, .val (.ref b36), .val (.ref b40), .val (.int z47)] [(.int (own_f8 p0 z32)), (.int (own_f7 z47))])) (fun t k => st49 t k) ?_
  obtain ⟨z50, hz50⟩ : ∃ z : Int32, z = (if (own_f7 z47) = (own_f8 p0 z32) then (1 : Int32) else (0 : Int32)) := ⟨_, rfl⟩
  refine own_via (T49.setTop (mkF m 99 #[.val (.long p0), .second, .val (.long p1), .second, .val (.int p2), .val (.int z31), .val (.long z32), .second, .val (.ref b36), .val (.ref b40), .val (.int z47)] [(.int z50)])) (fun t k => ?_) ?_
  · skip
    by_cases hj91_51 : (own_f7 z47) = (own_f8 p0 z32)
    · refine XS.icmpNo X49.here hx rfl (hb hby at_91) rfl (teq hj91_51).2 (?_ : Steps p.tables e below (T49.setTop (mkF m 94 #[.val (.long p0), .second, .val (.long p1), .second, .val (.int p2), .val (.int z31), .val (.long z32), .second, .val (.ref b36), .val (.ref b40), .val (.int z47)] [])) t)
      refine XS.iconst X49.here hx rfl (hb hby at_94) (?_ : Steps p.tables e below (T49.setTop (mkF m 95 #[.val (.long p0), .second, .val (.long p1), .second, .val (.int p2), .val (.int z31), .val (.long z32), .second, .val (.ref b36), .val (.ref b40), .val (.int z47)] [(.int (1 : Int32))])) t)
      refine XS.goto X49.here hx rfl (pc0 := 95) (pc' := 99) rfl (hb hby at_95) (by decide) (by decide) (?_ : Steps p.tables e below (T49.setTop (mkF m 99 #[.val (.long p0), .second, .val (.long p1), .second, .val (.int p2), .val (.int z31), .val (.long z32), .second, .val (.ref b36), .val (.ref b40), .val (.int z47)] [(.int (1 : Int32))])) t)
      have q_z50 := (hz50.trans (if_pos hj91_51))
      subst q_z50
      exact k
    · refine XS.icmpYes X49.here hx rfl (pc0 := 91) (pc' := 98) rfl (hb hby at_91) rfl (feq hj91_51).2 (by decide) (by decide) (?_ : Steps p.tables e below (T49.setTop (mkF m 98 #[.val (.long p0), .second, .val (.long p1), .second, .val (.int p2), .val (.int z31), .val (.long z32), .second, .val (.ref b36), .val (.ref b40), .val (.int z47)] [])) t)
      refine XS.iconst X49.here hx rfl (hb hby at_98) (?_ : Steps p.tables e below (T49.setTop (mkF m 99 #[.val (.long p0), .second, .val (.long p1), .second, .val (.int p2), .val (.int z31), .val (.long z32), .second, .val (.ref b36), .val (.ref b40), .val (.int z47)] [(.int (0 : Int32))])) t)
      have q_z50 := (hz50.trans (if_neg hj91_51))
      subst q_z50
      exact k
  refine own_leave X49 Bd.notSynchronized (v := some (.int (nar .boolean z50))) (fun h => by rw [Bd.returns] at h; cases h) (fun fs hr => retN X49 hx (t := .boolean) Bd.returns (by simp) (hb hby at_99) hr) ?_ (by decide) (by decide)
  refine ⟨?_, N49⟩
  rw [hz50, hz47, if_pos (own_law _ _)]; rfl
set_option maxRecDepth 65536 in
set_option maxHeartbeats 40000000 in
theorem comes_1 {Post : Tables → Env → Array Value → State → Outcome → State → Prop} (hpost : ∀ tb e args s v u, (limb_1_1.after args s (.returned v) u = true ∧ limb_1_2.after args s (.returned v) u = true ∧ True) → FrameEnd s (.returned v) u (Jvm.fieldLocs frame_1_writes args s ++ Jvm.arrayLocs frame_1_arrays args s ++ Jvm.staticLocs frame_1_statics s) 16 128 → Post tb e args s (.returned v) u) :
    ArmFor flags0 classFile x code maxLocals ret World_1 tables_1 room_1 Calls_1 rest_1 Pre_1 Post := by
  intro l hfl _ _ p e ha hc hk s m args below hf hA hF happ hP
  obtain ⟨hcalls, hrest, hpre⟩ := hP
  obtain ⟨-, -, -, hnamed, -, -, -, hat⟩ := (Spec.applies_iff hf).mp happ
  obtain ⟨hg, hn⟩ := and_e (Cond.before_iff.mp (show (Jvm.Cond.and given_1 narrow_1).before args s = true from hpre))
  obtain ⟨g0, g⟩ := and_e hg
  obtain ⟨ga0, g⟩ := and_e g
  obtain ⟨ga1, g⟩ := and_e g
  have ga2 := g
  obtain ⟨w0, w1, w2, rfl⟩ : ∃ w0 w1 w2 : Value, args = #[w0, w1, w2] := by
    have hs : args.size = 3 := by simpa [Cond.value, given_1] using g0
    obtain ⟨L⟩ := args
    match L, hs with
    | [w0, w1, w2], _ => exact ⟨w0, w1, w2, rfl⟩
  have hw := fun d (hd : d ∈ tables_1) => atoms_spec (ws := Jvm.Cond.code x code maxLocals ret :: tables_1) hat d (List.mem_cons_of_mem _ hd)
  have hfit : Fit s := fun {y c} hc i hi => by
    obtain ⟨ha, rfl⟩ := Array.getElem?_eq_some_iff.mp hc
    have q := List.all_eq_true.mp ((Array.all_eq_true_iff_forall_mem.mp hF) _ (Array.getElem_mem ha)) i (List.mem_range.mpr hi)
    simpa [Array.getElem?_eq_getElem hi] using q
  obtain ⟨i0, ei0⟩ := isL_v ga0
  obtain rfl : w0 = (.long i0) := Option.some.inj ei0
  obtain ⟨i1, ei1⟩ := isL_v ga1
  obtain rfl : w1 = (.long i1) := Option.some.inj ei1
  obtain ⟨i2, ei2⟩ := is_v ga2
  obtain rfl : w2 = (.int i2) := Option.some.inj ei2
  obtain ⟨n, o, h1, h2, h3, _, L, rfl, ⟨rfl, N⟩, hq⟩ := rm0 l s _ hw tables_1 i0 i1 i2 s.heap s.heap.size (Nat.le_refl _)  p e ha hc hk s m _ below hf ((Spec.applies_iff_loose hf).mp happ).1 ⟨rfl, State.Warmed39.refl s, rfl⟩ trivial
  refine ⟨n, _, h1, h2, h3, hpost _ _ _ _ _ _ ⟨Cond.after_iff.mpr rfl, Cond.after_iff.mpr (eq_i res_at (Term.int_eval (1)) rfl), trivial⟩ ⟨hq.1, hq.2.1, (hq.2.2.sift fun y hy => Or.inr (N y hy)).mono (by decide) (by decide)⟩⟩
theorem main_1_1 : Claimed_1_1 := comes_1 fun _ _ _ _ _ _ h hF => ⟨h.1, hF⟩
theorem main_1_2 : Claimed_1_2 := comes_1 fun _ _ _ _ _ _ h hF => ⟨h.2.1, hF⟩
end Jvm.Pilot.@@N@@
namespace Jvm.Pilot.@@N@@
open Jvm Jvm.ClassFile Sem Op Lib Jvm.Free Jvm.Stand Jvm.Pilot.@@N@@.Jvm.D
/-! MADE BY PROGRAM (witnessworld.py) out of the Statement's table words and the real class files: 15 classes; the members and pool entries that the words name. The judged class is class 1, her method 3. -/
namespace start1
open Jvm.ClassFile
def u (s : String) : CpInfo := .utf8 (stringToUtf16 s)
/-- a pool by its gaps: so many unusable entries, then the entry; so many at the end -/
def gap : Nat → List CpInfo → List CpInfo
  | 0, r => r
  | n + 1, r => .unusable :: gap n r
def poolList (es : List (Nat × CpInfo)) (last : Nat) : List CpInfo := es.foldr (fun e r => gap e.1 (e.2 :: r)) (gap last [])
def pool (es : List (Nat × CpInfo)) (last : Nat) : Array CpInfo := ⟨poolList es last⟩
def fileOf (pool : Array CpInfo) (this : Nat) (attrs : Array Attribute := #[]) (ms : Array MethodInfo := #[]) (fl : Nat := 33) (sup : Nat := 0) (ifs : Array Nat := #[]) (fds : Array FieldInfo := #[]) : ClassFile where
  minorVersion := 0
  majorVersion := 65
  constantPool := pool
  accessFlags := fl
  thisClass := this
  superClass := sup
  interfaces := ifs
  fields := fds
  methods := ms
  attributes := attrs
def plain (name : String) (sup : Option ClassId) : Class where
  name := name
  kind := .ordinary
  loader := none
  accessFlags := 33
  super := sup
  interfaces := #[]
  cf := none
  fields := #[]
  methods := #[]
  instanceTypes := #[]
  staticTypes := #[]
  resolved := #[]
  callSites := []
  init := .initialized
  statics := none
  mirror := none

def pool0 : Array CpInfo := pool [(5, u "<init>"), (0, u "()V"), (1, .class_ 10), (1, u "java/lang/Object")] 113

def k0c0 : Code := { maxStack := 0, maxLocals := 1, code := object_method_1_code, exceptionTable := #[], attributes := #[] }
def k0m0 : Method := { name := "<init>", desc := "()V", sig := { parameters := [], returnType := none }, accessFlags := 1, code := some k0c0 }
/-- java/lang/Object -/
def k0 : Class := { plain "java/lang/Object" none with
  accessFlags := 33
  interfaces := #[]
  cf := some (fileOf pool0 8 #[] #[{ accessFlags := 1, nameIndex := 5, descriptorIndex := 6, attributes := #[] }] 33 0 #[] #[])
  fields := #[]
  methods := #[k0m0]
  instanceTypes := #[]
  staticTypes := #[]
  resolved := Array.replicate 124 none
  statics := none }

def pool1 : Array CpInfo := pool [(2, .class_ 4), (1, u "java/lang/Object"), (0, u "<init>"), (0, u "()V"), (2, .long 9223372036854775808), (1, .class_ 12), (0, u "com/example/ragged_cursor/raggedcursor/ids/Id"), (0, .methodref 11 14), (0, .nameAndType 5 15), (0, u "(J)V"), (0, .methodref 11 17), (0, .nameAndType 18 19), (0, u "compareTo"), (0, u "(Lcom/example/ragged_cursor/raggedcursor/ids/Id;)I"), (0, .methodref 21 22), (0, .class_ 23), (0, .nameAndType 24 25), (0, u "com/example/ragged_cursor/raggedcursor/ids/IdCompareToPinLaw"), (0, u "sign"), (0, u "(I)I"), (0, .methodref 21 27), (0, .nameAndType 28 29), (0, u "unsignedReference"), (0, u "(JJ)I"), (3, u "law"), (0, u "(JJI)Z")] 2

def k1m0 : Method := { name := "<init>", desc := "()V", sig := { parameters := [], returnType := none }, accessFlags := 1, code := none }
def k1c1 : Code := { maxStack := 1, maxLocals := 1, code := method_2_code, exceptionTable := #[], attributes := #[] }
def k1m1 : Method := { name := "sign", desc := "(I)I", sig := { parameters := [.int], returnType := some .int }, accessFlags := 10, code := some k1c1 }
def k1c2 : Code := { maxStack := 4, maxLocals := 6, code := method_3_code, exceptionTable := #[], attributes := #[] }
def k1m2 : Method := { name := "unsignedReference", desc := "(JJ)I", sig := { parameters := [.long, .long], returnType := some .int }, accessFlags := 10, code := some k1c2 }
def k1c3 : Code := { maxStack := 5, maxLocals := 11, code := code, exceptionTable := #[], attributes := #[] }
def k1m3 : Method := { name := "law", desc := "(JJI)Z", sig := { parameters := [.long, .long, .int], returnType := some .boolean }, accessFlags := 9, code := some k1c3 }
/-- com/example/ragged_cursor/raggedcursor/ids/IdCompareToPinLaw -/
def k1 : Class := { plain "com/example/ragged_cursor/raggedcursor/ids/IdCompareToPinLaw" (some 0) with
  accessFlags := 49
  interfaces := #[]
  cf := some (fileOf pool1 21 #[] #[{ accessFlags := 1, nameIndex := 5, descriptorIndex := 6, attributes := #[] }, { accessFlags := 10, nameIndex := 24, descriptorIndex := 25, attributes := #[] }, { accessFlags := 10, nameIndex := 28, descriptorIndex := 29, attributes := #[] }, { accessFlags := 9, nameIndex := 33, descriptorIndex := 34, attributes := #[] }] 49 2 #[] #[])
  fields := #[]
  methods := #[k1m0, k1m1, k1m2, k1m3]
  instanceTypes := #[]
  staticTypes := #[]
  resolved := Array.replicate 37 none
  statics := none }

def pool2 : Array CpInfo := pool [(1, .methodref 2 3), (0, .class_ 4), (0, .nameAndType 5 6), (0, u "java/lang/Object"), (0, u "<init>"), (0, u "()V"), (0, .class_ 8), (0, u "java/lang/Record")] 13

def k2c0 : Code := { maxStack := 1, maxLocals := 1, code := jdk_30_method_1_code, exceptionTable := #[], attributes := #[] }
def k2m0 : Method := { name := "<init>", desc := "()V", sig := { parameters := [], returnType := none }, accessFlags := 4, code := some k2c0 }
/-- java/lang/Record -/
def k2 : Class := { plain "java/lang/Record" (some 0) with
  accessFlags := 1057
  interfaces := #[]
  cf := some (fileOf pool2 7 #[] #[{ accessFlags := 4, nameIndex := 5, descriptorIndex := 6, attributes := #[] }] 1057 2 #[] #[])
  fields := #[]
  methods := #[k2m0]
  instanceTypes := #[]
  staticTypes := #[]
  resolved := Array.replicate 22 none
  statics := none }

def pool3 : Array CpInfo := pool [(1, .class_ 2), (0, u "java/lang/Comparable"), (0, .class_ 4), (0, u "java/lang/Object")] 7

/-- java/lang/Comparable -/
def k3 : Class := { plain "java/lang/Comparable" (some 0) with
  accessFlags := 1537
  interfaces := #[]
  cf := some (fileOf pool3 1 #[] #[] 1537 3 #[] #[])
  fields := #[]
  methods := #[]
  instanceTypes := #[]
  staticTypes := #[]
  resolved := Array.replicate 12 none
  statics := none }

def pool4 : Array CpInfo := pool [(1, .methodref 2 3), (0, .class_ 4), (0, .nameAndType 5 6), (0, u "java/lang/Record"), (0, u "<init>"), (0, u "()V"), (0, .fieldref 8 9), (0, .class_ 10), (0, .nameAndType 11 12), (0, u "com/example/ragged_cursor/raggedcursor/ids/Id"), (0, u "bits"), (0, u "J"), (31, .class_ 46), (1, u "java/lang/Long"), (4, u "(J)V"), (1, .methodref 44 54), (0, .nameAndType 55 56), (0, u "compareUnsigned"), (0, u "(JJ)I"), (22, u "compareTo"), (0, u "(Lcom/example/ragged_cursor/raggedcursor/ids/Id;)I"), (7, .class_ 89), (0, u "java/lang/Comparable"), (0, u "QUOTED_TEXT_LIMIT"), (0, u "I")] 48

def k4c0 : Code := { maxStack := 3, maxLocals := 3, code := prog_14_method_1_code, exceptionTable := #[], attributes := #[] }
def k4m0 : Method := { name := "<init>", desc := "(J)V", sig := { parameters := [.long], returnType := none }, accessFlags := 1, code := some k4c0 }
def k4c1 : Code := { maxStack := 4, maxLocals := 2, code := prog_14_method_3_code, exceptionTable := #[], attributes := #[] }
def k4m1 : Method := { name := "compareTo", desc := "(Lcom/example/ragged_cursor/raggedcursor/ids/Id;)I", sig := { parameters := [(.object "com/example/ragged_cursor/raggedcursor/ids/Id")], returnType := some .int }, accessFlags := 1, code := some k4c1 }
/-- com/example/ragged_cursor/raggedcursor/ids/Id -/
def k4 : Class := { plain "com/example/ragged_cursor/raggedcursor/ids/Id" (some 2) with
  accessFlags := 49
  interfaces := #[3]
  cf := some (fileOf pool4 8 #[] #[{ accessFlags := 1, nameIndex := 5, descriptorIndex := 51, attributes := #[] }, { accessFlags := 1, nameIndex := 79, descriptorIndex := 80, attributes := #[] }] 49 2 #[88] #[{ accessFlags := 18, nameIndex := 11, descriptorIndex := 12, attributes := #[] }, { accessFlags := 26, nameIndex := 90, descriptorIndex := 91, attributes := #[] }])
  fields := #[{ name := "bits", type := .long, accessFlags := 18, slot := 0, constantValue := 0 }, { name := "QUOTED_TEXT_LIMIT", type := .int, accessFlags := 26, slot := 0, constantValue := 0 }]
  methods := #[k4m0, k4m1]
  instanceTypes := #[.long]
  staticTypes := #[.int]
  resolved := Array.replicate 140 none
  statics := none }

def pool5 : Array CpInfo := pool [(1, .class_ 2), (0, u "java/io/Serializable"), (0, .class_ 4), (0, u "java/lang/Object")] 2

/-- java/io/Serializable -/
def k5 : Class := { plain "java/io/Serializable" (some 0) with
  accessFlags := 1537
  interfaces := #[]
  cf := some (fileOf pool5 1 #[] #[] 1537 3 #[] #[])
  fields := #[]
  methods := #[]
  instanceTypes := #[]
  staticTypes := #[]
  resolved := Array.replicate 7 none
  statics := none }

def pool6 : Array CpInfo := pool [(2, .class_ 4), (1, u "java/lang/Object"), (0, u "<init>"), (0, u "()V"), (1, .class_ 10), (1, u "java/lang/Number"), (2, .class_ 14), (0, u "java/io/Serializable"), (0, u "serialVersionUID"), (0, u "J")] 20

def k6m0 : Method := { name := "<init>", desc := "()V", sig := { parameters := [], returnType := none }, accessFlags := 1, code := none }
/-- java/lang/Number -/
def k6 : Class := { plain "java/lang/Number" (some 0) with
  accessFlags := 1057
  interfaces := #[5]
  cf := some (fileOf pool6 8 #[] #[{ accessFlags := 1, nameIndex := 5, descriptorIndex := 6, attributes := #[] }] 1057 2 #[13] #[{ accessFlags := 26, nameIndex := 15, descriptorIndex := 16, attributes := #[] }])
  fields := #[{ name := "serialVersionUID", type := .long, accessFlags := 26, slot := 0, constantValue := 0 }]
  methods := #[k6m0]
  instanceTypes := #[]
  staticTypes := #[.long]
  resolved := Array.replicate 37 none
  statics := none }

def pool7 : Array CpInfo := pool [(1, .class_ 2), (0, u "java/lang/constant/Constable"), (0, .class_ 4), (0, u "java/lang/Object")] 6

/-- java/lang/constant/Constable -/
def k7 : Class := { plain "java/lang/constant/Constable" (some 0) with
  accessFlags := 1537
  interfaces := #[]
  cf := some (fileOf pool7 1 #[] #[] 1537 3 #[] #[])
  fields := #[]
  methods := #[]
  instanceTypes := #[]
  staticTypes := #[]
  resolved := Array.replicate 11 none
  statics := none }

def pool8 : Array CpInfo := pool [(1, .class_ 2), (0, u "java/lang/constant/ConstantDesc"), (0, .class_ 4), (0, u "java/lang/Object")] 32

/-- java/lang/constant/ConstantDesc -/
def k8 : Class := { plain "java/lang/constant/ConstantDesc" (some 0) with
  accessFlags := 1537
  interfaces := #[]
  cf := some (fileOf pool8 1 #[] #[] 1537 3 #[] #[])
  fields := #[]
  methods := #[]
  instanceTypes := #[]
  staticTypes := #[]
  resolved := Array.replicate 37 none
  statics := none }

def pool9 : Array CpInfo := pool [(1, .class_ 2), (0, u "java/lang/Long"), (165, .long 9223372036854775808), (66, .class_ 237), (1, u "java/lang/Long$LongCache"), (33, .class_ 272), (0, u "java/lang/Number"), (2, u "value"), (0, u "J"), (25, .methodref 1 303), (0, .nameAndType 304 305), (0, u "compare"), (0, u "(JJ)I"), (55, u "TYPE"), (0, u "Ljava/lang/Class;"), (0, .class_ 364), (0, u "java/lang/Comparable"), (0, .class_ 366), (0, u "java/lang/constant/Constable"), (0, .class_ 368), (0, u "java/lang/constant/ConstantDesc"), (0, u "MIN_VALUE"), (1, u "MAX_VALUE"), (4, u "SIZE"), (0, u "I"), (1, u "BYTES"), (1, u "serialVersionUID"), (87, u "compareUnsigned")] 54

def k9c0 : Code := { maxStack := 4, maxLocals := 4, code := jdk_35_method_42_code, exceptionTable := #[], attributes := #[] }
def k9m0 : Method := { name := "compare", desc := "(JJ)I", sig := { parameters := [.long, .long], returnType := some .int }, accessFlags := 9, code := some k9c0 }
def k9c1 : Code := { maxStack := 6, maxLocals := 4, code := jdk_35_method_43_code, exceptionTable := #[], attributes := #[] }
def k9m1 : Method := { name := "compareUnsigned", desc := "(JJ)I", sig := { parameters := [.long, .long], returnType := some .int }, accessFlags := 9, code := some k9c1 }
/-- java/lang/Long -/
def k9 : Class := { plain "java/lang/Long" (some 6) with
  accessFlags := 49
  interfaces := #[3, 7, 8]
  cf := some (fileOf pool9 1 #[.nestMembers #[235]] #[{ accessFlags := 9, nameIndex := 304, descriptorIndex := 305, attributes := #[] }, { accessFlags := 9, nameIndex := 469, descriptorIndex := 305, attributes := #[] }] 49 271 #[363, 365, 367] #[{ accessFlags := 25, nameIndex := 369, descriptorIndex := 276, attributes := #[] }, { accessFlags := 25, nameIndex := 371, descriptorIndex := 276, attributes := #[] }, { accessFlags := 25, nameIndex := 361, descriptorIndex := 362, attributes := #[] }, { accessFlags := 18, nameIndex := 275, descriptorIndex := 276, attributes := #[] }, { accessFlags := 25, nameIndex := 376, descriptorIndex := 377, attributes := #[] }, { accessFlags := 25, nameIndex := 379, descriptorIndex := 377, attributes := #[] }, { accessFlags := 26, nameIndex := 381, descriptorIndex := 276, attributes := #[] }])
  fields := #[{ name := "MIN_VALUE", type := .long, accessFlags := 25, slot := 0, constantValue := 0 }, { name := "MAX_VALUE", type := .long, accessFlags := 25, slot := 1, constantValue := 0 }, { name := "TYPE", type := (.object "java/lang/Class"), accessFlags := 25, slot := 2, constantValue := 0 }, { name := "value", type := .long, accessFlags := 18, slot := 0, constantValue := 0 }, { name := "SIZE", type := .int, accessFlags := 25, slot := 3, constantValue := 0 }, { name := "BYTES", type := .int, accessFlags := 25, slot := 4, constantValue := 0 }, { name := "serialVersionUID", type := .long, accessFlags := 26, slot := 5, constantValue := 0 }]
  methods := #[k9m0, k9m1]
  instanceTypes := #[.long]
  staticTypes := #[.long, .long, (.object "java/lang/Class"), .int, .int, .long]
  resolved := Array.replicate 524 none
  statics := none }

def pool10 : Array CpInfo := pool [(1, u "java/lang/Cloneable"), (0, .class_ 1), (0, u "java/lang/Object"), (0, .class_ 3)] 3

/-- java/lang/Cloneable -/
def k10 : Class := { plain "java/lang/Cloneable" (some 0) with
  accessFlags := 1537
  interfaces := #[]
  cf := some (fileOf pool10 2 #[] #[] 1537 4 #[] #[])
  fields := #[]
  methods := #[]
  instanceTypes := #[]
  staticTypes := #[]
  resolved := Array.replicate 8 none
  statics := none }

/-- the primitive byte -/
def k11 : Class := { plain "byte" none with kind := .primitive 'B', accessFlags := 0x411 }
/-- [B -/
def k12 : Class := { plain "[B" (some 0) with kind := .array 11 .byte, interfaces := #[10, 5], accessFlags := 1041 }

/-- the primitive int -/
def k13 : Class := { plain "int" none with kind := .primitive 'I', accessFlags := 0x411 }
/-- [I -/
def k14 : Class := { plain "[I" (some 0) with kind := .array 13 .int, interfaces := #[10, 5], accessFlags := 1041 }

def heap : Heap := #[]
def classes : Array Class := #[k0, k1, k2, k3, k4, k5, k6, k7, k8, k9, k10, k11, k12, k13, k14]
def interned : List (Array UInt16 × Addr) := []
def slotsUsed : Nat := 0
def theMethod : MethodId := ⟨1, 3⟩
def args0 : Array Value := #[.long 5, .long 7, .int 1]
def aboutOver (below : List Frame) : State where
  vm := { classes := classes, interned := interned.toArray }
  heap := heap
  slotsUsed := slotsUsed
  threads := #[{ frames := .invoking theMethod args0 :: below }]
def below0 : List Frame := [.native { method := ⟨0, 0⟩, args := #[] }]
def about1 : State := aboutOver below0
def p0 : Program := .bare "" "" ""
def e0 : Env := launch0.env 0 0 0
theorem w_frames : about1.frames = Frame.invoking theMethod args0 :: below0 := rfl
set_option maxRecDepth 65536 in
theorem w_args : argsFit about1.vm theMethod args0 = true := by decide +kernel
set_option maxRecDepth 65536 in
theorem w_heap : heapFits about1 = true := by decide +kernel
set_option maxRecDepth 65536 in
theorem w_runnable : about1.curStatus? = some .runnable := by decide +kernel
set_option maxRecDepth 65536 in
theorem w_alone : about1.alone = true := by decide +kernel
set_option maxRecDepth 65536 in
theorem w_named : about1.methodNamed? x = some theMethod := by decide +kernel
set_option maxRecDepth 65536 in
theorem w_hears : about1.hears theMethod below0 = true := by decide +kernel
set_option maxRecDepth 65536 in
theorem w_ripe : about1.ripe theMethod args0 below0 = true := by decide +kernel
theorem w_running : about1.status = .running := rfl
set_option maxRecDepth 65536 in
theorem w_room : about1.hasRoom e0.platform room_1 = true :=
  launch0.hasRoom_least _ room_1 (by decide +kernel) (by decide +kernel) (by decide +kernel) (by decide +kernel) (by decide +kernel) (by decide +kernel)
theorem allAtoms_all (ts : List Jvm.Cond) (a : Array Jvm.Value) (st : Jvm.State) : (allAtoms ts).before a st = ts.all (fun c => c.before a st) := by
  induction ts with
  | nil => rfl
  | cons c t ih =>
    show (Jvm.Cond.and c (allAtoms t)).before a st = _
    rw [Jvm.Cond.before_and, ih, List.all_cons]
def words1 : List Jvm.Cond := Jvm.Cond.code x code maxLocals ret :: tables_1
/-- a 'code' word, met by the world's own term for the bytes: nothing is compared byte by byte -/
theorem code_word {y : MethodName} {bytes : ByteArray} {mx : Nat} {rt : Option FieldType} {a : Array Value} {s : State} {m : MethodId} {meth : Method} {c : Code} (h1 : s.methodNamed? y = some m) (h2 : s.vm.method? m = some meth) (h3 : meth.code = some c) (h4 : c.code = bytes)
    (h5 : (c.maxLocals == mx && c.exceptionTable.isEmpty && decide (c.maxStack ≤ mostOperands) && decide (meth.sig.returnType = rt) && !meth.locks && decide (parseMethodDescriptor y.desc = some meth.sig)) = true) : (Jvm.Cond.code y bytes mx rt).before a s = true := by
  simp only [Bool.and_eq_true, beq_iff_eq, Bool.not_eq_true', decide_eq_true_eq] at h5
  obtain ⟨⟨⟨⟨⟨g1, g2⟩, g3⟩, g4⟩, g5⟩, g6⟩ := h5
  simp [Cond.before, Cond.holds, Cond.value, h1, h2, h3, h4, g1, g2, g3, g4, g5, g6]
def isCode : Jvm.Cond → Bool
  | .code _ _ _ _ => true
  | _ => false
theorem all_split {L : List Jvm.Cond} {P : Jvm.Cond → Bool} (h1 : L.all (fun c => isCode c || P c) = true) (h2 : ∀ c ∈ L.filter isCode, P c = true) : L.all P = true := by
  refine List.all_eq_true.mpr fun c hc => ?_
  have h := List.all_eq_true.mp h1 c hc
  rcases Bool.eq_false_or_eq_true (isCode c) with hi | hi
  · exact h2 c (List.mem_filter.mpr ⟨hc, hi⟩)
  · simpa [hi] using h
set_option maxRecDepth 65536 in
theorem w_c0 : (Jvm.Cond.code x code maxLocals ret).before args0 about1 = true := code_word (m := ⟨1, 3⟩) (meth := k1m3) (c := k1c3) (by decide +kernel) rfl rfl rfl (by decide +kernel)
set_option maxRecDepth 65536 in
theorem w_c1 : (Jvm.Cond.code ({ cls := "com/example/ragged_cursor/raggedcursor/ids/Id", name := "<init>", desc := "(J)V" } : Jvm.MethodName) prog_14_method_1_code (3 : Nat) (Option.none : Option Jvm.ClassFile.FieldType)).before args0 about1 = true := code_word (m := ⟨4, 0⟩) (meth := k4m0) (c := k4c0) (by decide +kernel) rfl rfl rfl (by decide +kernel)
set_option maxRecDepth 65536 in
theorem w_c2 : (Jvm.Cond.code ({ cls := "java/lang/Record", name := "<init>", desc := "()V" } : Jvm.MethodName) jdk_30_method_1_code (1 : Nat) (Option.none : Option Jvm.ClassFile.FieldType)).before args0 about1 = true := code_word (m := ⟨2, 0⟩) (meth := k2m0) (c := k2c0) (by decide +kernel) rfl rfl rfl (by decide +kernel)
set_option maxRecDepth 65536 in
theorem w_c3 : (Jvm.Cond.code ({ cls := "java/lang/Object", name := "<init>", desc := "()V" } : Jvm.MethodName) object_method_1_code (1 : Nat) (Option.none : Option Jvm.ClassFile.FieldType)).before args0 about1 = true := code_word (m := ⟨0, 0⟩) (meth := k0m0) (c := k0c0) (by decide +kernel) rfl rfl rfl (by decide +kernel)
set_option maxRecDepth 65536 in
theorem w_c4 : (Jvm.Cond.code ({ cls := "com/example/ragged_cursor/raggedcursor/ids/Id", name := "compareTo", desc := "(Lcom/example/ragged_cursor/raggedcursor/ids/Id;)I" } : Jvm.MethodName) prog_14_method_3_code (2 : Nat) (Option.some Jvm.ClassFile.FieldType.int)).before args0 about1 = true := code_word (m := ⟨4, 1⟩) (meth := k4m1) (c := k4c1) (by decide +kernel) rfl rfl rfl (by decide +kernel)
set_option maxRecDepth 65536 in
theorem w_c5 : (Jvm.Cond.code ({ cls := "java/lang/Long", name := "compareUnsigned", desc := "(JJ)I" } : Jvm.MethodName) jdk_35_method_43_code (4 : Nat) (Option.some Jvm.ClassFile.FieldType.int)).before args0 about1 = true := code_word (m := ⟨9, 1⟩) (meth := k9m1) (c := k9c1) (by decide +kernel) rfl rfl rfl (by decide +kernel)
set_option maxRecDepth 65536 in
theorem w_c6 : (Jvm.Cond.code ({ cls := "java/lang/Long", name := "compare", desc := "(JJ)I" } : Jvm.MethodName) jdk_35_method_42_code (4 : Nat) (Option.some Jvm.ClassFile.FieldType.int)).before args0 about1 = true := code_word (m := ⟨9, 0⟩) (meth := k9m0) (c := k9c0) (by decide +kernel) rfl rfl rfl (by decide +kernel)
set_option maxRecDepth 65536 in
theorem w_c7 : (Jvm.Cond.code ({ cls := "com/example/ragged_cursor/raggedcursor/ids/IdCompareToPinLaw", name := "sign", desc := "(I)I" } : Jvm.MethodName) method_2_code (1 : Nat) (Option.some Jvm.ClassFile.FieldType.int)).before args0 about1 = true := code_word (m := ⟨1, 1⟩) (meth := k1m1) (c := k1c1) (by decide +kernel) rfl rfl rfl (by decide +kernel)
set_option maxRecDepth 65536 in
theorem w_c8 : (Jvm.Cond.code ({ cls := "com/example/ragged_cursor/raggedcursor/ids/IdCompareToPinLaw", name := "unsignedReference", desc := "(JJ)I" } : Jvm.MethodName) method_3_code (6 : Nat) (Option.some Jvm.ClassFile.FieldType.int)).before args0 about1 = true := code_word (m := ⟨1, 2⟩) (meth := k1m2) (c := k1c2) (by decide +kernel) rfl rfl rfl (by decide +kernel)
def codes1 : List Jvm.Cond := [Jvm.Cond.code x code maxLocals ret, Jvm.Cond.code ({ cls := "com/example/ragged_cursor/raggedcursor/ids/Id", name := "<init>", desc := "(J)V" } : Jvm.MethodName) prog_14_method_1_code (3 : Nat) (Option.none : Option Jvm.ClassFile.FieldType), Jvm.Cond.code ({ cls := "java/lang/Record", name := "<init>", desc := "()V" } : Jvm.MethodName) jdk_30_method_1_code (1 : Nat) (Option.none : Option Jvm.ClassFile.FieldType), Jvm.Cond.code ({ cls := "java/lang/Object", name := "<init>", desc := "()V" } : Jvm.MethodName) object_method_1_code (1 : Nat) (Option.none : Option Jvm.ClassFile.FieldType), Jvm.Cond.code ({ cls := "com/example/ragged_cursor/raggedcursor/ids/Id", name := "compareTo", desc := "(Lcom/example/ragged_cursor/raggedcursor/ids/Id;)I" } : Jvm.MethodName) prog_14_method_3_code (2 : Nat) (Option.some Jvm.ClassFile.FieldType.int), Jvm.Cond.code ({ cls := "java/lang/Long", name := "compareUnsigned", desc := "(JJ)I" } : Jvm.MethodName) jdk_35_method_43_code (4 : Nat) (Option.some Jvm.ClassFile.FieldType.int), Jvm.Cond.code ({ cls := "java/lang/Long", name := "compare", desc := "(JJ)I" } : Jvm.MethodName) jdk_35_method_42_code (4 : Nat) (Option.some Jvm.ClassFile.FieldType.int), Jvm.Cond.code ({ cls := "com/example/ragged_cursor/raggedcursor/ids/IdCompareToPinLaw", name := "sign", desc := "(I)I" } : Jvm.MethodName) method_2_code (1 : Nat) (Option.some Jvm.ClassFile.FieldType.int), Jvm.Cond.code ({ cls := "com/example/ragged_cursor/raggedcursor/ids/IdCompareToPinLaw", name := "unsignedReference", desc := "(JJ)I" } : Jvm.MethodName) method_3_code (6 : Nat) (Option.some Jvm.ClassFile.FieldType.int)]
set_option maxRecDepth 65536 in
theorem codes_eq : words1.filter isCode = codes1 := rfl
theorem w_codes : ∀ c ∈ words1.filter isCode, c.before args0 about1 = true := by
  rw [codes_eq]
  intro c hc
  simp only [codes1, List.mem_cons, List.not_mem_nil, or_false] at hc
  rcases hc with rfl | rfl | rfl | rfl | rfl | rfl | rfl | rfl | rfl
  · exact w_c0
  · exact w_c1
  · exact w_c2
  · exact w_c3
  · exact w_c4
  · exact w_c5
  · exact w_c6
  · exact w_c7
  · exact w_c8
set_option maxRecDepth 65536 in
theorem w_t1 : (words1.take 24).all (fun c => isCode c || c.before args0 about1) = true := by decide +kernel
set_option maxRecDepth 65536 in
theorem w_t2 : (words1.drop 24).all (fun c => isCode c || c.before args0 about1) = true := by decide +kernel
theorem w_tables : (allAtoms (Jvm.Cond.code x code maxLocals ret :: tables_1)).before args0 about1 = true := by
  rw [allAtoms_all]
  show words1.all (fun c => c.before args0 about1) = true
  refine all_split ?_ w_codes
  rw [← List.take_append_drop 24 words1, List.all_append, w_t1, w_t2]
  rfl
set_option maxRecDepth 65536 in
theorem w_case : (Jvm.Cond.and given_1 narrow_1).before args0 about1 = true := by decide +kernel
theorem w_applies : (headSpec (Jvm.Cond.code x code maxLocals ret :: tables_1) room_1).applies x e0.platform about1 = true :=
  (Spec.applies_iff w_frames).mpr ⟨w_running, w_runnable, w_alone, w_named, w_hears, w_ripe, w_room, w_tables⟩
theorem atStart : AtStart classFile x code maxLocals ret World_1 tables_1 room_1 Calls_1 rest_1 Pre_1 launch0 p0 e0 about1 theMethod args0 below0 :=
  ⟨lists_1, trivial, launch0.admits_env _ _ _, launch0.least_env, fairChoices_fair.cas, fairChoices_fair.clock, w_frames, w_args, w_heap, w_applies, trivial, trivial, w_case⟩
end start1
theorem witness_1 : WitnessClaimed_1 := ⟨start1.p0, start1.e0, start1.about1, start1.theMethod, start1.args0, start1.below0, start1.atStart⟩
end Jvm.Pilot.@@N@@
