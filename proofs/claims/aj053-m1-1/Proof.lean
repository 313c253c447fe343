import JvmDerived
import JvmDerived.Pilot.@@N@@Statement
import JvmDerived.Pilot.@@N@@Code
set_option linter.unusedVariables false
set_option linter.unusedSimpArgs false
namespace Jvm.RoadKit
open Sem ClassFile Op Lib Jvm.Stand Jvm.Free Jvm.LawKit
section New
variable {p : Program} {l : Launch} {e : Env} {R : Room} {s : State} {m : MethodId} {args : Array Value} {below : List Frame} {meth : Method} {c : Code} {T : State} {locs : List Loc} {cells slots : Nat}
theorem retI (X : Stand p l e R s m args below meth c T locs cells slots) (hx : p.tables.exec = Jvm.exec) {pc : Nat} {Ls : Array Slot} {z : Int32} {rest : List Value} (hret : meth.sig.returnType = some .int) (hd : decode c.code pc = .ok (.ireturn, 1)) {fs : List Frame}
    (hl : ∀ (f : JFrame) (acts : List Action), f.method = m → f.locked = none → f.entered = [] → (doReturn e (T.setTop f) acts (some (.int z))).1 = T.setFrames fs) : Steps p.tables e below (T.setTop (mkF m pc Ls (.int z :: rest))) (T.setFrames fs) :=
  retOut X hx hret rfl (Or.inl ⟨rfl, Or.inl rfl, _, rfl⟩) hd hl
end New
end Jvm.RoadKit
namespace Jvm.Pilot.@@N@@
open Jvm Jvm.ClassFile Sem Op Lib Jvm.Free Jvm.Stand Jvm.LawKit Jvm.RoadKit Bundle Jvm.Pilot.@@N@@.Jvm.D
/-! own_Goes: from A the run comes to a state of which P holds -/
def own_Goes (p : Program) (e : Env) (below : List Frame) (P : State → Prop) (A : State) : Prop := ∃ B, Steps p.tables e below A B ∧ P B
def own_Fin (s : State) (below : List Frame) (QQ : Option Value → Heap → List Loc → Prop) (C N : Nat) (B : State) : Prop := ∃ v L, B.status = .running ∧ Ended B below (.returned v) ∧ QQ v B.heap L ∧ FrameEnd s (.returned v) B L C N
theorem own_via {p : Program} {e : Env} {below : List Frame} {P : State → Prop} {A : State} (B : State) (h : ∀ t, Steps p.tables e below B t → Steps p.tables e below A t) (k : own_Goes p e below P B) : own_Goes p e below P A := by
  obtain ⟨t, h1, h2⟩ := k
  exact ⟨t, h t h1, h2⟩
theorem own_body {p : Program} {e : Env} {below : List Frame} {s s₁ : State} {QQ : Option Value → Heap → List Loc → Prop} {C N ml : Nat} {m : MethodId} {args : Array Value} {F : JFrame} (hF : entryFrame m args ml = F) (k : own_Goes p e below (own_Fin s below QQ C N) (s₁.setTop F)) :
    ∃ s₂ o, Steps p.tables e below (s₁.setTop (entryFrame m args ml)) s₂ ∧ s₂.status = .running ∧ Ended s₂ below o ∧ (∃ v L, o = .returned v ∧ QQ v s₂.heap L ∧ FrameEnd s o s₂ L C N) := by
  obtain ⟨B, h1, v, L, h2, h3, h4, h5⟩ := k
  exact ⟨B, .returned v, hF ▸ h1, h2, h3, v, L, rfl, h4, h5⟩
theorem own_leave {p : Program} {l : Launch} {e : Env} {R : Room} {s : State} {m : MethodId} {args : Array Value} {below : List Frame} {meth : Method} {c : Code} {T : State} {locs : List Loc} {cells slots : Nat} {QQ : Option Value → Heap → List Loc → Prop} {C N : Nat}
    (X : Stand p l e R s m args below meth c T locs cells slots) (hlocks : meth.locks = false) {v : Option Value} (hv : meth.sig.returnType = none → v = none) {F : JFrame}
    (hstep : ∀ fs, (∀ (f : JFrame) (acts : List Action), f.method = m → f.locked = none → f.entered = [] → (doReturn e (T.setTop f) acts v).1 = T.setFrames fs) → Steps p.tables e below (T.setTop F) (T.setFrames fs))
    (hq : QQ v T.heap locs) (hc : cells ≤ C) (hn : slots ≤ N) : own_Goes p e below (own_Fin s below QQ C N) (T.setTop F) := by
  obtain ⟨fs, hr, hrun, hended, hW, hsame⟩ := X.leave hv hlocks
  exact ⟨_, hstep fs hr, v, locs, hrun, hended, hq, ⟨_, rfl⟩, hW, hsame.mono hc hn⟩
/-- what a body that writes nothing leaves -/
def own_Q (r : Option Value) (h0 : Heap) (n0 : Nat) (v : Option Value) (h : Heap) (L : List Loc) : Prop := v = r ∧ Fr n0 L ∧ h = h0
theorem d2_0 : decode jdk_30_method_1_code 0 = .ok (.aload_n 0, 1) := by decide +kernel
theorem d2_1 : decode jdk_30_method_1_code 1 = .ok (.invokespecial 1, 3) := by decide +kernel
theorem d2_4 : decode jdk_30_method_1_code 4 = .ok (.return_, 1) := by decide +kernel
theorem pn_java_lang_Record : plainName "java/lang/Record" = true := by first | (simp [plainName, overriddenIn]; done) | decide +kernel
theorem ef_2 (m : MethodId) (p0 : Addr) : entryFrame m #[(.ref p0)] 1 = mkF m 0 #[.val (.ref p0)] [] := by first | (simp [entryFrame, mkF, argsToLocals, Value.category]; done) | rfl
set_option maxRecDepth 65536 in
set_option maxHeartbeats 40000000 in
theorem rm2 (l : Launch) (Z : State) (a0 : Array Value) (hw : ∀ d ∈ tables_1, d.before a0 Z = true) (ws : List Jvm.Cond) (p0 : Addr) (h0 : Heap) (n0 : Nat) (Z0 : n0 ≤ h0.size)  :
    MetFree l (⟨"java/lang/Record", "<init>", "()V"⟩ : MethodName) (head1 (Jvm.Cond.code (⟨"java/lang/Record", "<init>", "()V"⟩ : MethodName) jdk_30_method_1_code 1 none :: ws) ({ frames := 1, cells := 0, slots := 0, locals := 12 } : Room)) (fun a U => a = #[(.ref p0)] ∧ Z.Warmed39 U.vm ∧ U.heap = h0) (fun _ _ _ _ _ => True) (fun _ U o U' => ∃ v L, o = .returned v ∧ (own_Q none h0 n0) v U'.heap L ∧ FrameEnd U o U' L ({ frames := 1, cells := 0, slots := 0, locals := 12 } : Room).cells ({ frames := 1, cells := 0, slots := 0, locals := 12 } : Room).slots) := by
  refine MetFree.of_bodySF (plainFor_of_name pn_java_lang_Record) hisR ?_
  intro p e s m args below meth c s₁ Bd hml0 hP hK
  obtain ⟨rfl, hZ, hh⟩ := hP
  have hx := Bd.exec
  have hby := Bd.bytes
  have hml : c.maxLocals = 1 := hml0
  have hown : s.vm.findClass "java/lang/Record" = some m.cls := findClass_of_methodNamed Bd.named
  have hnm := (name_of_methodNamed Bd.named Bd.method).1
  have X0 : Stand p l e ({ frames := 1, cells := 0, slots := 0, locals := 12 } : Room) s m #[(.ref p0)] below meth c s₁ [] 0 0 := Stand.of_body Bd
  have e0 : s₁.heap = h0 := by rw [← hh, Bd.state]; rfl
  have N0 := Fr.nil n0
  refine own_body (QQ := (own_Q none h0 n0)) (ef_2 m p0) ?_
  refine own_via (s₁.setTop (mkF m 1 #[.val (.ref p0)] [(.ref p0)])) (fun t k => XS.aloadN X0.here hx rfl (hb hby d2_0) rfl rfl k) ?_
  obtain ⟨T1, X1, e1, st1⟩ := initO X0 hx hZ hown (hw _ (List.mem_of_getElem? (i := 12) rfl)) (hw _ (List.mem_of_getElem? (i := 13) rfl)) (hw _ (List.mem_of_getElem? (i := 14) rfl)) e0 (g := (mkF m 1 #[.val (.ref p0)] [(.ref p0)])) rfl (by rw [hml]; rfl) rfl (hb hby d2_1) (by decide) (W := 0) (by show 2 * 0 + _ ≤ _; exact Nat.le_of_eq rfl) (by decide)
  refine own_via (T1.setTop (mkF m 4 #[.val (.ref p0)] [])) (fun t k => st1 t k) ?_
  refine own_leave X1 Bd.notSynchronized (v := none) (fun _ => rfl) (fun fs hr => X1.returnOut hx Bd.returns (hb hby d2_4) hr) ?_ (by decide) (by decide)
  refine ⟨?_, N0, e1⟩
  rfl
def own_Q1 (Z : State) (p0 : Addr) (p1 : Int32) (p2 : Int32)  (h0 : Heap) (n0 : Nat) (v : Option Value) (h : Heap) (L : List Loc) : Prop := v = none ∧ Fr n0 L ∧ Keep h0 h [p0] ∧ Exa Z h p0 "com/example/ragged_cursor/raggedcursor/ids/Layout$FieldPosition" ∧ Fld Z h p0 "com/example/ragged_cursor/raggedcursor/ids/Layout$FieldPosition" "shift" "I" (.int p1) ∧ Fld Z h p0 "com/example/ragged_cursor/raggedcursor/ids/Layout$FieldPosition" "width" "I" (.int p2)
theorem d1_0 : decode prog_20_method_1_code 0 = .ok (.aload_n 0, 1) := by decide +kernel
theorem d1_1 : decode prog_20_method_1_code 1 = .ok (.invokespecial 1, 3) := by decide +kernel
theorem d1_4 : decode prog_20_method_1_code 4 = .ok (.aload_n 0, 1) := by decide +kernel
theorem d1_5 : decode prog_20_method_1_code 5 = .ok (.iload_n 1, 1) := by decide +kernel
theorem d1_6 : decode prog_20_method_1_code 6 = .ok (.putfield 7, 3) := by decide +kernel
theorem d1_9 : decode prog_20_method_1_code 9 = .ok (.aload_n 0, 1) := by decide +kernel
theorem d1_10 : decode prog_20_method_1_code 10 = .ok (.iload_n 2, 1) := by decide +kernel
theorem d1_11 : decode prog_20_method_1_code 11 = .ok (.putfield 13, 3) := by decide +kernel
theorem d1_14 : decode prog_20_method_1_code 14 = .ok (.return_, 1) := by decide +kernel
theorem pd_0 : parseMethodDescriptor "()V" = some ⟨[], none⟩ := by decide +kernel
theorem pn_com_example_ragged_cursor_raggedcursor_ids_Layout_FieldPosition : plainName "com/example/ragged_cursor/raggedcursor/ids/Layout$FieldPosition" = true := by first | (simp [plainName, overriddenIn]; done) | decide +kernel
theorem ef_1 (m : MethodId) (p0 : Addr) (p1 : Int32) (p2 : Int32) : entryFrame m #[(.ref p0), (.int p1), (.int p2)] 3 = mkF m 0 #[.val (.ref p0), .val (.int p1), .val (.int p2)] [] := by first | (simp [entryFrame, mkF, argsToLocals, Value.category]; done) | rfl
set_option maxRecDepth 65536 in
set_option maxHeartbeats 40000000 in
theorem rm1 (l : Launch) (Z : State) (a0 : Array Value) (hw : ∀ d ∈ tables_1, d.before a0 Z = true) (ws : List Jvm.Cond) (p0 : Addr) (p1 : Int32) (p2 : Int32) (h0 : Heap) (n0 : Nat) (Z0 : n0 ≤ h0.size) (P0 : Fld Z h0 p0 "com/example/ragged_cursor/raggedcursor/ids/Layout$FieldPosition" "shift" "I" (.int (0 : Int32))) (P1 : Fld Z h0 p0 "com/example/ragged_cursor/raggedcursor/ids/Layout$FieldPosition" "width" "I" (.int (0 : Int32))) (P2 : Exa Z h0 p0 "com/example/ragged_cursor/raggedcursor/ids/Layout$FieldPosition") (gg_p0 : n0 ≤ p0) :
    MetFree l (⟨"com/example/ragged_cursor/raggedcursor/ids/Layout$FieldPosition", "<init>", "(II)V"⟩ : MethodName) (head1 (Jvm.Cond.code (⟨"com/example/ragged_cursor/raggedcursor/ids/Layout$FieldPosition", "<init>", "(II)V"⟩ : MethodName) prog_20_method_1_code 3 none :: ws) ({ frames := 2, cells := 0, slots := 0, locals := 24 } : Room)) (fun a U => a = #[(.ref p0), (.int p1), (.int p2)] ∧ Z.Warmed39 U.vm ∧ U.heap = h0) (fun _ _ _ _ _ => True) (fun _ U o U' => ∃ v L, o = .returned v ∧ (own_Q1 Z p0 p1 p2  h0 n0) v U'.heap L ∧ FrameEnd U o U' L ({ frames := 2, cells := 0, slots := 0, locals := 24 } : Room).cells ({ frames := 2, cells := 0, slots := 0, locals := 24 } : Room).slots) := by
  refine MetFree.of_bodySF (plainFor_of_name pn_com_example_ragged_cursor_raggedcursor_ids_Layout_FieldPosition) hisR ?_
  intro p e s m args below meth c s₁ Bd hml0 hP hK
  obtain ⟨rfl, hZ, hh⟩ := hP
  have hx := Bd.exec
  have hby := Bd.bytes
  have hml : c.maxLocals = 3 := hml0
  have hown : s.vm.findClass "com/example/ragged_cursor/raggedcursor/ids/Layout$FieldPosition" = some m.cls := findClass_of_methodNamed Bd.named
  have hnm := (name_of_methodNamed Bd.named Bd.method).1
  have X0 : Stand p l e ({ frames := 2, cells := 0, slots := 0, locals := 24 } : Room) s m #[(.ref p0), (.int p1), (.int p2)] below meth c s₁ [] 0 0 := Stand.of_body Bd
  have e0 : s₁.heap = h0 := by rw [← hh, Bd.state]; rfl
  have N0 := Fr.nil n0
  refine own_body (QQ := (own_Q1 Z p0 p1 p2  h0 n0)) (ef_1 m p0 p1 p2) ?_
  refine own_via (s₁.setTop (mkF m 1 #[.val (.ref p0), .val (.int p1), .val (.int p2)] [(.ref p0)])) (fun t k => XS.aloadN X0.here hx rfl (hb hby d1_0) rfl rfl k) ?_
  obtain ⟨_, _, ⟨T2, L2, k2, n2⟩, -, X2, ⟨Lc2, hQ2, l2, y2, z2⟩, st2⟩ := X0.specialBack hx (y := (⟨"java/lang/Record", "<init>", "()V"⟩ : MethodName)) rfl hown (mvT hZ (hw _ (List.mem_of_getElem? (i := 7) rfl))) (mvT hZ (hw _ (List.mem_of_getElem? (i := 8) rfl))) (mvT hZ (hw _ (List.mem_of_getElem? (i := 11) rfl))) (by decide) (backOf (W := 0) (rm2 l Z a0 hw [] p0 h0 n0 (Nat.le_trans Z0 (Keep.refl h0 [p0]).1)) hZ (hw _ (List.mem_of_getElem? (i := 11) rfl)) (hw _ (List.mem_of_getElem? (i := 10) rfl)) (by decide) (by decide)) (g := (mkF m 1 #[.val (.ref p0), .val (.int p1), .val (.int p2)] [(.ref p0)])) rfl (by rw [hml]; rfl) (Steps.refl _) (a := p0) (argsL := []) (rest := []) (lenOf pd_0 rfl) rfl (by show 2 * 0 + _ ≤ _; exact Nat.le_of_eq rfl) (hb hby d1_1) (fun _ _ => ⟨rfl, e0, (by decide : 0 + 0 ≤ _), (by decide : 0 + 0 ≤ _)⟩)
  dsimp only [Pt.U, Pt.locs, Pt.cells, Pt.slots] at X2 l2 y2 z2 st2 hQ2
  subst l2 y2 z2
  obtain ⟨rfl, N2q, e2⟩ := hQ2
  have N2 := Fr.app N0 N2q
  refine own_via (T2.setTop (mkF m 4 #[.val (.ref p0), .val (.int p1), .val (.int p2)] [])) (fun t k => st2.trans k) ?_
  refine own_via (T2.setTop (mkF m 5 #[.val (.ref p0), .val (.int p1), .val (.int p2)] [(.ref p0)])) (fun t k => XS.aloadN X2.here hx rfl (hb hby d1_4) rfl rfl k) ?_
  refine own_via (T2.setTop (mkF m 6 #[.val (.ref p0), .val (.int p1), .val (.int p2)] [(.int p1), (.ref p0)])) (fun t k => XS.iloadN X2.here hx rfl (hb hby d1_5) rfl  k) ?_
  obtain ⟨T3, h3, X3, e3, W3, st3⟩ := putF X2 hx hZ hown (host := "") (Or.inl (hw _ (List.mem_of_getElem? (i := 15) rfl))) Via.refl e2 P0 P2 (Or.inr ⟨(hw _ (List.mem_of_getElem? (i := 16) rfl)), rfl, hnm⟩) (hw _ (List.mem_of_getElem? (i := 2) rfl)) (ty := .int) (by decide) rfl rfl (g := (mkF m 6 #[.val (.ref p0), .val (.int p1), .val (.int p2)] [(.int p1), (.ref p0)])) rfl rfl (hb hby d1_6)
  have Fw3 := P0.same W3
  have N3 := Fr.snoc X3 N2 gg_p0
  have K4 : Keep h0 h3 [p0] := (Keep.refl h0 [p0]).wr W3 (Or.inl (List.mem_of_getElem? (i := 0) rfl))
  refine own_via (T3.setTop (mkF m 9 #[.val (.ref p0), .val (.int p1), .val (.int p2)] [])) (fun t k => st3 t k) ?_
  refine own_via (T3.setTop (mkF m 10 #[.val (.ref p0), .val (.int p1), .val (.int p2)] [(.ref p0)])) (fun t k => XS.aloadN X3.here hx rfl (hb hby d1_9) rfl rfl k) ?_
  refine own_via (T3.setTop (mkF m 11 #[.val (.ref p0), .val (.int p1), .val (.int p2)] [(.int p2), (.ref p0)])) (fun t k => XS.iloadN X3.here hx rfl (hb hby d1_10) rfl  k) ?_
  have F6 := (P1.other W3 (Or.inr (slot_ne (Or.inr (hw _ (List.mem_of_getElem? (i := 18) rfl))) (Or.inr (hw _ (List.mem_of_getElem? (i := 16) rfl))) (by decide) (t := .int) (t' := .int) (by decide) (by decide))))
  have F7 := (P2.wr W3)
  obtain ⟨T5, h5, X5, e5, W5, st5⟩ := putF X3 hx hZ hown (host := "") (Or.inl (hw _ (List.mem_of_getElem? (i := 17) rfl))) Via.refl e3 F6 F7 (Or.inr ⟨(hw _ (List.mem_of_getElem? (i := 18) rfl)), rfl, hnm⟩) (hw _ (List.mem_of_getElem? (i := 2) rfl)) (ty := .int) (by decide) rfl rfl (g := (mkF m 11 #[.val (.ref p0), .val (.int p1), .val (.int p2)] [(.int p2), (.ref p0)])) rfl rfl (hb hby d1_11)
  have Fw5 := F6.same W5
  have N5 := Fr.snoc X5 N3 gg_p0
  have K8 : Keep h0 h5 [p0] := K4.wr W5 (Or.inl (List.mem_of_getElem? (i := 0) rfl))
  refine own_via (T5.setTop (mkF m 14 #[.val (.ref p0), .val (.int p1), .val (.int p2)] [])) (fun t k => st5 t k) ?_
  refine own_leave X5 Bd.notSynchronized (v := none) (fun _ => rfl) (fun fs hr => X5.returnOut hx Bd.returns (hb hby d1_14) hr) ?_ (by decide) (by decide)
  have F9 := (F7.wr W5)
  have F10 := (Fw3.other W5 (Or.inr (slot_ne (Or.inr (hw _ (List.mem_of_getElem? (i := 16) rfl))) (Or.inr (hw _ (List.mem_of_getElem? (i := 18) rfl))) (by decide) (t := .int) (t' := .int) (by decide) (by decide))))
  show (own_Q1 Z p0 p1 p2  h0 n0) _ T5.heap _
  rw [e5]
  exact ⟨rfl, N5, K8, F9, F10, Fw5⟩
def own_f5 (width : Int32) : Int64 := (((1 : Int64) <<< (width &&& 0x3f).toInt64) - (1 : Int64))
def own_Q5 (Z : State) (p0 : Addr) (width : Int32) (h0 : Heap) (n0 : Nat) (v : Option Value) (h : Heap) (L : List Loc) : Prop := v = some (.long (own_f5 width)) ∧ Fr n0 L ∧ h = h0
theorem d5_0 : decode prog_20_method_2_code 0 = .ok (.lconst 1, 1) := by decide +kernel
theorem d5_1 : decode prog_20_method_2_code 1 = .ok (.aload_n 0, 1) := by decide +kernel
theorem d5_2 : decode prog_20_method_2_code 2 = .ok (.getfield 13, 3) := by decide +kernel
theorem d5_5 : decode prog_20_method_2_code 5 = .ok (.lshl, 1) := by decide +kernel
theorem d5_6 : decode prog_20_method_2_code 6 = .ok (.lconst 1, 1) := by decide +kernel
theorem d5_7 : decode prog_20_method_2_code 7 = .ok (.lsub, 1) := by decide +kernel
theorem d5_8 : decode prog_20_method_2_code 8 = .ok (.lreturn, 1) := by decide +kernel
theorem ef_5 (m : MethodId) (p0 : Addr) : entryFrame m #[(.ref p0)] 1 = mkF m 0 #[.val (.ref p0)] [] := by first | (simp [entryFrame, mkF, argsToLocals, Value.category]; done) | rfl
set_option maxRecDepth 65536 in
set_option maxHeartbeats 40000000 in
theorem rm5 (l : Launch) (Z : State) (a0 : Array Value) (hw : ∀ d ∈ tables_1, d.before a0 Z = true) (ws : List Jvm.Cond) (p0 : Addr) (h0 : Heap) (n0 : Nat) (Z0 : n0 ≤ h0.size) (width : Int32) (P0 : Fld Z h0 p0 "com/example/ragged_cursor/raggedcursor/ids/Layout$FieldPosition" "width" "I" (.int width)) :
    MetFree l (⟨"com/example/ragged_cursor/raggedcursor/ids/Layout$FieldPosition", "maxValue", "()J"⟩ : MethodName) (head1 (Jvm.Cond.code (⟨"com/example/ragged_cursor/raggedcursor/ids/Layout$FieldPosition", "maxValue", "()J"⟩ : MethodName) prog_20_method_2_code 1 (some .long) :: ws) ({ frames := 0, cells := 0, slots := 0, locals := 0 } : Room)) (fun a U => a = #[(.ref p0)] ∧ Z.Warmed39 U.vm ∧ U.heap = h0) (fun _ _ _ _ _ => True) (fun _ U o U' => ∃ v L, o = .returned v ∧ (own_Q5 Z p0 width h0 n0) v U'.heap L ∧ FrameEnd U o U' L ({ frames := 0, cells := 0, slots := 0, locals := 0 } : Room).cells ({ frames := 0, cells := 0, slots := 0, locals := 0 } : Room).slots) := by
  refine MetFree.of_bodySF (plainFor_of_name pn_com_example_ragged_cursor_raggedcursor_ids_Layout_FieldPosition) hisR ?_
  intro p e s m args below meth c s₁ Bd hml0 hP hK
  obtain ⟨rfl, hZ, hh⟩ := hP
  have hx := Bd.exec
  have hby := Bd.bytes
  have hml : c.maxLocals = 1 := hml0
  have hown : s.vm.findClass "com/example/ragged_cursor/raggedcursor/ids/Layout$FieldPosition" = some m.cls := findClass_of_methodNamed Bd.named
  have hnm := (name_of_methodNamed Bd.named Bd.method).1
  have X0 : Stand p l e ({ frames := 0, cells := 0, slots := 0, locals := 0 } : Room) s m #[(.ref p0)] below meth c s₁ [] 0 0 := Stand.of_body Bd
  have e0 : s₁.heap = h0 := by rw [← hh, Bd.state]; rfl
  have N0 := Fr.nil n0
  refine own_body (QQ := (own_Q5 Z p0 width h0 n0)) (ef_5 m p0) ?_
  refine own_via (s₁.setTop (mkF m 1 #[.val (.ref p0)] [(.long (1 : Int64))])) (fun t k => XS.lconst X0.here hx rfl (hb hby d5_0) k) ?_
  refine own_via (s₁.setTop (mkF m 2 #[.val (.ref p0)] [(.ref p0), (.long (1 : Int64))])) (fun t k => XS.aloadN X0.here hx rfl (hb hby d5_1) rfl rfl k) ?_
  obtain ⟨T12, X12, e12, st12⟩ := getF X0 hx hZ hown (host := "") (Or.inl (hw _ (List.mem_of_getElem? (i := 17) rfl))) Via.refl e0 P0 (g := (mkF m 2 #[.val (.ref p0)] [(.ref p0), (.long (1 : Int64))])) rfl rfl (hb hby d5_2)
  refine own_via (T12.setTop (mkF m 5 #[.val (.ref p0)] [(.int width), (.long (1 : Int64))])) (fun t k => st12 t k) ?_
  refine own_via (T12.setTop (mkF m 6 #[.val (.ref p0)] [(.long ((1 : Int64) <<< (width &&& 0x3f).toInt64))])) (fun t k => XS.lshl X12.here hx rfl (hb hby d5_5) rfl k) ?_
  refine own_via (T12.setTop (mkF m 7 #[.val (.ref p0)] [(.long (1 : Int64)), (.long ((1 : Int64) <<< (width &&& 0x3f).toInt64))])) (fun t k => XS.lconst X12.here hx rfl (hb hby d5_6) k) ?_
  refine own_via (T12.setTop (mkF m 8 #[.val (.ref p0)] [(.long (((1 : Int64) <<< (width &&& 0x3f).toInt64) - (1 : Int64)))])) (fun t k => XS.lsub X12.here hx rfl (hb hby d5_7) rfl k) ?_
  refine own_leave X12 Bd.notSynchronized (v := some (.long (((1 : Int64) <<< (width &&& 0x3f).toInt64) - (1 : Int64)))) (fun h => by rw [Bd.returns] at h; cases h) (fun fs hr => retOut X12 hx Bd.returns rfl (Or.inr (Or.inl ⟨rfl, rfl, _, rfl⟩)) (hb hby d5_8) hr) ?_ (by decide) (by decide)
  exact ⟨(by show some (Value.long _) = some (Value.long _); unfold own_f5; rfl), N0, e12⟩
def own_f4 (p1 : Int64) (shift : Int32) (width : Int32) : Int64 := (((p1.toUInt64 >>> (shift &&& 0x3f).toInt64.toUInt64).toInt64) &&& (own_f5 width))
def own_Q4 (Z : State) (p0 : Addr) (p1 : Int64) (shift : Int32) (width : Int32) (h0 : Heap) (n0 : Nat) (v : Option Value) (h : Heap) (L : List Loc) : Prop := v = some (.long (own_f4 p1 shift width)) ∧ Fr n0 L ∧ h = h0
theorem d4_0 : decode prog_20_method_3_code 0 = .ok (.lload_n 1, 1) := by decide +kernel
theorem d4_1 : decode prog_20_method_3_code 1 = .ok (.aload_n 0, 1) := by decide +kernel
theorem d4_2 : decode prog_20_method_3_code 2 = .ok (.getfield 7, 3) := by decide +kernel
theorem d4_5 : decode prog_20_method_3_code 5 = .ok (.lushr, 1) := by decide +kernel
theorem d4_6 : decode prog_20_method_3_code 6 = .ok (.aload_n 0, 1) := by decide +kernel
theorem d4_7 : decode prog_20_method_3_code 7 = .ok (.invokevirtual 16, 3) := by decide +kernel
theorem d4_10 : decode prog_20_method_3_code 10 = .ok (.land, 1) := by decide +kernel
theorem d4_11 : decode prog_20_method_3_code 11 = .ok (.lreturn, 1) := by decide +kernel
theorem pd_1 : parseMethodDescriptor "()J" = some ⟨[], some .long⟩ := by decide +kernel
theorem ef_4 (m : MethodId) (p0 : Addr) (p1 : Int64) : entryFrame m #[(.ref p0), (.long p1)] 3 = mkF m 0 #[.val (.ref p0), .val (.long p1), .second] [] := by first | (simp [entryFrame, mkF, argsToLocals, Value.category]; done) | rfl
set_option maxRecDepth 65536 in
set_option maxHeartbeats 40000000 in
theorem rm4 (l : Launch) (Z : State) (a0 : Array Value) (hw : ∀ d ∈ tables_1, d.before a0 Z = true) (ws : List Jvm.Cond) (p0 : Addr) (p1 : Int64) (h0 : Heap) (n0 : Nat) (Z0 : n0 ≤ h0.size) (shift : Int32) (width : Int32) (P0 : Fld Z h0 p0 "com/example/ragged_cursor/raggedcursor/ids/Layout$FieldPosition" "shift" "I" (.int shift)) (P1 : Fld Z h0 p0 "com/example/ragged_cursor/raggedcursor/ids/Layout$FieldPosition" "width" "I" (.int width)) (P2 : Exa Z h0 p0 "com/example/ragged_cursor/raggedcursor/ids/Layout$FieldPosition") :
    MetFree l (⟨"com/example/ragged_cursor/raggedcursor/ids/Layout$FieldPosition", "read", "(J)J"⟩ : MethodName) (head1 (Jvm.Cond.code (⟨"com/example/ragged_cursor/raggedcursor/ids/Layout$FieldPosition", "read", "(J)J"⟩ : MethodName) prog_20_method_3_code 3 (some .long) :: ws) ({ frames := 1, cells := 0, slots := 0, locals := 14 } : Room)) (fun a U => a = #[(.ref p0), (.long p1)] ∧ Z.Warmed39 U.vm ∧ U.heap = h0) (fun _ _ _ _ _ => True) (fun _ U o U' => ∃ v L, o = .returned v ∧ (own_Q4 Z p0 p1 shift width h0 n0) v U'.heap L ∧ FrameEnd U o U' L ({ frames := 1, cells := 0, slots := 0, locals := 14 } : Room).cells ({ frames := 1, cells := 0, slots := 0, locals := 14 } : Room).slots) := by
  refine MetFree.of_bodySF (plainFor_of_name pn_com_example_ragged_cursor_raggedcursor_ids_Layout_FieldPosition) hisR ?_
  intro p e s m args below meth c s₁ Bd hml0 hP hK
  obtain ⟨rfl, hZ, hh⟩ := hP
  have hx := Bd.exec
  have hby := Bd.bytes
  have hml : c.maxLocals = 3 := hml0
  have hown : s.vm.findClass "com/example/ragged_cursor/raggedcursor/ids/Layout$FieldPosition" = some m.cls := findClass_of_methodNamed Bd.named
  have hnm := (name_of_methodNamed Bd.named Bd.method).1
  have X0 : Stand p l e ({ frames := 1, cells := 0, slots := 0, locals := 14 } : Room) s m #[(.ref p0), (.long p1)] below meth c s₁ [] 0 0 := Stand.of_body Bd
  have e0 : s₁.heap = h0 := by rw [← hh, Bd.state]; rfl
  have N0 := Fr.nil n0
  refine own_body (QQ := (own_Q4 Z p0 p1 shift width h0 n0)) (ef_4 m p0 p1) ?_
  refine own_via (s₁.setTop (mkF m 1 #[.val (.ref p0), .val (.long p1), .second] [(.long p1)])) (fun t k => XS.lloadN X0.here hx rfl (hb hby d4_0) rfl  k) ?_
  refine own_via (s₁.setTop (mkF m 2 #[.val (.ref p0), .val (.long p1), .second] [(.ref p0), (.long p1)])) (fun t k => XS.aloadN X0.here hx rfl (hb hby d4_1) rfl rfl k) ?_
  obtain ⟨T15, X15, e15, st15⟩ := getF X0 hx hZ hown (host := "") (Or.inl (hw _ (List.mem_of_getElem? (i := 15) rfl))) Via.refl e0 P0 (g := (mkF m 2 #[.val (.ref p0), .val (.long p1), .second] [(.ref p0), (.long p1)])) rfl rfl (hb hby d4_2)
  refine own_via (T15.setTop (mkF m 5 #[.val (.ref p0), .val (.long p1), .second] [(.int shift), (.long p1)])) (fun t k => st15 t k) ?_
  refine own_via (T15.setTop (mkF m 6 #[.val (.ref p0), .val (.long p1), .second] [(.long ((p1.toUInt64 >>> (shift &&& 0x3f).toInt64.toUInt64).toInt64))])) (fun t k => XS.lushr X15.here hx rfl (hb hby d4_5) rfl k) ?_
  refine own_via (T15.setTop (mkF m 7 #[.val (.ref p0), .val (.long p1), .second] [(.ref p0), (.long ((p1.toUInt64 >>> (shift &&& 0x3f).toInt64.toUInt64).toInt64))])) (fun t k => XS.aloadN X15.here hx rfl (hb hby d4_6) rfl rfl k) ?_
  obtain ⟨cq16, kq16, q16a, q16b, q16c⟩ := isOf hZ e15 P2
  obtain ⟨_, _, ⟨T16, L16, k16, n16⟩, -, X16, ⟨Lc16, hQ16, l16, y16, z16⟩, st16⟩ := X15.virtualBack hx (y := (⟨"com/example/ragged_cursor/raggedcursor/ids/Layout$FieldPosition", "maxValue", "()J"⟩ : MethodName)) (z := (⟨"com/example/ragged_cursor/raggedcursor/ids/Layout$FieldPosition", "maxValue", "()J"⟩ : MethodName)) hown (mvT hZ (hw _ (List.mem_of_getElem? (i := 24) rfl))) (mvT hZ (hw _ (List.mem_of_getElem? (i := 25) rfl))) (notFace_of_selects (args := #[]) (mvT hZ (hw _ (List.mem_of_getElem? (i := 27) rfl)))) (mvT hZ (hw _ (List.mem_of_getElem? (i := 27) rfl))) (mvT hZ (hw _ (List.mem_of_getElem? (i := 26) rfl))) (by decide) (backOf (W := 2) (rm5 l Z a0 hw [] p0 h0 n0 (Nat.le_trans Z0 (Keep.refl h0 []).1) width P1) hZ (hw _ (List.mem_of_getElem? (i := 28) rfl)) (hw _ (List.mem_of_getElem? (i := 3) rfl)) (by decide) (by decide)) q16a q16c (g := (mkF m 7 #[.val (.ref p0), .val (.long p1), .second] [(.ref p0), (.long ((p1.toUInt64 >>> (shift &&& 0x3f).toInt64.toUInt64).toInt64))])) rfl (by rw [hml]; rfl) (Steps.refl _) (argsL := []) (rest := [(.long ((p1.toUInt64 >>> (shift &&& 0x3f).toInt64.toUInt64).toInt64))]) (lenOf pd_1 rfl) rfl (by show 2 * 0 + _ ≤ _; exact Nat.le_of_eq rfl) (hb hby d4_7) (fun _ _ => ⟨rfl, e15, (by decide : 0 + 0 ≤ _), (by decide : 0 + 0 ≤ _)⟩)
  dsimp only [Pt.U, Pt.locs, Pt.cells, Pt.slots] at X16 l16 y16 z16 st16 hQ16
  subst l16 y16 z16
  obtain ⟨rfl, N16q, e16⟩ := hQ16
  have N16 := Fr.app N0 N16q
  refine own_via (T16.setTop (mkF m 10 #[.val (.ref p0), .val (.long p1), .second] [(.long (own_f5 width)), (.long ((p1.toUInt64 >>> (shift &&& 0x3f).toInt64.toUInt64).toInt64))])) (fun t k => st16.trans k) ?_
  refine own_via (T16.setTop (mkF m 11 #[.val (.ref p0), .val (.long p1), .second] [(.long (((p1.toUInt64 >>> (shift &&& 0x3f).toInt64.toUInt64).toInt64) &&& (own_f5 width)))])) (fun t k => XS.land X16.here hx rfl (hb hby d4_10) rfl k) ?_
  refine own_leave X16 Bd.notSynchronized (v := some (.long (((p1.toUInt64 >>> (shift &&& 0x3f).toInt64.toUInt64).toInt64) &&& (own_f5 width)))) (fun h => by rw [Bd.returns] at h; cases h) (fun fs hr => retOut X16 hx Bd.returns rfl (Or.inr (Or.inl ⟨rfl, rfl, _, rfl⟩)) (hb hby d4_11) hr) ?_ (by decide) (by decide)
  exact ⟨(by show some (Value.long _) = some (Value.long _); unfold own_f4; rfl), N16, e16⟩
theorem own_shl (x : Int64) (q : Int32) (k : Nat) (hk : q.toBitVec.toNat % 64 = k) : (x <<< (q &&& 0x3f).toInt64).toBitVec = x.toBitVec <<< k := by
  show x.toBitVec <<< ((q &&& 0x3f).toInt64.toBitVec.smod 64) = _
  rw [BitVec.shiftLeft_eq', (sm64 q k hk).1, smod64 k (sm64 q k hk).2]
theorem own_ushr (x : Int64) (q : Int32) (k : Nat) (hk : q.toBitVec.toNat % 64 = k) : ((x.toUInt64 >>> (q &&& 0x3f).toInt64.toUInt64).toInt64).toBitVec = x.toBitVec >>> k := by
  have h5 := (sm64 q k hk).2
  show (x.toBitVec >>> ((q &&& 0x3f).toInt64.toBitVec % 64)) = _
  apply BitVec.eq_of_toNat_eq
  rw [BitVec.ushiftRight_eq', BitVec.toNat_ushiftRight, BitVec.toNat_ushiftRight, BitVec.toNat_umod, (sm64 q k hk).1, BitVec.toNat_ofNat]; congr 1; show k % 2 ^ 64 % 64 = k; omega
theorem own_nat (x : Int32) (h : 0 ≤ x.toInt) : x.toBitVec.toNat = x.toInt.toNat := by
  have l := x.toBitVec.isLt
  change 0 ≤ x.toBitVec.toInt at h
  show x.toBitVec.toNat = x.toBitVec.toInt.toNat
  rw [BitVec.toInt_eq_toNat_cond] at h ⊢
  split <;> omega
theorem own_mx (W : Nat) (hW : W < 64) (i : Nat) : ((1#64 <<< W) - 1#64).getLsbD i = decide (i < W) := by
  have e : ((1#64 <<< W) - 1#64).toNat = 2 ^ W - 1 := by
    have p : 2 ^ W < 2 ^ 64 := Nat.pow_lt_pow_right (by decide) hW
    have p0 : 0 < 2 ^ W := Nat.pow_pos (by decide)
    have e1 : (1#64 <<< W).toNat = 2 ^ W := by
      rw [BitVec.toNat_shiftLeft, Nat.shiftLeft_eq]
      show 1 * 2 ^ W % 2 ^ 64 = 2 ^ W
      rw [Nat.one_mul, Nat.mod_eq_of_lt p]
    rw [BitVec.toNat_sub, e1]
    show (2 ^ 64 - 1 + 2 ^ W) % 2 ^ 64 = 2 ^ W - 1
    omega
  rw [BitVec.getLsbD, e, Nat.testBit_two_pow_sub_one]
theorem own_read (x : Int64) (zs zw : Int32) (S W : Nat) (hS : zs.toBitVec.toNat % 64 = S) (hW : zw.toBitVec.toNat % 64 = W) (i : Nat) : (own_f4 x zs zw).toBitVec.getLsbD i = (x.toBitVec.getLsbD (S + i) && decide (i < W)) := by
  unfold own_f4 own_f5
  rw [Int64.toBitVec_and, own_ushr _ _ _ hS, BitVec.getLsbD_and, BitVec.getLsbD_ushiftRight, Int64.toBitVec_sub, own_shl _ _ _ hW]
  have := own_mx W (by omega) i
  rw [show (1 : Int64).toBitVec = 1#64 from rfl, this]
theorem own_rng {p0 p1 zs zw : Int32} (hzw : zw = ((1 : Int32) + ((p1 &&& (2147483647 : Int32)) % (63 : Int32)))) (hzs : zs = ((p0 &&& (2147483647 : Int32)) % ((64 : Int32) - zw))) :
    1 ≤ zw.toInt ∧ zw.toInt ≤ 63 ∧ 0 ≤ zs.toInt ∧ zs.toInt + zw.toInt ≤ 63 ∧ ((64 : Int32) - zw).toInt = 64 - zw.toInt ∧ (((64 : Int32) - zs) - zw).toInt = 64 - zs.toInt - zw.toInt := by
  have e1 : (1 : Int32).toInt = 1 := rfl
  have e63 : (63 : Int32).toInt = 63 := rfl
  have e64 : (64 : Int32).toInt = 64 := rfl
  have a := (c_and p1 (2147483647 : Int32) (by decide)).1
  have m := (c_irem (p1 &&& (2147483647 : Int32)) (63 : Int32) 63 rfl).1 a
  have b := c_iadd (1 : Int32) ((p1 &&& (2147483647 : Int32)) % (63 : Int32))
  rw [← hzw] at b
  have r := rng32 zw
  have z1 : 1 ≤ zw.toInt ∧ zw.toInt ≤ 63 := by omega
  have s1 := c_isub (64 : Int32) zw
  have r1 := rng32 ((64 : Int32) - zw)
  have z2 : ((64 : Int32) - zw).toInt = 64 - zw.toInt := by omega
  have a' := (c_and p0 (2147483647 : Int32) (by decide)).1
  have m' := (c_irem (p0 &&& (2147483647 : Int32)) ((64 : Int32) - zw) (64 - zw.toInt) z2).1 a'
  rw [← hzs] at m'
  have n1 := Int.emod_nonneg (p0 &&& (2147483647 : Int32)).toInt (show (64 - zw.toInt) ≠ 0 by omega)
  have n2 := Int.emod_lt_of_pos (p0 &&& (2147483647 : Int32)).toInt (show 0 < (64 - zw.toInt) by omega)
  have s2 := c_isub (64 : Int32) zs
  have r2 := rng32 ((64 : Int32) - zs)
  have s3 := c_isub ((64 : Int32) - zs) zw
  have r3 := rng32 (((64 : Int32) - zs) - zw)
  refine ⟨z1.1, z1.2, by omega, by omega, z2, by omega⟩
theorem own_nz {p1 zw : Int32} (hzw : zw = ((1 : Int32) + ((p1 &&& (2147483647 : Int32)) % (63 : Int32)))) : ((64 : Int32) - zw) ≠ 0 := by
  intro q
  have := (own_rng (p0 := 0) hzw rfl).2.2.2.2.1
  have := (own_rng (p0 := 0) hzw rfl).2.1
  rw [q] at *
  have e0 : (0 : Int32).toInt = 0 := rfl
  omega
theorem own_law1 {p0 p1 zs zw : Int32} (x : Int64) (hzw : zw = ((1 : Int32) + ((p1 &&& (2147483647 : Int32)) % (63 : Int32)))) (hzs : zs = ((p0 &&& (2147483647 : Int32)) % ((64 : Int32) - zw))) :
    own_f4 x zs zw = (((x <<< ((((64 : Int32) - zs) - zw) &&& 0x3f).toInt64).toUInt64 >>> (((64 : Int32) - zw) &&& 0x3f).toInt64.toUInt64).toInt64) := by
  obtain ⟨h1, h2, h3, h4, h5, h6⟩ := own_rng hzw hzs
  apply Int64.toBitVec_inj.mp
  apply BitVec.eq_of_getLsbD_eq
  intro i hi
  have n1 := own_nat zs h3
  have n2 := own_nat zw (by omega)
  have n3 := own_nat ((64 : Int32) - zw) (by omega)
  have n4 := own_nat (((64 : Int32) - zs) - zw) (by omega)
  rw [own_read x zs zw zs.toInt.toNat zw.toInt.toNat (by omega) (by omega), own_ushr _ _ (64 - zw.toInt.toNat) (by omega), BitVec.getLsbD_ushiftRight, own_shl _ _ (64 - zs.toInt.toNat - zw.toInt.toNat) (by omega), BitVec.getLsbD_shiftLeft]
  have hSW : zs.toInt.toNat + zw.toInt.toNat ≤ 63 ∧ 1 ≤ zw.toInt.toNat := by omega
  generalize zs.toInt.toNat = S at hSW ⊢
  generalize zw.toInt.toNat = W at hSW ⊢
  clear n1 n2 n3 n4 h1 h2 h3 h4 h5 h6
  by_cases q : i < W
  · rw [show 64 - W + i - (64 - S - W) = S + i by omega]
    simp [q, show 64 - W + i < 64 by omega, show ¬ (64 - W + i < 64 - S - W) by omega]
  · simp [q, show ¬ (64 - W + i < 64) by omega]
theorem own_law2 {p0 p1 zs zw : Int32} (x v m val c : Int64) (hzw : zw = ((1 : Int32) + ((p1 &&& (2147483647 : Int32)) % (63 : Int32)))) (hzs : zs = ((p0 &&& (2147483647 : Int32)) % ((64 : Int32) - zw)))
    (hm : m = (((-1 : Int64).toUInt64 >>> (((64 : Int32) - zw) &&& 0x3f).toInt64.toUInt64).toInt64)) (hv : val = (v &&& m)) (hc : c = ((x &&& ((m <<< (zs &&& 0x3f).toInt64) ^^^ (-1 : Int64))) ||| (val <<< (zs &&& 0x3f).toInt64))) :
    own_f4 c zs zw = val := by
  obtain ⟨h1, h2, h3, h4, h5, h6⟩ := own_rng hzw hzs
  have n1 := own_nat zs h3
  have n2 := own_nat zw (by omega)
  have n3 := own_nat ((64 : Int32) - zw) (by omega)
  have hmb : ∀ i, m.toBitVec.getLsbD i = decide (i < zw.toInt.toNat) := by
    intro i
    rw [hm, own_ushr _ _ (64 - zw.toInt.toNat) (by omega), BitVec.getLsbD_ushiftRight]
    show (BitVec.allOnes 64).getLsbD _ = _
    rw [BitVec.getLsbD_allOnes]
    congr 1
    exact propext ⟨fun q => by omega, fun q => by omega⟩
  have hvb : ∀ i, val.toBitVec.getLsbD i = (v.toBitVec.getLsbD i && decide (i < zw.toInt.toNat)) := by
    intro i; rw [hv, Int64.toBitVec_and, BitVec.getLsbD_and, hmb]
  apply Int64.toBitVec_inj.mp
  apply BitVec.eq_of_getLsbD_eq
  intro i hi
  rw [own_read c zs zw zs.toInt.toNat zw.toInt.toNat (by omega) (by omega), hvb, hc]
  have hSW : zs.toInt.toNat + zw.toInt.toNat ≤ 63 ∧ 1 ≤ zw.toInt.toNat := by omega
  have hk : zs.toBitVec.toNat % 64 = zs.toInt.toNat := by omega
  clear n1 n2 n3 h1 h2 h3 h4 h5 h6
  generalize zs.toInt.toNat = S at hSW hk ⊢
  generalize zw.toInt.toNat = W at hSW hmb hvb ⊢
  by_cases q : i < W
  · rw [Int64.toBitVec_or, Int64.toBitVec_and, Int64.toBitVec_xor, own_shl _ _ S hk, own_shl _ _ S hk, BitVec.getLsbD_or, BitVec.getLsbD_and, BitVec.getLsbD_xor, BitVec.getLsbD_shiftLeft, BitVec.getLsbD_shiftLeft]
    rw [show S + i - S = i by omega, hmb, hvb]
    have o : (-1 : Int64).toBitVec.getLsbD (S + i) = true := by
      show (BitVec.allOnes 64).getLsbD _ = _
      rw [BitVec.getLsbD_allOnes]; simp; omega
    rw [o]
    simp [q, show S + i < 64 by omega, show ¬ (S + i < S) by omega]
  · simp [q]
def own_Q0 (n0 : Nat) (v : Option Value) (h : Heap) (L : List Loc) : Prop := v = some (.int 1) ∧ Fr n0 L
theorem pd_2 : parseMethodDescriptor "(II)V" = some ⟨[.int, .int], none⟩ := by decide +kernel
theorem pd_3 : parseMethodDescriptor "(J)J" = some ⟨[.long], some .long⟩ := by decide +kernel
theorem pn_com_example_ragged_cursor_raggedcursor_ids_FieldPositionReadPinLaw : plainName "com/example/ragged_cursor/raggedcursor/ids/FieldPositionReadPinLaw" = true := by first | (simp [plainName, overriddenIn]; done) | decide +kernel
theorem ef_0 (m : MethodId) (p0 : Int32) (p1 : Int32) (p2 : Int64) (p3 : Int64) : entryFrame m #[(.int p0), (.int p1), (.long p2), (.long p3)] maxLocals = mkF m 0 #[.val (.int p0), .val (.int p1), .val (.long p2), .second, .val (.long p3), .second, .unset, .unset, .unset, .unset, .unset, .unset, .unset, .unset, .unset, .unset, .unset, .unset, .unset] [] := by first | (simp [entryFrame, mkF, argsToLocals, Value.category, maxLocals]; done) | rfl
set_option maxRecDepth 65536 in
set_option maxHeartbeats 40000000 in
theorem rm0 (l : Launch) (Z : State) (a0 : Array Value) (hw : ∀ d ∈ tables_1, d.before a0 Z = true) (ws : List Jvm.Cond) (p0 : Int32) (p1 : Int32) (p2 : Int64) (p3 : Int64) (h0 : Heap) (n0 : Nat) (Z0 : n0 ≤ h0.size)  :
    MetFree l x (head1 (Jvm.Cond.code x code maxLocals ret :: ws) room_1) (fun a U => a = #[(.int p0), (.int p1), (.long p2), (.long p3)] ∧ Z.Warmed39 U.vm ∧ U.heap = h0) (fun _ _ _ _ _ => True) (fun _ U o U' => ∃ v L, o = .returned v ∧ (own_Q0 n0) v U'.heap L ∧ FrameEnd U o U' L room_1.cells room_1.slots) := by
  refine MetFree.of_bodySF (plainFor_of_name pn_com_example_ragged_cursor_raggedcursor_ids_FieldPositionReadPinLaw) hisR ?_
  intro p e s m args below meth c s₁ Bd hml0 hP hK
  obtain ⟨rfl, hZ, hh⟩ := hP
  have hx := Bd.exec
  have hby := Bd.bytes
  have hml : c.maxLocals = 19 := hml0
  have hown : s.vm.findClass "com/example/ragged_cursor/raggedcursor/ids/FieldPositionReadPinLaw" = some m.cls := findClass_of_methodNamed Bd.named
  have hnm := (name_of_methodNamed Bd.named Bd.method).1
  have X0 : Stand p l e room_1 s m #[(.int p0), (.int p1), (.long p2), (.long p3)] below meth c s₁ [] 0 0 := Stand.of_body Bd
  have e0 : s₁.heap = h0 := by rw [← hh, Bd.state]; rfl
  have N0 := Fr.nil n0
  refine own_body (QQ := (own_Q0 n0)) (ef_0 m p0 p1 p2 p3) ?_
  refine own_via (s₁.setTop (mkF m 1 #[.val (.int p0), .val (.int p1), .val (.long p2), .second, .val (.long p3), .second, .unset, .unset, .unset, .unset, .unset, .unset, .unset, .unset, .unset, .unset, .unset, .unset, .unset] [(.int (1 : Int32))])) (fun t k => XS.iconst X0.here hx rfl (hb hby at_0) k) ?_
  refine own_via (s₁.setTop (mkF m 2 #[.val (.int p0), .val (.int p1), .val (.long p2), .second, .val (.long p3), .second, .unset, .unset, .unset, .unset, .unset, .unset, .unset, .unset, .unset, .unset, .unset, .unset, .unset] [(.int p1), (.int (1 : Int32))])) (fun t k => XS.iloadN X0.here hx rfl (hb hby at_1) rfl  k) ?_
  refine own_via (s₁.setTop (mkF m 4 #[.val (.int p0), .val (.int p1), .val (.long p2), .second, .val (.long p3), .second, .unset, .unset, .unset, .unset, .unset, .unset, .unset, .unset, .unset, .unset, .unset, .unset, .unset] [(.int (2147483647 : Int32)), (.int p1), (.int (1 : Int32))])) (fun t k => X0.ldcInt hx hown (mvT hZ (hw _ (List.mem_of_getElem? (i := 0) rfl))) (g := (mkF m 2 #[.val (.int p0), .val (.int p1), .val (.long p2), .second, .val (.long p3), .second, .unset, .unset, .unset, .unset, .unset, .unset, .unset, .unset, .unset, .unset, .unset, .unset, .unset] [(.int p1), (.int (1 : Int32))])) rfl (hb hby at_2) _ k) ?_
  refine own_via (s₁.setTop (mkF m 5 #[.val (.int p0), .val (.int p1), .val (.long p2), .second, .val (.long p3), .second, .unset, .unset, .unset, .unset, .unset, .unset, .unset, .unset, .unset, .unset, .unset, .unset, .unset] [(.int (p1 &&& (2147483647 : Int32))), (.int (1 : Int32))])) (fun t k => XS.iand X0.here hx rfl (hb hby at_4) rfl k) ?_
  refine own_via (s₁.setTop (mkF m 7 #[.val (.int p0), .val (.int p1), .val (.long p2), .second, .val (.long p3), .second, .unset, .unset, .unset, .unset, .unset, .unset, .unset, .unset, .unset, .unset, .unset, .unset, .unset] [(.int (63 : Int32)), (.int (p1 &&& (2147483647 : Int32))), (.int (1 : Int32))])) (fun t k => XS.bipush X0.here hx rfl (hb hby at_5) k) ?_
  refine own_via (s₁.setTop (mkF m 8 #[.val (.int p0), .val (.int p1), .val (.long p2), .second, .val (.long p3), .second, .unset, .unset, .unset, .unset, .unset, .unset, .unset, .unset, .unset, .unset, .unset, .unset, .unset] [(.int ((p1 &&& (2147483647 : Int32)) % (63 : Int32))), (.int (1 : Int32))])) (fun t k => Jvm.RoadKit.iremM X0 hx rfl (hb hby at_7) rfl (by decide) k) ?_
  refine own_via (s₁.setTop (mkF m 9 #[.val (.int p0), .val (.int p1), .val (.long p2), .second, .val (.long p3), .second, .unset, .unset, .unset, .unset, .unset, .unset, .unset, .unset, .unset, .unset, .unset, .unset, .unset] [(.int ((1 : Int32) + ((p1 &&& (2147483647 : Int32)) % (63 : Int32))))])) (fun t k => XS.iadd X0.here hx rfl (hb hby at_8) rfl k) ?_
  obtain ⟨zw, hzw⟩ : ∃ z : Int32, z = ((1 : Int32) + ((p1 &&& (2147483647 : Int32)) % (63 : Int32))) := ⟨_, rfl⟩
  refine own_via (s₁.setTop (mkF m 11 #[.val (.int p0), .val (.int p1), .val (.long p2), .second, .val (.long p3), .second, .val (.int zw), .unset, .unset, .unset, .unset, .unset, .unset, .unset, .unset, .unset, .unset, .unset, .unset] [])) (fun t k => XS.istore X0.here hx rfl (hb hby at_9) rfl (l' := #[.val (.int p0), .val (.int p1), .val (.long p2), .second, .val (.long p3), .second, .val (.int zw), .unset, .unset, .unset, .unset, .unset, .unset, .unset, .unset, .unset, .unset, .unset, .unset]) (by rw [hzw]; rfl) k) ?_
  refine own_via (s₁.setTop (mkF m 12 #[.val (.int p0), .val (.int p1), .val (.long p2), .second, .val (.long p3), .second, .val (.int zw), .unset, .unset, .unset, .unset, .unset, .unset, .unset, .unset, .unset, .unset, .unset, .unset] [(.int p0)])) (fun t k => XS.iloadN X0.here hx rfl (hb hby at_11) rfl  k) ?_
  refine own_via (s₁.setTop (mkF m 14 #[.val (.int p0), .val (.int p1), .val (.long p2), .second, .val (.long p3), .second, .val (.int zw), .unset, .unset, .unset, .unset, .unset, .unset, .unset, .unset, .unset, .unset, .unset, .unset] [(.int (2147483647 : Int32)), (.int p0)])) (fun t k => X0.ldcInt hx hown (mvT hZ (hw _ (List.mem_of_getElem? (i := 0) rfl))) (g := (mkF m 12 #[.val (.int p0), .val (.int p1), .val (.long p2), .second, .val (.long p3), .second, .val (.int zw), .unset, .unset, .unset, .unset, .unset, .unset, .unset, .unset, .unset, .unset, .unset, .unset] [(.int p0)])) rfl (hb hby at_12) _ k) ?_
  refine own_via (s₁.setTop (mkF m 15 #[.val (.int p0), .val (.int p1), .val (.long p2), .second, .val (.long p3), .second, .val (.int zw), .unset, .unset, .unset, .unset, .unset, .unset, .unset, .unset, .unset, .unset, .unset, .unset] [(.int (p0 &&& (2147483647 : Int32)))])) (fun t k => XS.iand X0.here hx rfl (hb hby at_14) rfl k) ?_
  refine own_via (s₁.setTop (mkF m 17 #[.val (.int p0), .val (.int p1), .val (.long p2), .second, .val (.long p3), .second, .val (.int zw), .unset, .unset, .unset, .unset, .unset, .unset, .unset, .unset, .unset, .unset, .unset, .unset] [(.int (64 : Int32)), (.int (p0 &&& (2147483647 : Int32)))])) (fun t k => XS.bipush X0.here hx rfl (hb hby at_15) k) ?_
  refine own_via (s₁.setTop (mkF m 19 #[.val (.int p0), .val (.int p1), .val (.long p2), .second, .val (.long p3), .second, .val (.int zw), .unset, .unset, .unset, .unset, .unset, .unset, .unset, .unset, .unset, .unset, .unset, .unset] [(.int zw), (.int (64 : Int32)), (.int (p0 &&& (2147483647 : Int32)))])) (fun t k => XS.iload X0.here hx rfl (hb hby at_17) rfl  k) ?_
  refine own_via (s₁.setTop (mkF m 20 #[.val (.int p0), .val (.int p1), .val (.long p2), .second, .val (.long p3), .second, .val (.int zw), .unset, .unset, .unset, .unset, .unset, .unset, .unset, .unset, .unset, .unset, .unset, .unset] [(.int ((64 : Int32) - zw)), (.int (p0 &&& (2147483647 : Int32)))])) (fun t k => XS.isub X0.here hx rfl (hb hby at_19) rfl k) ?_
  refine own_via (s₁.setTop (mkF m 21 #[.val (.int p0), .val (.int p1), .val (.long p2), .second, .val (.long p3), .second, .val (.int zw), .unset, .unset, .unset, .unset, .unset, .unset, .unset, .unset, .unset, .unset, .unset, .unset] [(.int ((p0 &&& (2147483647 : Int32)) % ((64 : Int32) - zw)))])) (fun t k => Jvm.RoadKit.iremM X0 hx rfl (hb hby at_20) rfl (own_nz hzw) k) ?_
  obtain ⟨zs, hzs⟩ : ∃ z : Int32, z = ((p0 &&& (2147483647 : Int32)) % ((64 : Int32) - zw)) := ⟨_, rfl⟩
  refine own_via (s₁.setTop (mkF m 23 #[.val (.int p0), .val (.int p1), .val (.long p2), .second, .val (.long p3), .second, .val (.int zw), .val (.int zs), .unset, .unset, .unset, .unset, .unset, .unset, .unset, .unset, .unset, .unset, .unset] [])) (fun t k => XS.istore X0.here hx rfl (hb hby at_21) rfl (l' := #[.val (.int p0), .val (.int p1), .val (.long p2), .second, .val (.long p3), .second, .val (.int zw), .val (.int zs), .unset, .unset, .unset, .unset, .unset, .unset, .unset, .unset, .unset, .unset, .unset]) (by rw [hzs]; rfl) k) ?_
  obtain ⟨T17, h17, X17, e17, E17, A17, D17, -, st17⟩ := newO X0 hx hZ hown (hw _ (List.mem_of_getElem? (i := 1) rfl)) (hw _ (List.mem_of_getElem? (i := 2) rfl)) (hw _ (List.mem_of_getElem? (i := 3) rfl)) e0 (g := (mkF m 23 #[.val (.int p0), .val (.int p1), .val (.long p2), .second, .val (.long p3), .second, .val (.int zw), .val (.int zs), .unset, .unset, .unset, .unset, .unset, .unset, .unset, .unset, .unset, .unset, .unset] [])) rfl (hb hby at_23) (by decide) (by decide)
  obtain ⟨b17, g17⟩ : ∃ z, z = h0.size := ⟨_, rfl⟩
  rw [← g17] at A17 D17 st17
  have gg_b17 : n0 ≤ b17 := Nat.le_trans (Nat.le_trans Z0 (Keep.refl h0 []).1) (Nat.le_of_eq g17.symm)
  have sz_b17 : h0.size ≤ b17 := Nat.le_trans (Keep.refl h0 []).1 (Nat.le_of_eq g17.symm)
  have F_shift_b17 : Fld Z h17 b17 "com/example/ragged_cursor/raggedcursor/ids/Layout$FieldPosition" "shift" "I" (.int (0 : Int32)) := D17 (Or.inr (hw _ (List.mem_of_getElem? (i := 16) rfl))) (ty := .int) (by decide)
  have F_width_b17 : Fld Z h17 b17 "com/example/ragged_cursor/raggedcursor/ids/Layout$FieldPosition" "width" "I" (.int (0 : Int32)) := D17 (Or.inr (hw _ (List.mem_of_getElem? (i := 18) rfl))) (ty := .int) (by decide)
  have K18 : Keep h0 h17 [] := (Keep.refl h0 []).ext E17
  refine own_via (T17.setTop (mkF m 26 #[.val (.int p0), .val (.int p1), .val (.long p2), .second, .val (.long p3), .second, .val (.int zw), .val (.int zs), .unset, .unset, .unset, .unset, .unset, .unset, .unset, .unset, .unset, .unset, .unset] [(.ref b17)])) (fun t k => st17 t k) ?_
  refine own_via (T17.setTop (mkF m 27 #[.val (.int p0), .val (.int p1), .val (.long p2), .second, .val (.long p3), .second, .val (.int zw), .val (.int zs), .unset, .unset, .unset, .unset, .unset, .unset, .unset, .unset, .unset, .unset, .unset] [(.ref b17), (.ref b17)])) (fun t k => XS.dup X17.here hx rfl (hb hby at_26) rfl rfl k) ?_
  refine own_via (T17.setTop (mkF m 29 #[.val (.int p0), .val (.int p1), .val (.long p2), .second, .val (.long p3), .second, .val (.int zw), .val (.int zs), .unset, .unset, .unset, .unset, .unset, .unset, .unset, .unset, .unset, .unset, .unset] [(.int zs), (.ref b17), (.ref b17)])) (fun t k => XS.iload X17.here hx rfl (hb hby at_27) rfl  k) ?_
  refine own_via (T17.setTop (mkF m 31 #[.val (.int p0), .val (.int p1), .val (.long p2), .second, .val (.long p3), .second, .val (.int zw), .val (.int zs), .unset, .unset, .unset, .unset, .unset, .unset, .unset, .unset, .unset, .unset, .unset] [(.int zw), (.int zs), (.ref b17), (.ref b17)])) (fun t k => XS.iload X17.here hx rfl (hb hby at_29) rfl  k) ?_
  obtain ⟨_, _, ⟨T19, L19, k19, n19⟩, -, X19, ⟨Lc19, hQ19, l19, y19, z19⟩, st19⟩ := X17.specialBack hx (y := (⟨"com/example/ragged_cursor/raggedcursor/ids/Layout$FieldPosition", "<init>", "(II)V"⟩ : MethodName)) rfl hown (mvT hZ (hw _ (List.mem_of_getElem? (i := 4) rfl))) (mvT hZ (hw _ (List.mem_of_getElem? (i := 5) rfl))) (mvT hZ (hw _ (List.mem_of_getElem? (i := 6) rfl))) (by decide) (backOf (W := 1) (rm1 l Z a0 hw [] b17 zs zw h17 n0 (Nat.le_trans Z0 K18.1) F_shift_b17 F_width_b17 A17 gg_b17) hZ (hw _ (List.mem_of_getElem? (i := 6) rfl)) (hw _ (List.mem_of_getElem? (i := 3) rfl)) (by decide) (by decide)) (g := (mkF m 31 #[.val (.int p0), .val (.int p1), .val (.long p2), .second, .val (.long p3), .second, .val (.int zw), .val (.int zs), .unset, .unset, .unset, .unset, .unset, .unset, .unset, .unset, .unset, .unset, .unset] [(.int zw), (.int zs), (.ref b17), (.ref b17)])) rfl (by rw [hml]; rfl) (Steps.refl _) (a := b17) (argsL := [(.int zs), (.int zw)]) (rest := [(.ref b17)]) (lenOf pd_2 rfl) rfl (by show 2 * 0 + _ ≤ _; exact Nat.le_of_eq rfl) (hb hby at_31) (fun _ _ => ⟨rfl, e17, (by decide : 1 + 0 ≤ _), (by decide : 2 + 0 ≤ _)⟩)
  dsimp only [Pt.U, Pt.locs, Pt.cells, Pt.slots] at X19 l19 y19 z19 st19 hQ19
  subst l19 y19 z19
  obtain ⟨h19, e19⟩ : ∃ h, T19.heap = h := ⟨_, rfl⟩
  rw [e19] at hQ19
  obtain ⟨rfl, N19q, K19q, G19_0, G19_1, G19_2⟩ := hQ19
  have N19 := Fr.app N0 N19q
  have K20 : Keep h0 h19 [] := K18.trans K19q (fun x hx => (List.mem_cons.mp hx).elim (fun e => e ▸ Or.inr sz_b17) ((fun x hx => nomatch hx) x))
  refine own_via (T19.setTop (mkF m 34 #[.val (.int p0), .val (.int p1), .val (.long p2), .second, .val (.long p3), .second, .val (.int zw), .val (.int zs), .unset, .unset, .unset, .unset, .unset, .unset, .unset, .unset, .unset, .unset, .unset] [(.ref b17)])) (fun t k => st19.trans k) ?_
  refine own_via (T19.setTop (mkF m 36 #[.val (.int p0), .val (.int p1), .val (.long p2), .second, .val (.long p3), .second, .val (.int zw), .val (.int zs), .val (.ref b17), .unset, .unset, .unset, .unset, .unset, .unset, .unset, .unset, .unset, .unset] [])) (fun t k => XS.astore X19.here hx rfl (hb hby at_34) rfl rfl (l' := #[.val (.int p0), .val (.int p1), .val (.long p2), .second, .val (.long p3), .second, .val (.int zw), .val (.int zs), .val (.ref b17), .unset, .unset, .unset, .unset, .unset, .unset, .unset, .unset, .unset, .unset]) rfl k) ?_
  refine own_via (T19.setTop (mkF m 37 #[.val (.int p0), .val (.int p1), .val (.long p2), .second, .val (.long p3), .second, .val (.int zw), .val (.int zs), .val (.ref b17), .unset, .unset, .unset, .unset, .unset, .unset, .unset, .unset, .unset, .unset] [(.long p2)])) (fun t k => XS.lloadN X19.here hx rfl (hb hby at_36) rfl  k) ?_
  refine own_via (T19.setTop (mkF m 39 #[.val (.int p0), .val (.int p1), .val (.long p2), .second, .val (.long p3), .second, .val (.int zw), .val (.int zs), .val (.ref b17), .unset, .unset, .unset, .unset, .unset, .unset, .unset, .unset, .unset, .unset] [(.int (64 : Int32)), (.long p2)])) (fun t k => XS.bipush X19.here hx rfl (hb hby at_37) k) ?_
  refine own_via (T19.setTop (mkF m 41 #[.val (.int p0), .val (.int p1), .val (.long p2), .second, .val (.long p3), .second, .val (.int zw), .val (.int zs), .val (.ref b17), .unset, .unset, .unset, .unset, .unset, .unset, .unset, .unset, .unset, .unset] [(.int zs), (.int (64 : Int32)), (.long p2)])) (fun t k => XS.iload X19.here hx rfl (hb hby at_39) rfl  k) ?_
  refine own_via (T19.setTop (mkF m 42 #[.val (.int p0), .val (.int p1), .val (.long p2), .second, .val (.long p3), .second, .val (.int zw), .val (.int zs), .val (.ref b17), .unset, .unset, .unset, .unset, .unset, .unset, .unset, .unset, .unset, .unset] [(.int ((64 : Int32) - zs)), (.long p2)])) (fun t k => XS.isub X19.here hx rfl (hb hby at_41) rfl k) ?_
  refine own_via (T19.setTop (mkF m 44 #[.val (.int p0), .val (.int p1), .val (.long p2), .second, .val (.long p3), .second, .val (.int zw), .val (.int zs), .val (.ref b17), .unset, .unset, .unset, .unset, .unset, .unset, .unset, .unset, .unset, .unset] [(.int zw), (.int ((64 : Int32) - zs)), (.long p2)])) (fun t k => XS.iload X19.here hx rfl (hb hby at_42) rfl  k) ?_
  refine own_via (T19.setTop (mkF m 45 #[.val (.int p0), .val (.int p1), .val (.long p2), .second, .val (.long p3), .second, .val (.int zw), .val (.int zs), .val (.ref b17), .unset, .unset, .unset, .unset, .unset, .unset, .unset, .unset, .unset, .unset] [(.int (((64 : Int32) - zs) - zw)), (.long p2)])) (fun t k => XS.isub X19.here hx rfl (hb hby at_44) rfl k) ?_
  refine own_via (T19.setTop (mkF m 46 #[.val (.int p0), .val (.int p1), .val (.long p2), .second, .val (.long p3), .second, .val (.int zw), .val (.int zs), .val (.ref b17), .unset, .unset, .unset, .unset, .unset, .unset, .unset, .unset, .unset, .unset] [(.long (p2 <<< ((((64 : Int32) - zs) - zw) &&& 0x3f).toInt64))])) (fun t k => XS.lshl X19.here hx rfl (hb hby at_45) rfl k) ?_
  refine own_via (T19.setTop (mkF m 48 #[.val (.int p0), .val (.int p1), .val (.long p2), .second, .val (.long p3), .second, .val (.int zw), .val (.int zs), .val (.ref b17), .unset, .unset, .unset, .unset, .unset, .unset, .unset, .unset, .unset, .unset] [(.int (64 : Int32)), (.long (p2 <<< ((((64 : Int32) - zs) - zw) &&& 0x3f).toInt64))])) (fun t k => XS.bipush X19.here hx rfl (hb hby at_46) k) ?_
  refine own_via (T19.setTop (mkF m 50 #[.val (.int p0), .val (.int p1), .val (.long p2), .second, .val (.long p3), .second, .val (.int zw), .val (.int zs), .val (.ref b17), .unset, .unset, .unset, .unset, .unset, .unset, .unset, .unset, .unset, .unset] [(.int zw), (.int (64 : Int32)), (.long (p2 <<< ((((64 : Int32) - zs) - zw) &&& 0x3f).toInt64))])) (fun t k => XS.iload X19.here hx rfl (hb hby at_48) rfl  k) ?_
  refine own_via (T19.setTop (mkF m 51 #[.val (.int p0), .val (.int p1), .val (.long p2), .second, .val (.long p3), .second, .val (.int zw), .val (.int zs), .val (.ref b17), .unset, .unset, .unset, .unset, .unset, .unset, .unset, .unset, .unset, .unset] [(.int ((64 : Int32) - zw)), (.long (p2 <<< ((((64 : Int32) - zs) - zw) &&& 0x3f).toInt64))])) (fun t k => XS.isub X19.here hx rfl (hb hby at_50) rfl k) ?_
  refine own_via (T19.setTop (mkF m 52 #[.val (.int p0), .val (.int p1), .val (.long p2), .second, .val (.long p3), .second, .val (.int zw), .val (.int zs), .val (.ref b17), .unset, .unset, .unset, .unset, .unset, .unset, .unset, .unset, .unset, .unset] [(.long (((p2 <<< ((((64 : Int32) - zs) - zw) &&& 0x3f).toInt64).toUInt64 >>> (((64 : Int32) - zw) &&& 0x3f).toInt64.toUInt64).toInt64))])) (fun t k => XS.lushr X19.here hx rfl (hb hby at_51) rfl k) ?_
  obtain ⟨z21, hz21⟩ : ∃ z : Int64, z = (((p2 <<< ((((64 : Int32) - zs) - zw) &&& 0x3f).toInt64).toUInt64 >>> (((64 : Int32) - zw) &&& 0x3f).toInt64.toUInt64).toInt64) := ⟨_, rfl⟩
  refine own_via (T19.setTop (mkF m 54 #[.val (.int p0), .val (.int p1), .val (.long p2), .second, .val (.long p3), .second, .val (.int zw), .val (.int zs), .val (.ref b17), .val (.long z21), .second, .unset, .unset, .unset, .unset, .unset, .unset, .unset, .unset] [])) (fun t k => XS.lstore X19.here hx rfl (hb hby at_52) rfl (l' := #[.val (.int p0), .val (.int p1), .val (.long p2), .second, .val (.long p3), .second, .val (.int zw), .val (.int zs), .val (.ref b17), .val (.long z21), .second, .unset, .unset, .unset, .unset, .unset, .unset, .unset, .unset]) (by rw [hz21]; rfl) k) ?_
  refine own_via (T19.setTop (mkF m 56 #[.val (.int p0), .val (.int p1), .val (.long p2), .second, .val (.long p3), .second, .val (.int zw), .val (.int zs), .val (.ref b17), .val (.long z21), .second, .unset, .unset, .unset, .unset, .unset, .unset, .unset, .unset] [(.ref b17)])) (fun t k => XS.aload X19.here hx rfl (hb hby at_54) rfl rfl k) ?_
  refine own_via (T19.setTop (mkF m 57 #[.val (.int p0), .val (.int p1), .val (.long p2), .second, .val (.long p3), .second, .val (.int zw), .val (.int zs), .val (.ref b17), .val (.long z21), .second, .unset, .unset, .unset, .unset, .unset, .unset, .unset, .unset] [(.long p2), (.ref b17)])) (fun t k => XS.lloadN X19.here hx rfl (hb hby at_56) rfl  k) ?_
  obtain ⟨cq22, kq22, q22a, q22b, q22c⟩ := isOf hZ e19 G19_0
  obtain ⟨_, _, ⟨T22, L22, k22, n22⟩, -, X22, ⟨Lc22, hQ22, l22, y22, z22⟩, st22⟩ := X19.virtualBack hx (y := (⟨"com/example/ragged_cursor/raggedcursor/ids/Layout$FieldPosition", "read", "(J)J"⟩ : MethodName)) (z := (⟨"com/example/ragged_cursor/raggedcursor/ids/Layout$FieldPosition", "read", "(J)J"⟩ : MethodName)) hown (mvT hZ (hw _ (List.mem_of_getElem? (i := 19) rfl))) (mvT hZ (hw _ (List.mem_of_getElem? (i := 20) rfl))) (notFace_of_selects (args := #[]) (mvT hZ (hw _ (List.mem_of_getElem? (i := 22) rfl)))) (mvT hZ (hw _ (List.mem_of_getElem? (i := 22) rfl))) (mvT hZ (hw _ (List.mem_of_getElem? (i := 21) rfl))) (by decide) (backOf (W := 0) (rm4 l Z a0 hw [] b17 p2 h19 n0 (Nat.le_trans Z0 K20.1) zs zw G19_1 G19_2 G19_0) hZ (hw _ (List.mem_of_getElem? (i := 23) rfl)) (hw _ (List.mem_of_getElem? (i := 3) rfl)) (by decide) (by decide)) q22a q22c (g := (mkF m 57 #[.val (.int p0), .val (.int p1), .val (.long p2), .second, .val (.long p3), .second, .val (.int zw), .val (.int zs), .val (.ref b17), .val (.long z21), .second, .unset, .unset, .unset, .unset, .unset, .unset, .unset, .unset] [(.long p2), (.ref b17)])) rfl (by rw [hml]; rfl) (Steps.refl _) (argsL := [(.long p2)]) (rest := []) (lenOf pd_3 rfl) rfl (by show 2 * 0 + _ ≤ _; exact Nat.le_of_eq rfl) (hb hby at_57) (fun _ _ => ⟨rfl, e19, (by decide : 1 + 0 ≤ _), (by decide : 2 + 0 ≤ _)⟩)
  dsimp only [Pt.U, Pt.locs, Pt.cells, Pt.slots] at X22 l22 y22 z22 st22 hQ22
  subst l22 y22 z22
  obtain ⟨rfl, N22q, e22⟩ := hQ22
  have N22 := Fr.app N19 N22q
  refine own_via (T22.setTop (mkF m 60 #[.val (.int p0), .val (.int p1), .val (.long p2), .second, .val (.long p3), .second, .val (.int zw), .val (.int zs), .val (.ref b17), .val (.long z21), .second, .unset, .unset, .unset, .unset, .unset, .unset, .unset, .unset] [(.long (own_f4 p2 zs zw))])) (fun t k => st22.trans k) ?_
  refine own_via (T22.setTop (mkF m 62 #[.val (.int p0), .val (.int p1), .val (.long p2), .second, .val (.long p3), .second, .val (.int zw), .val (.int zs), .val (.ref b17), .val (.long z21), .second, .unset, .unset, .unset, .unset, .unset, .unset, .unset, .unset] [(.long z21), (.long (own_f4 p2 zs zw))])) (fun t k => XS.lload X22.here hx rfl (hb hby at_60) rfl  k) ?_
  refine own_via (T22.setTop (mkF m 63 #[.val (.int p0), .val (.int p1), .val (.long p2), .second, .val (.long p3), .second, .val (.int zw), .val (.int zs), .val (.ref b17), .val (.long z21), .second, .unset, .unset, .unset, .unset, .unset, .unset, .unset, .unset] [(.int (lcmpW (own_f4 p2 zs zw) z21))])) (fun t k => XS.lcmp X22.here hx rfl (hb hby at_62) rfl k) ?_
  obtain ⟨z23, hz23⟩ : ∃ z : Int32, z = (if (own_f4 p2 zs zw) = z21 then (1 : Int32) else (0 : Int32)) := ⟨_, rfl⟩
  refine own_via (T22.setTop (mkF m 71 #[.val (.int p0), .val (.int p1), .val (.long p2), .second, .val (.long p3), .second, .val (.int zw), .val (.int zs), .val (.ref b17), .val (.long z21), .second, .unset, .unset, .unset, .unset, .unset, .unset, .unset, .unset] [(.int z23)])) (fun t k => ?_) ?_
  · skip
    by_cases hj63_24 : (own_f4 p2 zs zw) = z21
    · refine XS.ifNo X22.here hx rfl (hb hby at_63) rfl ((if0 _ _).trans (teq ((lw_eq (own_f4 p2 zs zw) z21).mpr hj63_24)).2) (?_ : Steps p.tables e below (T22.setTop (mkF m 66 #[.val (.int p0), .val (.int p1), .val (.long p2), .second, .val (.long p3), .second, .val (.int zw), .val (.int zs), .val (.ref b17), .val (.long z21), .second, .unset, .unset, .unset, .unset, .unset, .unset, .unset, .unset] [])) t)
      refine XS.iconst X22.here hx rfl (hb hby at_66) (?_ : Steps p.tables e below (T22.setTop (mkF m 67 #[.val (.int p0), .val (.int p1), .val (.long p2), .second, .val (.long p3), .second, .val (.int zw), .val (.int zs), .val (.ref b17), .val (.long z21), .second, .unset, .unset, .unset, .unset, .unset, .unset, .unset, .unset] [(.int (1 : Int32))])) t)
      refine XS.goto X22.here hx rfl (pc0 := 67) (pc' := 71) rfl (hb hby at_67) (by decide) (by decide) (?_ : Steps p.tables e below (T22.setTop (mkF m 71 #[.val (.int p0), .val (.int p1), .val (.long p2), .second, .val (.long p3), .second, .val (.int zw), .val (.int zs), .val (.ref b17), .val (.long z21), .second, .unset, .unset, .unset, .unset, .unset, .unset, .unset, .unset] [(.int (1 : Int32))])) t)
      have q_z23 := (hz23.trans (if_pos hj63_24))
      subst q_z23
      exact k
    · refine XS.ifYes X22.here hx rfl (pc0 := 63) (pc' := 70) rfl (hb hby at_63) rfl ((if0 _ _).trans (feq (fun q => hj63_24 ((lw_eq (own_f4 p2 zs zw) z21).mp q))).2) (by decide) (by decide) (?_ : Steps p.tables e below (T22.setTop (mkF m 70 #[.val (.int p0), .val (.int p1), .val (.long p2), .second, .val (.long p3), .second, .val (.int zw), .val (.int zs), .val (.ref b17), .val (.long z21), .second, .unset, .unset, .unset, .unset, .unset, .unset, .unset, .unset] [])) t)
      refine XS.iconst X22.here hx rfl (hb hby at_70) (?_ : Steps p.tables e below (T22.setTop (mkF m 71 #[.val (.int p0), .val (.int p1), .val (.long p2), .second, .val (.long p3), .second, .val (.int zw), .val (.int zs), .val (.ref b17), .val (.long z21), .second, .unset, .unset, .unset, .unset, .unset, .unset, .unset, .unset] [(.int (0 : Int32))])) t)
      have q_z23 := (hz23.trans (if_neg hj63_24))
      subst q_z23
      exact k
  refine own_via (T22.setTop (mkF m 73 #[.val (.int p0), .val (.int p1), .val (.long p2), .second, .val (.long p3), .second, .val (.int zw), .val (.int zs), .val (.ref b17), .val (.long z21), .second, .val (.int z23), .unset, .unset, .unset, .unset, .unset, .unset, .unset] [])) (fun t k => XS.istore X22.here hx rfl (hb hby at_71) rfl (l' := #[.val (.int p0), .val (.int p1), .val (.long p2), .second, .val (.long p3), .second, .val (.int zw), .val (.int zs), .val (.ref b17), .val (.long z21), .second, .val (.int z23), .unset, .unset, .unset, .unset, .unset, .unset, .unset]) rfl k) ?_
  refine own_via (T22.setTop (mkF m 76 #[.val (.int p0), .val (.int p1), .val (.long p2), .second, .val (.long p3), .second, .val (.int zw), .val (.int zs), .val (.ref b17), .val (.long z21), .second, .val (.int z23), .unset, .unset, .unset, .unset, .unset, .unset, .unset] [(.long (-1 : Int64))])) (fun t k => X22.ldc2Long hx hown (mvT hZ (hw _ (List.mem_of_getElem? (i := 29) rfl))) (g := (mkF m 73 #[.val (.int p0), .val (.int p1), .val (.long p2), .second, .val (.long p3), .second, .val (.int zw), .val (.int zs), .val (.ref b17), .val (.long z21), .second, .val (.int z23), .unset, .unset, .unset, .unset, .unset, .unset, .unset] [])) rfl (hb hby at_73) _ k) ?_
  refine own_via (T22.setTop (mkF m 78 #[.val (.int p0), .val (.int p1), .val (.long p2), .second, .val (.long p3), .second, .val (.int zw), .val (.int zs), .val (.ref b17), .val (.long z21), .second, .val (.int z23), .unset, .unset, .unset, .unset, .unset, .unset, .unset] [(.int (64 : Int32)), (.long (-1 : Int64))])) (fun t k => XS.bipush X22.here hx rfl (hb hby at_76) k) ?_
  refine own_via (T22.setTop (mkF m 80 #[.val (.int p0), .val (.int p1), .val (.long p2), .second, .val (.long p3), .second, .val (.int zw), .val (.int zs), .val (.ref b17), .val (.long z21), .second, .val (.int z23), .unset, .unset, .unset, .unset, .unset, .unset, .unset] [(.int zw), (.int (64 : Int32)), (.long (-1 : Int64))])) (fun t k => XS.iload X22.here hx rfl (hb hby at_78) rfl  k) ?_
  refine own_via (T22.setTop (mkF m 81 #[.val (.int p0), .val (.int p1), .val (.long p2), .second, .val (.long p3), .second, .val (.int zw), .val (.int zs), .val (.ref b17), .val (.long z21), .second, .val (.int z23), .unset, .unset, .unset, .unset, .unset, .unset, .unset] [(.int ((64 : Int32) - zw)), (.long (-1 : Int64))])) (fun t k => XS.isub X22.here hx rfl (hb hby at_80) rfl k) ?_
  refine own_via (T22.setTop (mkF m 82 #[.val (.int p0), .val (.int p1), .val (.long p2), .second, .val (.long p3), .second, .val (.int zw), .val (.int zs), .val (.ref b17), .val (.long z21), .second, .val (.int z23), .unset, .unset, .unset, .unset, .unset, .unset, .unset] [(.long (((-1 : Int64).toUInt64 >>> (((64 : Int32) - zw) &&& 0x3f).toInt64.toUInt64).toInt64))])) (fun t k => XS.lushr X22.here hx rfl (hb hby at_81) rfl k) ?_
  obtain ⟨z25, hz25⟩ : ∃ z : Int64, z = (((-1 : Int64).toUInt64 >>> (((64 : Int32) - zw) &&& 0x3f).toInt64.toUInt64).toInt64) := ⟨_, rfl⟩
  refine own_via (T22.setTop (mkF m 84 #[.val (.int p0), .val (.int p1), .val (.long p2), .second, .val (.long p3), .second, .val (.int zw), .val (.int zs), .val (.ref b17), .val (.long z21), .second, .val (.int z23), .val (.long z25), .second, .unset, .unset, .unset, .unset, .unset] [])) (fun t k => XS.lstore X22.here hx rfl (hb hby at_82) rfl (l' := #[.val (.int p0), .val (.int p1), .val (.long p2), .second, .val (.long p3), .second, .val (.int zw), .val (.int zs), .val (.ref b17), .val (.long z21), .second, .val (.int z23), .val (.long z25), .second, .unset, .unset, .unset, .unset, .unset]) (by rw [hz25]; rfl) k) ?_
  refine own_via (T22.setTop (mkF m 86 #[.val (.int p0), .val (.int p1), .val (.long p2), .second, .val (.long p3), .second, .val (.int zw), .val (.int zs), .val (.ref b17), .val (.long z21), .second, .val (.int z23), .val (.long z25), .second, .unset, .unset, .unset, .unset, .unset] [(.long p3)])) (fun t k => XS.lload X22.here hx rfl (hb hby at_84) rfl  k) ?_
  refine own_via (T22.setTop (mkF m 88 #[.val (.int p0), .val (.int p1), .val (.long p2), .second, .val (.long p3), .second, .val (.int zw), .val (.int zs), .val (.ref b17), .val (.long z21), .second, .val (.int z23), .val (.long z25), .second, .unset, .unset, .unset, .unset, .unset] [(.long z25), (.long p3)])) (fun t k => XS.lload X22.here hx rfl (hb hby at_86) rfl  k) ?_
  refine own_via (T22.setTop (mkF m 89 #[.val (.int p0), .val (.int p1), .val (.long p2), .second, .val (.long p3), .second, .val (.int zw), .val (.int zs), .val (.ref b17), .val (.long z21), .second, .val (.int z23), .val (.long z25), .second, .unset, .unset, .unset, .unset, .unset] [(.long (p3 &&& z25))])) (fun t k => XS.land X22.here hx rfl (hb hby at_88) rfl k) ?_
  obtain ⟨z26, hz26⟩ : ∃ z : Int64, z = (p3 &&& z25) := ⟨_, rfl⟩
  refine own_via (T22.setTop (mkF m 91 #[.val (.int p0), .val (.int p1), .val (.long p2), .second, .val (.long p3), .second, .val (.int zw), .val (.int zs), .val (.ref b17), .val (.long z21), .second, .val (.int z23), .val (.long z25), .second, .val (.long z26), .second, .unset, .unset, .unset] [])) (fun t k => XS.lstore X22.here hx rfl (hb hby at_89) rfl (l' := #[.val (.int p0), .val (.int p1), .val (.long p2), .second, .val (.long p3), .second, .val (.int zw), .val (.int zs), .val (.ref b17), .val (.long z21), .second, .val (.int z23), .val (.long z25), .second, .val (.long z26), .second, .unset, .unset, .unset]) (by rw [hz26]; rfl) k) ?_
  refine own_via (T22.setTop (mkF m 92 #[.val (.int p0), .val (.int p1), .val (.long p2), .second, .val (.long p3), .second, .val (.int zw), .val (.int zs), .val (.ref b17), .val (.long z21), .second, .val (.int z23), .val (.long z25), .second, .val (.long z26), .second, .unset, .unset, .unset] [(.long p2)])) (fun t k => XS.lloadN X22.here hx rfl (hb hby at_91) rfl  k) ?_
  refine own_via (T22.setTop (mkF m 94 #[.val (.int p0), .val (.int p1), .val (.long p2), .second, .val (.long p3), .second, .val (.int zw), .val (.int zs), .val (.ref b17), .val (.long z21), .second, .val (.int z23), .val (.long z25), .second, .val (.long z26), .second, .unset, .unset, .unset] [(.long z25), (.long p2)])) (fun t k => XS.lload X22.here hx rfl (hb hby at_92) rfl  k) ?_
  refine own_via (T22.setTop (mkF m 96 #[.val (.int p0), .val (.int p1), .val (.long p2), .second, .val (.long p3), .second, .val (.int zw), .val (.int zs), .val (.ref b17), .val (.long z21), .second, .val (.int z23), .val (.long z25), .second, .val (.long z26), .second, .unset, .unset, .unset] [(.int zs), (.long z25), (.long p2)])) (fun t k => XS.iload X22.here hx rfl (hb hby at_94) rfl  k) ?_
  refine own_via (T22.setTop (mkF m 97 #[.val (.int p0), .val (.int p1), .val (.long p2), .second, .val (.long p3), .second, .val (.int zw), .val (.int zs), .val (.ref b17), .val (.long z21), .second, .val (.int z23), .val (.long z25), .second, .val (.long z26), .second, .unset, .unset, .unset] [(.long (z25 <<< (zs &&& 0x3f).toInt64)), (.long p2)])) (fun t k => XS.lshl X22.here hx rfl (hb hby at_96) rfl k) ?_
  refine own_via (T22.setTop (mkF m 100 #[.val (.int p0), .val (.int p1), .val (.long p2), .second, .val (.long p3), .second, .val (.int zw), .val (.int zs), .val (.ref b17), .val (.long z21), .second, .val (.int z23), .val (.long z25), .second, .val (.long z26), .second, .unset, .unset, .unset] [(.long (-1 : Int64)), (.long (z25 <<< (zs &&& 0x3f).toInt64)), (.long p2)])) (fun t k => X22.ldc2Long hx hown (mvT hZ (hw _ (List.mem_of_getElem? (i := 29) rfl))) (g := (mkF m 97 #[.val (.int p0), .val (.int p1), .val (.long p2), .second, .val (.long p3), .second, .val (.int zw), .val (.int zs), .val (.ref b17), .val (.long z21), .second, .val (.int z23), .val (.long z25), .second, .val (.long z26), .second, .unset, .unset, .unset] [(.long (z25 <<< (zs &&& 0x3f).toInt64)), (.long p2)])) rfl (hb hby at_97) _ k) ?_
  refine own_via (T22.setTop (mkF m 101 #[.val (.int p0), .val (.int p1), .val (.long p2), .second, .val (.long p3), .second, .val (.int zw), .val (.int zs), .val (.ref b17), .val (.long z21), .second, .val (.int z23), .val (.long z25), .second, .val (.long z26), .second, .unset, .unset, .unset] [(.long ((z25 <<< (zs &&& 0x3f).toInt64) ^^^ (-1 : Int64))), (.long p2)])) (fun t k => XS.lxor X22.here hx rfl (hb hby at_100) rfl k) ?_
  refine own_via (T22.setTop (mkF m 102 #[.val (.int p0), .val (.int p1), .val (.long p2), .second, .val (.long p3), .second, .val (.int zw), .val (.int zs), .val (.ref b17), .val (.long z21), .second, .val (.int z23), .val (.long z25), .second, .val (.long z26), .second, .unset, .unset, .unset] [(.long (p2 &&& ((z25 <<< (zs &&& 0x3f).toInt64) ^^^ (-1 : Int64))))])) (fun t k => XS.land X22.here hx rfl (hb hby at_101) rfl k) ?_
  refine own_via (T22.setTop (mkF m 104 #[.val (.int p0), .val (.int p1), .val (.long p2), .second, .val (.long p3), .second, .val (.int zw), .val (.int zs), .val (.ref b17), .val (.long z21), .second, .val (.int z23), .val (.long z25), .second, .val (.long z26), .second, .unset, .unset, .unset] [(.long z26), (.long (p2 &&& ((z25 <<< (zs &&& 0x3f).toInt64) ^^^ (-1 : Int64))))])) (fun t k => XS.lload X22.here hx rfl (hb hby at_102) rfl  k) ?_
  refine own_via (T22.setTop (mkF m 106 #[.val (.int p0), .val (.int p1), .val (.long p2), .second, .val (.long p3), .second, .val (.int zw), .val (.int zs), .val (.ref b17), .val (.long z21), .second, .val (.int z23), .val (.long z25), .second, .val (.long z26), .second, .unset, .unset, .unset] [(.int zs), (.long z26), (.long (p2 &&& ((z25 <<< (zs &&& 0x3f).toInt64) ^^^ (-1 : Int64))))])) (fun t k => XS.iload X22.here hx rfl (hb hby at_104) rfl  k) ?_
  refine own_via (T22.setTop (mkF m 107 #[.val (.int p0), .val (.int p1), .val (.long p2), .second, .val (.long p3), .second, .val (.int zw), .val (.int zs), .val (.ref b17), .val (.long z21), .second, .val (.int z23), .val (.long z25), .second, .val (.long z26), .second, .unset, .unset, .unset] [(.long (z26 <<< (zs &&& 0x3f).toInt64)), (.long (p2 &&& ((z25 <<< (zs &&& 0x3f).toInt64) ^^^ (-1 : Int64))))])) (fun t k => XS.lshl X22.here hx rfl (hb hby at_106) rfl k) ?_
  refine own_via (T22.setTop (mkF m 108 #[.val (.int p0), .val (.int p1), .val (.long p2), .second, .val (.long p3), .second, .val (.int zw), .val (.int zs), .val (.ref b17), .val (.long z21), .second, .val (.int z23), .val (.long z25), .second, .val (.long z26), .second, .unset, .unset, .unset] [(.long ((p2 &&& ((z25 <<< (zs &&& 0x3f).toInt64) ^^^ (-1 : Int64))) ||| (z26 <<< (zs &&& 0x3f).toInt64)))])) (fun t k => XS.lor X22.here hx rfl (hb hby at_107) rfl k) ?_
  obtain ⟨z27, hz27⟩ : ∃ z : Int64, z = ((p2 &&& ((z25 <<< (zs &&& 0x3f).toInt64) ^^^ (-1 : Int64))) ||| (z26 <<< (zs &&& 0x3f).toInt64)) := ⟨_, rfl⟩
  refine own_via (T22.setTop (mkF m 110 #[.val (.int p0), .val (.int p1), .val (.long p2), .second, .val (.long p3), .second, .val (.int zw), .val (.int zs), .val (.ref b17), .val (.long z21), .second, .val (.int z23), .val (.long z25), .second, .val (.long z26), .second, .val (.long z27), .second, .unset] [])) (fun t k => XS.lstore X22.here hx rfl (hb hby at_108) rfl (l' := #[.val (.int p0), .val (.int p1), .val (.long p2), .second, .val (.long p3), .second, .val (.int zw), .val (.int zs), .val (.ref b17), .val (.long z21), .second, .val (.int z23), .val (.long z25), .second, .val (.long z26), .second, .val (.long z27), .second, .unset]) (by rw [hz27]; rfl) k) ?_
  refine own_via (T22.setTop (mkF m 112 #[.val (.int p0), .val (.int p1), .val (.long p2), .second, .val (.long p3), .second, .val (.int zw), .val (.int zs), .val (.ref b17), .val (.long z21), .second, .val (.int z23), .val (.long z25), .second, .val (.long z26), .second, .val (.long z27), .second, .unset] [(.ref b17)])) (fun t k => XS.aload X22.here hx rfl (hb hby at_110) rfl rfl k) ?_
  refine own_via (T22.setTop (mkF m 114 #[.val (.int p0), .val (.int p1), .val (.long p2), .second, .val (.long p3), .second, .val (.int zw), .val (.int zs), .val (.ref b17), .val (.long z21), .second, .val (.int z23), .val (.long z25), .second, .val (.long z26), .second, .val (.long z27), .second, .unset] [(.long z27), (.ref b17)])) (fun t k => XS.lload X22.here hx rfl (hb hby at_112) rfl  k) ?_
  obtain ⟨cq28, kq28, q28a, q28b, q28c⟩ := isOf hZ e22 G19_0
  obtain ⟨_, _, ⟨T28, L28, k28, n28⟩, -, X28, ⟨Lc28, hQ28, l28, y28, z28⟩, st28⟩ := X22.virtualBack hx (y := (⟨"com/example/ragged_cursor/raggedcursor/ids/Layout$FieldPosition", "read", "(J)J"⟩ : MethodName)) (z := (⟨"com/example/ragged_cursor/raggedcursor/ids/Layout$FieldPosition", "read", "(J)J"⟩ : MethodName)) hown (mvT hZ (hw _ (List.mem_of_getElem? (i := 19) rfl))) (mvT hZ (hw _ (List.mem_of_getElem? (i := 20) rfl))) (notFace_of_selects (args := #[]) (mvT hZ (hw _ (List.mem_of_getElem? (i := 22) rfl)))) (mvT hZ (hw _ (List.mem_of_getElem? (i := 22) rfl))) (mvT hZ (hw _ (List.mem_of_getElem? (i := 21) rfl))) (by decide) (backOf (W := 0) (rm4 l Z a0 hw [] b17 z27 h19 n0 (Nat.le_trans Z0 K20.1) zs zw G19_1 G19_2 G19_0) hZ (hw _ (List.mem_of_getElem? (i := 23) rfl)) (hw _ (List.mem_of_getElem? (i := 3) rfl)) (by decide) (by decide)) q28a q28c (g := (mkF m 114 #[.val (.int p0), .val (.int p1), .val (.long p2), .second, .val (.long p3), .second, .val (.int zw), .val (.int zs), .val (.ref b17), .val (.long z21), .second, .val (.int z23), .val (.long z25), .second, .val (.long z26), .second, .val (.long z27), .second, .unset] [(.long z27), (.ref b17)])) rfl (by rw [hml]; rfl) (Steps.refl _) (argsL := [(.long z27)]) (rest := []) (lenOf pd_3 rfl) rfl (by show 2 * 0 + _ ≤ _; exact Nat.le_of_eq rfl) (hb hby at_114) (fun _ _ => ⟨rfl, e22, (by decide : 1 + 0 ≤ _), (by decide : 2 + 0 ≤ _)⟩)
  dsimp only [Pt.U, Pt.locs, Pt.cells, Pt.slots] at X28 l28 y28 z28 st28 hQ28
  subst l28 y28 z28
  obtain ⟨rfl, N28q, e28⟩ := hQ28
  have N28 := Fr.app N22 N28q
  refine own_via (T28.setTop (mkF m 117 #[.val (.int p0), .val (.int p1), .val (.long p2), .second, .val (.long p3), .second, .val (.int zw), .val (.int zs), .val (.ref b17), .val (.long z21), .second, .val (.int z23), .val (.long z25), .second, .val (.long z26), .second, .val (.long z27), .second, .unset] [(.long (own_f4 z27 zs zw))])) (fun t k => st28.trans k) ?_
  refine own_via (T28.setTop (mkF m 119 #[.val (.int p0), .val (.int p1), .val (.long p2), .second, .val (.long p3), .second, .val (.int zw), .val (.int zs), .val (.ref b17), .val (.long z21), .second, .val (.int z23), .val (.long z25), .second, .val (.long z26), .second, .val (.long z27), .second, .unset] [(.long z26), (.long (own_f4 z27 zs zw))])) (fun t k => XS.lload X28.here hx rfl (hb hby at_117) rfl  k) ?_
  refine own_via (T28.setTop (mkF m 120 #[.val (.int p0), .val (.int p1), .val (.long p2), .second, .val (.long p3), .second, .val (.int zw), .val (.int zs), .val (.ref b17), .val (.long z21), .second, .val (.int z23), .val (.long z25), .second, .val (.long z26), .second, .val (.long z27), .second, .unset] [(.int (lcmpW (own_f4 z27 zs zw) z26))])) (fun t k => XS.lcmp X28.here hx rfl (hb hby at_119) rfl k) ?_
  obtain ⟨z29, hz29⟩ : ∃ z : Int32, z = (if (own_f4 z27 zs zw) = z26 then (1 : Int32) else (0 : Int32)) := ⟨_, rfl⟩
  refine own_via (T28.setTop (mkF m 128 #[.val (.int p0), .val (.int p1), .val (.long p2), .second, .val (.long p3), .second, .val (.int zw), .val (.int zs), .val (.ref b17), .val (.long z21), .second, .val (.int z23), .val (.long z25), .second, .val (.long z26), .second, .val (.long z27), .second, .unset] [(.int z29)])) (fun t k => ?_) ?_
  · skip
    by_cases hj120_30 : (own_f4 z27 zs zw) = z26
    · refine XS.ifNo X28.here hx rfl (hb hby at_120) rfl ((if0 _ _).trans (teq ((lw_eq (own_f4 z27 zs zw) z26).mpr hj120_30)).2) (?_ : Steps p.tables e below (T28.setTop (mkF m 123 #[.val (.int p0), .val (.int p1), .val (.long p2), .second, .val (.long p3), .second, .val (.int zw), .val (.int zs), .val (.ref b17), .val (.long z21), .second, .val (.int z23), .val (.long z25), .second, .val (.long z26), .second, .val (.long z27), .second, .unset] [])) t)
      refine XS.iconst X28.here hx rfl (hb hby at_123) (?_ : Steps p.tables e below (T28.setTop (mkF m 124 #[.val (.int p0), .val (.int p1), .val (.long p2), .second, .val (.long p3), .second, .val (.int zw), .val (.int zs), .val (.ref b17), .val (.long z21), .second, .val (.int z23), .val (.long z25), .second, .val (.long z26), .second, .val (.long z27), .second, .unset] [(.int (1 : Int32))])) t)
      refine XS.goto X28.here hx rfl (pc0 := 124) (pc' := 128) rfl (hb hby at_124) (by decide) (by decide) (?_ : Steps p.tables e below (T28.setTop (mkF m 128 #[.val (.int p0), .val (.int p1), .val (.long p2), .second, .val (.long p3), .second, .val (.int zw), .val (.int zs), .val (.ref b17), .val (.long z21), .second, .val (.int z23), .val (.long z25), .second, .val (.long z26), .second, .val (.long z27), .second, .unset] [(.int (1 : Int32))])) t)
      have q_z29 := (hz29.trans (if_pos hj120_30))
      subst q_z29
      exact k
    · refine XS.ifYes X28.here hx rfl (pc0 := 120) (pc' := 127) rfl (hb hby at_120) rfl ((if0 _ _).trans (feq (fun q => hj120_30 ((lw_eq (own_f4 z27 zs zw) z26).mp q))).2) (by decide) (by decide) (?_ : Steps p.tables e below (T28.setTop (mkF m 127 #[.val (.int p0), .val (.int p1), .val (.long p2), .second, .val (.long p3), .second, .val (.int zw), .val (.int zs), .val (.ref b17), .val (.long z21), .second, .val (.int z23), .val (.long z25), .second, .val (.long z26), .second, .val (.long z27), .second, .unset] [])) t)
      refine XS.iconst X28.here hx rfl (hb hby at_127) (?_ : Steps p.tables e below (T28.setTop (mkF m 128 #[.val (.int p0), .val (.int p1), .val (.long p2), .second, .val (.long p3), .second, .val (.int zw), .val (.int zs), .val (.ref b17), .val (.long z21), .second, .val (.int z23), .val (.long z25), .second, .val (.long z26), .second, .val (.long z27), .second, .unset] [(.int (0 : Int32))])) t)
      have q_z29 := (hz29.trans (if_neg hj120_30))
      subst q_z29
      exact k
  refine own_via (T28.setTop (mkF m 130 #[.val (.int p0), .val (.int p1), .val (.long p2), .second, .val (.long p3), .second, .val (.int zw), .val (.int zs), .val (.ref b17), .val (.long z21), .second, .val (.int z23), .val (.long z25), .second, .val (.long z26), .second, .val (.long z27), .second, .val (.int z29)] [])) (fun t k => XS.istore X28.here hx rfl (hb hby at_128) rfl (l' := #[.val (.int p0), .val (.int p1), .val (.long p2), .second, .val (.long p3), .second, .val (.int zw), .val (.int zs), .val (.ref b17), .val (.long z21), .second, .val (.int z23), .val (.long z25), .second, .val (.long z26), .second, .val (.long z27), .second, .val (.int z29)]) rfl k) ?_
  refine own_via (T28.setTop (mkF m 132 #[.val (.int p0), .val (.int p1), .val (.long p2), .second, .val (.long p3), .second, .val (.int zw), .val (.int zs), .val (.ref b17), .val (.long z21), .second, .val (.int z23), .val (.long z25), .second, .val (.long z26), .second, .val (.long z27), .second, .val (.int z29)] [(.int z23)])) (fun t k => XS.iload X28.here hx rfl (hb hby at_130) rfl  k) ?_
  obtain ⟨z31, hz31⟩ : ∃ z : Int32, z = (if z23 = (0 : Int32) then (0 : Int32) else (if z29 = (0 : Int32) then (0 : Int32) else (1 : Int32))) := ⟨_, rfl⟩
  refine own_via (T28.setTop (mkF m 145 #[.val (.int p0), .val (.int p1), .val (.long p2), .second, .val (.long p3), .second, .val (.int zw), .val (.int zs), .val (.ref b17), .val (.long z21), .second, .val (.int z23), .val (.long z25), .second, .val (.long z26), .second, .val (.long z27), .second, .val (.int z29)] [(.int z31)])) (fun t k => ?_) ?_
  · skip
    by_cases hj132_32 : z23 = (0 : Int32)
    · refine XS.ifYes X28.here hx rfl (pc0 := 132) (pc' := 144) rfl (hb hby at_132) rfl ((if0 _ _).trans (teq hj132_32).1) (by decide) (by decide) (?_ : Steps p.tables e below (T28.setTop (mkF m 144 #[.val (.int p0), .val (.int p1), .val (.long p2), .second, .val (.long p3), .second, .val (.int zw), .val (.int zs), .val (.ref b17), .val (.long z21), .second, .val (.int z23), .val (.long z25), .second, .val (.long z26), .second, .val (.long z27), .second, .val (.int z29)] [])) t)
      refine XS.iconst X28.here hx rfl (hb hby at_144) (?_ : Steps p.tables e below (T28.setTop (mkF m 145 #[.val (.int p0), .val (.int p1), .val (.long p2), .second, .val (.long p3), .second, .val (.int zw), .val (.int zs), .val (.ref b17), .val (.long z21), .second, .val (.int z23), .val (.long z25), .second, .val (.long z26), .second, .val (.long z27), .second, .val (.int z29)] [(.int (0 : Int32))])) t)
      have q_z31 := (hz31.trans (if_pos hj132_32))
      subst q_z31
      exact k
    · refine XS.ifNo X28.here hx rfl (hb hby at_132) rfl ((if0 _ _).trans (feq hj132_32).1) (?_ : Steps p.tables e below (T28.setTop (mkF m 135 #[.val (.int p0), .val (.int p1), .val (.long p2), .second, .val (.long p3), .second, .val (.int zw), .val (.int zs), .val (.ref b17), .val (.long z21), .second, .val (.int z23), .val (.long z25), .second, .val (.long z26), .second, .val (.long z27), .second, .val (.int z29)] [])) t)
      refine XS.iload X28.here hx rfl (hb hby at_135) rfl  (?_ : Steps p.tables e below (T28.setTop (mkF m 137 #[.val (.int p0), .val (.int p1), .val (.long p2), .second, .val (.long p3), .second, .val (.int zw), .val (.int zs), .val (.ref b17), .val (.long z21), .second, .val (.int z23), .val (.long z25), .second, .val (.long z26), .second, .val (.long z27), .second, .val (.int z29)] [(.int z29)])) t)
      by_cases hj137_33 : z29 = (0 : Int32)
      · refine XS.ifYes X28.here hx rfl (pc0 := 137) (pc' := 144) rfl (hb hby at_137) rfl ((if0 _ _).trans (teq hj137_33).1) (by decide) (by decide) (?_ : Steps p.tables e below (T28.setTop (mkF m 144 #[.val (.int p0), .val (.int p1), .val (.long p2), .second, .val (.long p3), .second, .val (.int zw), .val (.int zs), .val (.ref b17), .val (.long z21), .second, .val (.int z23), .val (.long z25), .second, .val (.long z26), .second, .val (.long z27), .second, .val (.int z29)] [])) t)
        refine XS.iconst X28.here hx rfl (hb hby at_144) (?_ : Steps p.tables e below (T28.setTop (mkF m 145 #[.val (.int p0), .val (.int p1), .val (.long p2), .second, .val (.long p3), .second, .val (.int zw), .val (.int zs), .val (.ref b17), .val (.long z21), .second, .val (.int z23), .val (.long z25), .second, .val (.long z26), .second, .val (.long z27), .second, .val (.int z29)] [(.int (0 : Int32))])) t)
        have q_z31 := ((hz31.trans (if_neg hj132_32)).trans (if_pos hj137_33))
        subst q_z31
        exact k
      · refine XS.ifNo X28.here hx rfl (hb hby at_137) rfl ((if0 _ _).trans (feq hj137_33).1) (?_ : Steps p.tables e below (T28.setTop (mkF m 140 #[.val (.int p0), .val (.int p1), .val (.long p2), .second, .val (.long p3), .second, .val (.int zw), .val (.int zs), .val (.ref b17), .val (.long z21), .second, .val (.int z23), .val (.long z25), .second, .val (.long z26), .second, .val (.long z27), .second, .val (.int z29)] [])) t)
        refine XS.iconst X28.here hx rfl (hb hby at_140) (?_ : Steps p.tables e below (T28.setTop (mkF m 141 #[.val (.int p0), .val (.int p1), .val (.long p2), .second, .val (.long p3), .second, .val (.int zw), .val (.int zs), .val (.ref b17), .val (.long z21), .second, .val (.int z23), .val (.long z25), .second, .val (.long z26), .second, .val (.long z27), .second, .val (.int z29)] [(.int (1 : Int32))])) t)
        refine XS.goto X28.here hx rfl (pc0 := 141) (pc' := 145) rfl (hb hby at_141) (by decide) (by decide) (?_ : Steps p.tables e below (T28.setTop (mkF m 145 #[.val (.int p0), .val (.int p1), .val (.long p2), .second, .val (.long p3), .second, .val (.int zw), .val (.int zs), .val (.ref b17), .val (.long z21), .second, .val (.int z23), .val (.long z25), .second, .val (.long z26), .second, .val (.long z27), .second, .val (.int z29)] [(.int (1 : Int32))])) t)
        have q_z31 := ((hz31.trans (if_neg hj132_32)).trans (if_neg hj137_33))
        subst q_z31
        exact k
  refine own_leave X28 Bd.notSynchronized (v := some (.int (nar .boolean z31))) (fun h => by rw [Bd.returns] at h; cases h) (fun fs hr => retN X28 hx (t := .boolean) Bd.returns (by simp) (hb hby at_145) hr) ?_ (by decide) (by decide)
  refine ⟨?_, N28⟩
  have a1 : z23 = 1 := by rw [hz23, hz21, if_pos (own_law1 _ hzw hzs)]
  have a2 : z29 = 1 := by rw [hz29, if_pos (own_law2 _ _ _ _ _ hzw hzs hz25 hz26 hz27)]
  rw [hz31, a1, a2]; rfl
set_option maxRecDepth 65536 in
set_option maxHeartbeats 40000000 in
theorem comes_1 {Post : Tables → Env → Array Value → State → Outcome → State → Prop} (hpost : ∀ tb e args s v u, (limb_1_1.after args s (.returned v) u = true ∧ limb_1_2.after args s (.returned v) u = true ∧ True) → FrameEnd s (.returned v) u (Jvm.fieldLocs frame_1_writes args s ++ Jvm.arrayLocs frame_1_arrays args s ++ Jvm.staticLocs frame_1_statics s) 16 128 → Post tb e args s (.returned v) u) :
    ArmFor flags0 classFile x code maxLocals ret World_1 tables_1 room_1 Calls_1 rest_1 Pre_1 Post := by
  intro l hfl _ _ p e ha hc hk s m args below hf hA hF happ hP
  obtain ⟨hcalls, hrest, hpre⟩ := hP
  obtain ⟨-, -, -, hnamed, -, -, -, hat⟩ := (Spec.applies_iff hf).mp happ
  obtain ⟨hg, hn⟩ := and_e (Cond.before_iff.mp (show (Jvm.Cond.and given_1 narrow_1).before args s = true from hpre))
  obtain ⟨g0, g⟩ := and_e hg
  obtain ⟨ga0, g⟩ := and_e g
  obtain ⟨ga1, g⟩ := and_e g
  obtain ⟨ga2, g⟩ := and_e g
  have ga3 := g
  obtain ⟨w0, w1, w2, w3, rfl⟩ : ∃ w0 w1 w2 w3 : Value, args = #[w0, w1, w2, w3] := by
    have hs : args.size = 4 := by simpa [Cond.value, given_1] using g0
    obtain ⟨L⟩ := args
    match L, hs with
    | [w0, w1, w2, w3], _ => exact ⟨w0, w1, w2, w3, rfl⟩
  have hw := fun d (hd : d ∈ tables_1) => atoms_spec (ws := Jvm.Cond.code x code maxLocals ret :: tables_1) hat d (List.mem_cons_of_mem _ hd)
  have hfit : Fit s := fun {y c} hc i hi => by
    obtain ⟨ha, rfl⟩ := Array.getElem?_eq_some_iff.mp hc
    have q := List.all_eq_true.mp ((Array.all_eq_true_iff_forall_mem.mp hF) _ (Array.getElem_mem ha)) i (List.mem_range.mpr hi)
    simpa [Array.getElem?_eq_getElem hi] using q
  obtain ⟨i0, ei0⟩ := is_v ga0
  obtain rfl : w0 = (.int i0) := Option.some.inj ei0
  obtain ⟨i1, ei1⟩ := is_v ga1
  obtain rfl : w1 = (.int i1) := Option.some.inj ei1
  obtain ⟨i2, ei2⟩ := isL_v ga2
  obtain rfl : w2 = (.long i2) := Option.some.inj ei2
  obtain ⟨i3, ei3⟩ := isL_v ga3
  obtain rfl : w3 = (.long i3) := Option.some.inj ei3
  obtain ⟨n, o, h1, h2, h3, _, L, rfl, ⟨rfl, N⟩, hq⟩ := rm0 l s _ hw tables_1 i0 i1 i2 i3 s.heap s.heap.size (Nat.le_refl _)  p e ha hc hk s m _ below hf ((Spec.applies_iff_loose hf).mp happ).1 ⟨rfl, State.Warmed39.refl s, rfl⟩ trivial
  refine ⟨n, _, h1, h2, h3, hpost _ _ _ _ _ _ ⟨Cond.after_iff.mpr rfl, Cond.after_iff.mpr (eq_i res_at (Term.int_eval (1)) rfl), trivial⟩ ⟨hq.1, hq.2.1, (hq.2.2.sift fun y hy => Or.inr (N y hy)).mono (by decide) (by decide)⟩⟩
theorem main_1_1 : Claimed_1_1 := comes_1 fun _ _ _ _ _ _ h hF => ⟨h.1, hF⟩
theorem main_1_2 : Claimed_1_2 := comes_1 fun _ _ _ _ _ _ h hF => ⟨h.2.1, hF⟩
end Jvm.Pilot.@@N@@
namespace Jvm.Pilot.@@N@@
open Jvm Jvm.ClassFile Sem Op Lib Jvm.Free Jvm.Stand Jvm.Pilot.@@N@@.Jvm.D
/-! MADE BY PROGRAM (witnessworld.py) out of the Statement's table words and the real class files: 10 classes; the members and pool entries that the words name. The judged class is class 1, her method 1. -/
namespace start1
open Jvm.ClassFile
def u (s : String) : CpInfo := .utf8 (stringToUtf16 s)
/-- a pool by its gaps: so many unusable entries, then the entry; so many at the end -/
def gap : Nat → List CpInfo → List CpInfo
  | 0, r => r
  | n + 1, r => .unusable :: gap n r
def poolList (es : List (Nat × CpInfo)) (last : Nat) : List CpInfo := es.foldr (fun e r => gap e.1 (e.2 :: r)) (gap last [])
def pool (es : List (Nat × CpInfo)) (last : Nat) : Array CpInfo := ⟨poolList es last⟩
def fileOf (pool : Array CpInfo) (this : Nat) (attrs : Array Attribute := #[]) (ms : Array MethodInfo := #[]) (fl : Nat := 33) (sup : Nat := 0) (ifs : Array Nat := #[]) (fds : Array FieldInfo := #[]) : ClassFile where
  minorVersion := 0
  majorVersion := 65
  constantPool := pool
  accessFlags := fl
  thisClass := this
  superClass := sup
  interfaces := ifs
  fields := fds
  methods := ms
  attributes := attrs
def plain (name : String) (sup : Option ClassId) : Class where
  name := name
  kind := .ordinary
  loader := none
  accessFlags := 33
  super := sup
  interfaces := #[]
  cf := none
  fields := #[]
  methods := #[]
  instanceTypes := #[]
  staticTypes := #[]
  resolved := #[]
  callSites := []
  init := .initialized
  statics := none
  mirror := none

def pool0 : Array CpInfo := pool [(5, u "<init>"), (0, u "()V"), (1, .class_ 10), (1, u "java/lang/Object")] 113

def k0c0 : Code := { maxStack := 0, maxLocals := 1, code := object_method_1_code, exceptionTable := #[], attributes := #[] }
def k0m0 : Method := { name := "<init>", desc := "()V", sig := { parameters := [], returnType := none }, accessFlags := 1, code := some k0c0 }
/-- java/lang/Object -/
def k0 : Class := { plain "java/lang/Object" none with
  accessFlags := 33
  interfaces := #[]
  cf := some (fileOf pool0 8 #[] #[{ accessFlags := 1, nameIndex := 5, descriptorIndex := 6, attributes := #[] }] 33 0 #[] #[])
  fields := #[]
  methods := #[k0m0]
  instanceTypes := #[]
  staticTypes := #[]
  resolved := Array.replicate 124 none
  statics := none }

def pool1 : Array CpInfo := pool [(2, .class_ 4), (1, u "java/lang/Object"), (0, u "<init>"), (0, u "()V"), (0, .integer 2147483647), (0, .class_ 9), (0, u "com/example/ragged_cursor/raggedcursor/ids/Layout$FieldPosition"), (0, .methodref 8 11), (0, .nameAndType 5 12), (0, u "(II)V"), (0, .methodref 8 14), (0, .nameAndType 15 16), (0, u "read"), (0, u "(J)J"), (0, .long 18446744073709551615), (1, .class_ 20), (0, u "com/example/ragged_cursor/raggedcursor/ids/FieldPositionReadPinLaw"), (2, u "law"), (0, u "(IIJJ)Z")] 7

def k1m0 : Method := { name := "<init>", desc := "()V", sig := { parameters := [], returnType := none }, accessFlags := 1, code := none }
def k1c1 : Code := { maxStack := 6, maxLocals := 19, code := code, exceptionTable := #[], attributes := #[] }
def k1m1 : Method := { name := "law", desc := "(IIJJ)Z", sig := { parameters := [.int, .int, .long, .long], returnType := some .boolean }, accessFlags := 9, code := some k1c1 }
/-- com/example/ragged_cursor/raggedcursor/ids/FieldPositionReadPinLaw -/
def k1 : Class := { plain "com/example/ragged_cursor/raggedcursor/ids/FieldPositionReadPinLaw" (some 0) with
  accessFlags := 49
  interfaces := #[]
  cf := some (fileOf pool1 19 #[] #[{ accessFlags := 1, nameIndex := 5, descriptorIndex := 6, attributes := #[] }, { accessFlags := 9, nameIndex := 23, descriptorIndex := 24, attributes := #[] }] 49 2 #[] #[])
  fields := #[]
  methods := #[k1m0, k1m1]
  instanceTypes := #[]
  staticTypes := #[]
  resolved := Array.replicate 32 none
  statics := none }

def pool2 : Array CpInfo := pool [(1, .methodref 2 3), (0, .class_ 4), (0, .nameAndType 5 6), (0, u "java/lang/Object"), (0, u "<init>"), (0, u "()V"), (0, .class_ 8), (0, u "java/lang/Record")] 13

def k2c0 : Code := { maxStack := 1, maxLocals := 1, code := jdk_30_method_1_code, exceptionTable := #[], attributes := #[] }
def k2m0 : Method := { name := "<init>", desc := "()V", sig := { parameters := [], returnType := none }, accessFlags := 4, code := some k2c0 }
/-- java/lang/Record -/
def k2 : Class := { plain "java/lang/Record" (some 0) with
  accessFlags := 1057
  interfaces := #[]
  cf := some (fileOf pool2 7 #[] #[{ accessFlags := 4, nameIndex := 5, descriptorIndex := 6, attributes := #[] }] 1057 2 #[] #[])
  fields := #[]
  methods := #[k2m0]
  instanceTypes := #[]
  staticTypes := #[]
  resolved := Array.replicate 22 none
  statics := none }

def pool3 : Array CpInfo := pool [(1, .methodref 2 3), (0, .class_ 4), (0, .nameAndType 5 6), (0, u "java/lang/Record"), (0, u "<init>"), (0, u "()V"), (0, .fieldref 8 9), (0, .class_ 10), (0, .nameAndType 11 12), (0, u "com/example/ragged_cursor/raggedcursor/ids/Layout$FieldPosition"), (0, u "shift"), (0, u "I"), (0, .fieldref 8 14), (0, .nameAndType 15 12), (0, u "width"), (0, .methodref 8 17), (0, .nameAndType 18 19), (0, u "maxValue"), (0, u "()J"), (12, u "(II)V"), (3, u "read"), (0, u "(J)J"), (7, .class_ 46), (0, u "com/example/ragged_cursor/raggedcursor/ids/Layout")] 20

def k3c0 : Code := { maxStack := 2, maxLocals := 3, code := prog_20_method_1_code, exceptionTable := #[], attributes := #[] }
def k3m0 : Method := { name := "<init>", desc := "(II)V", sig := { parameters := [.int, .int], returnType := none }, accessFlags := 0, code := some k3c0 }
def k3c1 : Code := { maxStack := 4, maxLocals := 1, code := prog_20_method_2_code, exceptionTable := #[], attributes := #[] }
def k3m1 : Method := { name := "maxValue", desc := "()J", sig := { parameters := [], returnType := some .long }, accessFlags := 0, code := some k3c1 }
def k3c2 : Code := { maxStack := 4, maxLocals := 3, code := prog_20_method_3_code, exceptionTable := #[], attributes := #[] }
def k3m2 : Method := { name := "read", desc := "(J)J", sig := { parameters := [.long], returnType := some .long }, accessFlags := 0, code := some k3c2 }
/-- com/example/ragged_cursor/raggedcursor/ids/Layout$FieldPosition -/
def k3 : Class := { plain "com/example/ragged_cursor/raggedcursor/ids/Layout$FieldPosition" (some 2) with
  accessFlags := 48
  interfaces := #[]
  cf := some (fileOf pool3 8 #[.nestHost 45] #[{ accessFlags := 0, nameIndex := 5, descriptorIndex := 32, attributes := #[] }, { accessFlags := 0, nameIndex := 18, descriptorIndex := 19, attributes := #[] }, { accessFlags := 0, nameIndex := 36, descriptorIndex := 37, attributes := #[] }] 48 2 #[] #[{ accessFlags := 18, nameIndex := 11, descriptorIndex := 12, attributes := #[] }, { accessFlags := 18, nameIndex := 15, descriptorIndex := 12, attributes := #[] }])
  fields := #[{ name := "shift", type := .int, accessFlags := 18, slot := 0, constantValue := 0 }, { name := "width", type := .int, accessFlags := 18, slot := 1, constantValue := 0 }]
  methods := #[k3m0, k3m1, k3m2]
  instanceTypes := #[.int, .int]
  staticTypes := #[]
  resolved := Array.replicate 67 none
  statics := none }

def pool4 : Array CpInfo := pool [(1, u "java/lang/Cloneable"), (0, .class_ 1), (0, u "java/lang/Object"), (0, .class_ 3)] 3

/-- java/lang/Cloneable -/
def k4 : Class := { plain "java/lang/Cloneable" (some 0) with
  accessFlags := 1537
  interfaces := #[]
  cf := some (fileOf pool4 2 #[] #[] 1537 4 #[] #[])
  fields := #[]
  methods := #[]
  instanceTypes := #[]
  staticTypes := #[]
  resolved := Array.replicate 8 none
  statics := none }

def pool5 : Array CpInfo := pool [(1, u "java/io/Serializable"), (0, .class_ 1), (0, u "java/lang/Object"), (0, .class_ 3)] 3

/-- java/io/Serializable -/
def k5 : Class := { plain "java/io/Serializable" (some 0) with
  accessFlags := 1537
  interfaces := #[]
  cf := some (fileOf pool5 2 #[] #[] 1537 4 #[] #[])
  fields := #[]
  methods := #[]
  instanceTypes := #[]
  staticTypes := #[]
  resolved := Array.replicate 8 none
  statics := none }

/-- the primitive byte -/
def k6 : Class := { plain "byte" none with kind := .primitive 'B', accessFlags := 0x411 }
/-- [B -/
def k7 : Class := { plain "[B" (some 0) with kind := .array 6 .byte, interfaces := #[4, 5], accessFlags := 1041 }

/-- the primitive int -/
def k8 : Class := { plain "int" none with kind := .primitive 'I', accessFlags := 0x411 }
/-- [I -/
def k9 : Class := { plain "[I" (some 0) with kind := .array 8 .int, interfaces := #[4, 5], accessFlags := 1041 }

def heap : Heap := #[]
def classes : Array Class := #[k0, k1, k2, k3, k4, k5, k6, k7, k8, k9]
def interned : List (Array UInt16 × Addr) := []
def slotsUsed : Nat := 0
def theMethod : MethodId := ⟨1, 1⟩
def args0 : Array Value := #[.int 5, .int 7, .long 3, .long 9]
def aboutOver (below : List Frame) : State where
  vm := { classes := classes, interned := interned.toArray }
  heap := heap
  slotsUsed := slotsUsed
  threads := #[{ frames := .invoking theMethod args0 :: below }]
def below0 : List Frame := [.native { method := ⟨0, 0⟩, args := #[] }]
def about1 : State := aboutOver below0
def p0 : Program := .bare "" "" ""
def e0 : Env := launch0.env 0 0 0
theorem w_frames : about1.frames = Frame.invoking theMethod args0 :: below0 := rfl
set_option maxRecDepth 65536 in
theorem w_args : argsFit about1.vm theMethod args0 = true := by decide +kernel
set_option maxRecDepth 65536 in
theorem w_heap : heapFits about1 = true := by decide +kernel
set_option maxRecDepth 65536 in
theorem w_runnable : about1.curStatus? = some .runnable := by decide +kernel
set_option maxRecDepth 65536 in
theorem w_alone : about1.alone = true := by decide +kernel
set_option maxRecDepth 65536 in
theorem w_named : about1.methodNamed? x = some theMethod := by decide +kernel
set_option maxRecDepth 65536 in
theorem w_hears : about1.hears theMethod below0 = true := by decide +kernel
set_option maxRecDepth 65536 in
theorem w_ripe : about1.ripe theMethod args0 below0 = true := by decide +kernel
theorem w_running : about1.status = .running := rfl
set_option maxRecDepth 65536 in
theorem w_room : about1.hasRoom e0.platform room_1 = true :=
  launch0.hasRoom_least _ room_1 (by decide +kernel) (by decide +kernel) (by decide +kernel) (by decide +kernel) (by decide +kernel) (by decide +kernel)
theorem allAtoms_all (ts : List Jvm.Cond) (a : Array Jvm.Value) (st : Jvm.State) : (allAtoms ts).before a st = ts.all (fun c => c.before a st) := by
  induction ts with
  | nil => rfl
  | cons c t ih =>
    show (Jvm.Cond.and c (allAtoms t)).before a st = _
    rw [Jvm.Cond.before_and, ih, List.all_cons]
def words1 : List Jvm.Cond := Jvm.Cond.code x code maxLocals ret :: tables_1
/-- a 'code' word, met by the world's own term for the bytes: nothing is compared byte by byte -/
theorem code_word {y : MethodName} {bytes : ByteArray} {mx : Nat} {rt : Option FieldType} {a : Array Value} {s : State} {m : MethodId} {meth : Method} {c : Code} (h1 : s.methodNamed? y = some m) (h2 : s.vm.method? m = some meth) (h3 : meth.code = some c) (h4 : c.code = bytes)
    (h5 : (c.maxLocals == mx && c.exceptionTable.isEmpty && decide (c.maxStack ≤ mostOperands) && decide (meth.sig.returnType = rt) && !meth.locks && decide (parseMethodDescriptor y.desc = some meth.sig)) = true) : (Jvm.Cond.code y bytes mx rt).before a s = true := by
  simp only [Bool.and_eq_true, beq_iff_eq, Bool.not_eq_true', decide_eq_true_eq] at h5
  obtain ⟨⟨⟨⟨⟨g1, g2⟩, g3⟩, g4⟩, g5⟩, g6⟩ := h5
  simp [Cond.before, Cond.holds, Cond.value, h1, h2, h3, h4, g1, g2, g3, g4, g5, g6]
def isCode : Jvm.Cond → Bool
  | .code _ _ _ _ => true
  | _ => false
theorem all_split {L : List Jvm.Cond} {P : Jvm.Cond → Bool} (h1 : L.all (fun c => isCode c || P c) = true) (h2 : ∀ c ∈ L.filter isCode, P c = true) : L.all P = true := by
  refine List.all_eq_true.mpr fun c hc => ?_
  have h := List.all_eq_true.mp h1 c hc
  rcases Bool.eq_false_or_eq_true (isCode c) with hi | hi
  · exact h2 c (List.mem_filter.mpr ⟨hc, hi⟩)
  · simpa [hi] using h
set_option maxRecDepth 65536 in
theorem w_c0 : (Jvm.Cond.code x code maxLocals ret).before args0 about1 = true := code_word (m := ⟨1, 1⟩) (meth := k1m1) (c := k1c1) (by decide +kernel) rfl rfl rfl (by decide +kernel)
set_option maxRecDepth 65536 in
theorem w_c1 : (Jvm.Cond.code ({ cls := "com/example/ragged_cursor/raggedcursor/ids/Layout$FieldPosition", name := "<init>", desc := "(II)V" } : Jvm.MethodName) prog_20_method_1_code (3 : Nat) (Option.none : Option Jvm.ClassFile.FieldType)).before args0 about1 = true := code_word (m := ⟨3, 0⟩) (meth := k3m0) (c := k3c0) (by decide +kernel) rfl rfl rfl (by decide +kernel)
set_option maxRecDepth 65536 in
theorem w_c2 : (Jvm.Cond.code ({ cls := "java/lang/Record", name := "<init>", desc := "()V" } : Jvm.MethodName) jdk_30_method_1_code (1 : Nat) (Option.none : Option Jvm.ClassFile.FieldType)).before args0 about1 = true := code_word (m := ⟨2, 0⟩) (meth := k2m0) (c := k2c0) (by decide +kernel) rfl rfl rfl (by decide +kernel)
set_option maxRecDepth 65536 in
theorem w_c3 : (Jvm.Cond.code ({ cls := "java/lang/Object", name := "<init>", desc := "()V" } : Jvm.MethodName) object_method_1_code (1 : Nat) (Option.none : Option Jvm.ClassFile.FieldType)).before args0 about1 = true := code_word (m := ⟨0, 0⟩) (meth := k0m0) (c := k0c0) (by decide +kernel) rfl rfl rfl (by decide +kernel)
set_option maxRecDepth 65536 in
theorem w_c4 : (Jvm.Cond.code ({ cls := "com/example/ragged_cursor/raggedcursor/ids/Layout$FieldPosition", name := "read", desc := "(J)J" } : Jvm.MethodName) prog_20_method_3_code (3 : Nat) (Option.some Jvm.ClassFile.FieldType.long)).before args0 about1 = true := code_word (m := ⟨3, 2⟩) (meth := k3m2) (c := k3c2) (by decide +kernel) rfl rfl rfl (by decide +kernel)
set_option maxRecDepth 65536 in
theorem w_c5 : (Jvm.Cond.code ({ cls := "com/example/ragged_cursor/raggedcursor/ids/Layout$FieldPosition", name := "maxValue", desc := "()J" } : Jvm.MethodName) prog_20_method_2_code (1 : Nat) (Option.some Jvm.ClassFile.FieldType.long)).before args0 about1 = true := code_word (m := ⟨3, 1⟩) (meth := k3m1) (c := k3c1) (by decide +kernel) rfl rfl rfl (by decide +kernel)
def codes1 : List Jvm.Cond := [Jvm.Cond.code x code maxLocals ret, Jvm.Cond.code ({ cls := "com/example/ragged_cursor/raggedcursor/ids/Layout$FieldPosition", name := "<init>", desc := "(II)V" } : Jvm.MethodName) prog_20_method_1_code (3 : Nat) (Option.none : Option Jvm.ClassFile.FieldType), Jvm.Cond.code ({ cls := "java/lang/Record", name := "<init>", desc := "()V" } : Jvm.MethodName) jdk_30_method_1_code (1 : Nat) (Option.none : Option Jvm.ClassFile.FieldType), Jvm.Cond.code ({ cls := "java/lang/Object", name := "<init>", desc := "()V" } : Jvm.MethodName) object_method_1_code (1 : Nat) (Option.none : Option Jvm.ClassFile.FieldType), Jvm.Cond.code ({ cls := "com/example/ragged_cursor/raggedcursor/ids/Layout$FieldPosition", name := "read", desc := "(J)J" } : Jvm.MethodName) prog_20_method_3_code (3 : Nat) (Option.some Jvm.ClassFile.FieldType.long), Jvm.Cond.code ({ cls := "com/example/ragged_cursor/raggedcursor/ids/Layout$FieldPosition", name := "maxValue", desc := "()J" } : Jvm.MethodName) prog_20_method_2_code (1 : Nat) (Option.some Jvm.ClassFile.FieldType.long)]
set_option maxRecDepth 65536 in
theorem codes_eq : words1.filter isCode = codes1 := rfl
theorem w_codes : ∀ c ∈ words1.filter isCode, c.before args0 about1 = true := by
  rw [codes_eq]
  intro c hc
  simp only [codes1, List.mem_cons, List.not_mem_nil, or_false] at hc
  rcases hc with rfl | rfl | rfl | rfl | rfl | rfl
  · exact w_c0
  · exact w_c1
  · exact w_c2
  · exact w_c3
  · exact w_c4
  · exact w_c5
set_option maxRecDepth 65536 in
theorem w_t1 : (words1.take 24).all (fun c => isCode c || c.before args0 about1) = true := by decide +kernel
set_option maxRecDepth 65536 in
theorem w_t2 : (words1.drop 24).all (fun c => isCode c || c.before args0 about1) = true := by decide +kernel
theorem w_tables : (allAtoms (Jvm.Cond.code x code maxLocals ret :: tables_1)).before args0 about1 = true := by
  rw [allAtoms_all]
  show words1.all (fun c => c.before args0 about1) = true
  refine all_split ?_ w_codes
  rw [← List.take_append_drop 24 words1, List.all_append, w_t1, w_t2]
  rfl
set_option maxRecDepth 65536 in
theorem w_case : (Jvm.Cond.and given_1 narrow_1).before args0 about1 = true := by decide +kernel
theorem w_applies : (headSpec (Jvm.Cond.code x code maxLocals ret :: tables_1) room_1).applies x e0.platform about1 = true :=
  (Spec.applies_iff w_frames).mpr ⟨w_running, w_runnable, w_alone, w_named, w_hears, w_ripe, w_room, w_tables⟩
theorem atStart : AtStart classFile x code maxLocals ret World_1 tables_1 room_1 Calls_1 rest_1 Pre_1 launch0 p0 e0 about1 theMethod args0 below0 :=
  ⟨lists_1, trivial, launch0.admits_env _ _ _, launch0.least_env, fairChoices_fair.cas, fairChoices_fair.clock, w_frames, w_args, w_heap, w_applies, trivial, trivial, w_case⟩
end start1
theorem witness_1 : WitnessClaimed_1 := ⟨start1.p0, start1.e0, start1.about1, start1.theMethod, start1.args0, start1.below0, start1.atStart⟩
end Jvm.Pilot.@@N@@
