import JvmDerived
import JvmDerived.Pilot.@@N@@Statement
import JvmDerived.Pilot.@@N@@Code
set_option linter.unusedVariables false
set_option linter.unusedSimpArgs false
namespace Jvm.RoadKit
open Sem ClassFile Op Lib Jvm.Stand Jvm.Free Jvm.LawKit
section New
variable {p : Program} {l : Launch} {e : Env} {R : Room} {s : State} {m : MethodId} {args : Array Value} {below : List Frame} {meth : Method} {c : Code} {T : State} {locs : List Loc} {cells slots : Nat}
theorem retI (X : Stand p l e R s m args below meth c T locs cells slots) (hx : p.tables.exec = Jvm.exec) {pc : Nat} {Ls : Array Slot} {z : Int32} {rest : List Value} (hret : meth.sig.returnType = some .int) (hd : decode c.code pc = .ok (.ireturn, 1)) {fs : List Frame}
    (hl : ∀ (f : JFrame) (acts : List Action), f.method = m → f.locked = none → f.entered = [] → (doReturn e (T.setTop f) acts (some (.int z))).1 = T.setFrames fs) : Steps p.tables e below (T.setTop (mkF m pc Ls (.int z :: rest))) (T.setFrames fs) :=
  retOut X hx hret rfl (Or.inl ⟨rfl, Or.inl rfl, _, rfl⟩) hd hl
end New
end Jvm.RoadKit
namespace Jvm.Pilot.@@N@@
open Jvm Jvm.ClassFile Sem Op Lib Jvm.Free Jvm.Stand Jvm.LawKit Jvm.RoadKit Bundle Jvm.Pilot.@@N@@.Jvm.D
/-! own_Goes: from A the run comes to a state of which P holds -/
def own_Goes (p : Program) (e : Env) (below : List Frame) (P : State → Prop) (A : State) : Prop := ∃ B, Steps p.tables e below A B ∧ P B
def own_Fin (s : State) (below : List Frame) (QQ : Option Value → Heap → List Loc → Prop) (C N : Nat) (B : State) : Prop := ∃ v L, B.status = .running ∧ Ended B below (.returned v) ∧ QQ v B.heap L ∧ FrameEnd s (.returned v) B L C N
theorem own_via {p : Program} {e : Env} {below : List Frame} {P : State → Prop} {A : State} (B : State) (h : ∀ t, Steps p.tables e below B t → Steps p.tables e below A t) (k : own_Goes p e below P B) : own_Goes p e below P A := by
  obtain ⟨t, h1, h2⟩ := k
  exact ⟨t, h t h1, h2⟩
theorem own_body {p : Program} {e : Env} {below : List Frame} {s s₁ : State} {QQ : Option Value → Heap → List Loc → Prop} {C N ml : Nat} {m : MethodId} {args : Array Value} {F : JFrame} (hF : entryFrame m args ml = F) (k : own_Goes p e below (own_Fin s below QQ C N) (s₁.setTop F)) :
    ∃ s₂ o, Steps p.tables e below (s₁.setTop (entryFrame m args ml)) s₂ ∧ s₂.status = .running ∧ Ended s₂ below o ∧ (∃ v L, o = .returned v ∧ QQ v s₂.heap L ∧ FrameEnd s o s₂ L C N) := by
  obtain ⟨B, h1, v, L, h2, h3, h4, h5⟩ := k
  exact ⟨B, .returned v, hF ▸ h1, h2, h3, v, L, rfl, h4, h5⟩
theorem own_leave {p : Program} {l : Launch} {e : Env} {R : Room} {s : State} {m : MethodId} {args : Array Value} {below : List Frame} {meth : Method} {c : Code} {T : State} {locs : List Loc} {cells slots : Nat} {QQ : Option Value → Heap → List Loc → Prop} {C N : Nat}
    (X : Stand p l e R s m args below meth c T locs cells slots) (hlocks : meth.locks = false) {v : Option Value} (hv : meth.sig.returnType = none → v = none) {F : JFrame}
    (hstep : ∀ fs, (∀ (f : JFrame) (acts : List Action), f.method = m → f.locked = none → f.entered = [] → (doReturn e (T.setTop f) acts v).1 = T.setFrames fs) → Steps p.tables e below (T.setTop F) (T.setFrames fs))
    (hq : QQ v T.heap locs) (hc : cells ≤ C) (hn : slots ≤ N) : own_Goes p e below (own_Fin s below QQ C N) (T.setTop F) := by
  obtain ⟨fs, hr, hrun, hended, hW, hsame⟩ := X.leave hv hlocks
  exact ⟨_, hstep fs hr, v, locs, hrun, hended, hq, ⟨_, rfl⟩, hW, hsame.mono hc hn⟩
/-- what a body that writes nothing leaves -/
def own_Q (r : Option Value) (h0 : Heap) (n0 : Nat) (v : Option Value) (h : Heap) (L : List Loc) : Prop := v = r ∧ Fr n0 L ∧ h = h0
def own_f2 (p0 : Int32) (p1 : Int32) : Int32 := (if p1 < p0 then p1 else p0)
theorem d2_0 : decode jdk_29_method_69_code 0 = .ok (.iload_n 0, 1) := by decide +kernel
theorem d2_1 : decode jdk_29_method_69_code 1 = .ok (.iload_n 1, 1) := by decide +kernel
theorem d2_2 : decode jdk_29_method_69_code 2 = .ok (.if_icmp .gt 7, 3) := by decide +kernel
theorem d2_5 : decode jdk_29_method_69_code 5 = .ok (.iload_n 0, 1) := by decide +kernel
theorem d2_6 : decode jdk_29_method_69_code 6 = .ok (.goto 4, 3) := by decide +kernel
theorem d2_9 : decode jdk_29_method_69_code 9 = .ok (.iload_n 1, 1) := by decide +kernel
theorem d2_10 : decode jdk_29_method_69_code 10 = .ok (.ireturn, 1) := by decide +kernel
theorem ef_2 (m : MethodId) (p0 : Int32) (p1 : Int32) : entryFrame m #[(.int p0), (.int p1)] 2 = mkF m 0 #[.val (.int p0), .val (.int p1)] [] := by first | (simp [entryFrame, mkF, argsToLocals, Value.category]; done) | rfl
set_option maxRecDepth 65536 in
set_option maxHeartbeats 40000000 in
theorem rm2 (l : Launch) (Z : State) (a0 : Array Value) (hw : ∀ d ∈ tables_1, d.before a0 Z = true) (ws : List Jvm.Cond) (p0 : Int32) (p1 : Int32) (h0 : Heap) (n0 : Nat) (Z0 : n0 ≤ h0.size)  :
    MetFree l (⟨"java/lang/Math", "min", "(II)I"⟩ : MethodName) (head1 (Jvm.Cond.code (⟨"java/lang/Math", "min", "(II)I"⟩ : MethodName) jdk_29_method_69_code 2 (some .int) :: ws) ({ frames := 0, cells := 0, slots := 0, locals := 0 } : Room)) (fun a U => a = #[(.int p0), (.int p1)] ∧ Z.Warmed39 U.vm ∧ U.heap = h0) (fun _ _ _ _ _ => True) (fun _ U o U' => ∃ v L, o = .returned v ∧ (own_Q (some (.int (own_f2 p0 p1))) h0 n0) v U'.heap L ∧ FrameEnd U o U' L ({ frames := 0, cells := 0, slots := 0, locals := 0 } : Room).cells ({ frames := 0, cells := 0, slots := 0, locals := 0 } : Room).slots) := by
  refine MetFree.of_bodySF (Jvm.Free.JP.mathPlain rfl (by decide +kernel)) hisR ?_
  intro p e s m args below meth c s₁ Bd hml0 hP hK
  obtain ⟨rfl, hZ, hh⟩ := hP
  have hx := Bd.exec
  have hby := Bd.bytes
  have hml : c.maxLocals = 2 := hml0
  have hown : s.vm.findClass "java/lang/Math" = some m.cls := findClass_of_methodNamed Bd.named
  have hnm := (name_of_methodNamed Bd.named Bd.method).1
  have X0 : Stand p l e ({ frames := 0, cells := 0, slots := 0, locals := 0 } : Room) s m #[(.int p0), (.int p1)] below meth c s₁ [] 0 0 := Stand.of_body Bd
  have e0 : s₁.heap = h0 := by rw [← hh, Bd.state]; rfl
  have N0 := Fr.nil n0
  refine own_body (QQ := (own_Q (some (.int (own_f2 p0 p1))) h0 n0)) (ef_2 m p0 p1) ?_
  refine own_via (s₁.setTop (mkF m 1 #[.val (.int p0), .val (.int p1)] [(.int p0)])) (fun t k => XS.iloadN X0.here hx rfl (hb hby d2_0) rfl  k) ?_
  refine own_via (s₁.setTop (mkF m 2 #[.val (.int p0), .val (.int p1)] [(.int p1), (.int p0)])) (fun t k => XS.iloadN X0.here hx rfl (hb hby d2_1) rfl  k) ?_
  by_cases hc2_2 : p1 < p0
  · refine own_via (s₁.setTop (mkF m 9 #[.val (.int p0), .val (.int p1)] [])) (fun t k => XS.icmpYes X0.here hx rfl (pc0 := 2) (pc' := 9) rfl (hb hby d2_2) rfl (tlt hc2_2).2.2.1 (by decide) (by decide) k) ?_
    refine own_via (s₁.setTop (mkF m 10 #[.val (.int p0), .val (.int p1)] [(.int p1)])) (fun t k => XS.iloadN X0.here hx rfl (hb hby d2_9) rfl  k) ?_
    refine own_leave X0 Bd.notSynchronized (v := some (.int p1)) (fun h => by rw [Bd.returns] at h; cases h) (fun fs hr => retI X0 hx Bd.returns (hb hby d2_10) hr) ?_ (by decide) (by decide)
    refine ⟨?_, N0, e0⟩
    show some (Value.int _) = some (Value.int _); unfold own_f2; rw [if_pos hc2_2]
  · refine own_via (s₁.setTop (mkF m 5 #[.val (.int p0), .val (.int p1)] [])) (fun t k => XS.icmpNo X0.here hx rfl (hb hby d2_2) rfl (flt hc2_2).2.2.1 k) ?_
    refine own_via (s₁.setTop (mkF m 6 #[.val (.int p0), .val (.int p1)] [(.int p0)])) (fun t k => XS.iloadN X0.here hx rfl (hb hby d2_5) rfl  k) ?_
    refine own_via (s₁.setTop (mkF m 10 #[.val (.int p0), .val (.int p1)] [(.int p0)])) (fun t k => XS.goto X0.here hx rfl (pc0 := 6) (pc' := 10) rfl (hb hby d2_6) (by decide) (by decide) k) ?_
    refine own_leave X0 Bd.notSynchronized (v := some (.int p0)) (fun h => by rw [Bd.returns] at h; cases h) (fun fs hr => retI X0 hx Bd.returns (hb hby d2_10) hr) ?_ (by decide) (by decide)
    refine ⟨?_, N0, e0⟩
    show some (Value.int _) = some (Value.int _); unfold own_f2; rw [if_neg hc2_2]
def own_f3 (p0 : Int32) (p1 : Int32) : Int32 := (if p0 < p1 then p1 else p0)
theorem d3_0 : decode jdk_29_method_65_code 0 = .ok (.iload_n 0, 1) := by decide +kernel
theorem d3_1 : decode jdk_29_method_65_code 1 = .ok (.iload_n 1, 1) := by decide +kernel
theorem d3_2 : decode jdk_29_method_65_code 2 = .ok (.if_icmp .lt 7, 3) := by decide +kernel
theorem d3_5 : decode jdk_29_method_65_code 5 = .ok (.iload_n 0, 1) := by decide +kernel
theorem d3_6 : decode jdk_29_method_65_code 6 = .ok (.goto 4, 3) := by decide +kernel
theorem d3_9 : decode jdk_29_method_65_code 9 = .ok (.iload_n 1, 1) := by decide +kernel
theorem d3_10 : decode jdk_29_method_65_code 10 = .ok (.ireturn, 1) := by decide +kernel
theorem ef_3 (m : MethodId) (p0 : Int32) (p1 : Int32) : entryFrame m #[(.int p0), (.int p1)] 2 = mkF m 0 #[.val (.int p0), .val (.int p1)] [] := by first | (simp [entryFrame, mkF, argsToLocals, Value.category]; done) | rfl
set_option maxRecDepth 65536 in
set_option maxHeartbeats 40000000 in
theorem rm3 (l : Launch) (Z : State) (a0 : Array Value) (hw : ∀ d ∈ tables_1, d.before a0 Z = true) (ws : List Jvm.Cond) (p0 : Int32) (p1 : Int32) (h0 : Heap) (n0 : Nat) (Z0 : n0 ≤ h0.size)  :
    MetFree l (⟨"java/lang/Math", "max", "(II)I"⟩ : MethodName) (head1 (Jvm.Cond.code (⟨"java/lang/Math", "max", "(II)I"⟩ : MethodName) jdk_29_method_65_code 2 (some .int) :: ws) ({ frames := 0, cells := 0, slots := 0, locals := 0 } : Room)) (fun a U => a = #[(.int p0), (.int p1)] ∧ Z.Warmed39 U.vm ∧ U.heap = h0) (fun _ _ _ _ _ => True) (fun _ U o U' => ∃ v L, o = .returned v ∧ (own_Q (some (.int (own_f3 p0 p1))) h0 n0) v U'.heap L ∧ FrameEnd U o U' L ({ frames := 0, cells := 0, slots := 0, locals := 0 } : Room).cells ({ frames := 0, cells := 0, slots := 0, locals := 0 } : Room).slots) := by
  refine MetFree.of_bodySF (Jvm.Free.JP.mathPlain rfl (by decide +kernel)) hisR ?_
  intro p e s m args below meth c s₁ Bd hml0 hP hK
  obtain ⟨rfl, hZ, hh⟩ := hP
  have hx := Bd.exec
  have hby := Bd.bytes
  have hml : c.maxLocals = 2 := hml0
  have hown : s.vm.findClass "java/lang/Math" = some m.cls := findClass_of_methodNamed Bd.named
  have hnm := (name_of_methodNamed Bd.named Bd.method).1
  have X0 : Stand p l e ({ frames := 0, cells := 0, slots := 0, locals := 0 } : Room) s m #[(.int p0), (.int p1)] below meth c s₁ [] 0 0 := Stand.of_body Bd
  have e0 : s₁.heap = h0 := by rw [← hh, Bd.state]; rfl
  have N0 := Fr.nil n0
  refine own_body (QQ := (own_Q (some (.int (own_f3 p0 p1))) h0 n0)) (ef_3 m p0 p1) ?_
  refine own_via (s₁.setTop (mkF m 1 #[.val (.int p0), .val (.int p1)] [(.int p0)])) (fun t k => XS.iloadN X0.here hx rfl (hb hby d3_0) rfl  k) ?_
  refine own_via (s₁.setTop (mkF m 2 #[.val (.int p0), .val (.int p1)] [(.int p1), (.int p0)])) (fun t k => XS.iloadN X0.here hx rfl (hb hby d3_1) rfl  k) ?_
  by_cases hc2_4 : p0 < p1
  · refine own_via (s₁.setTop (mkF m 9 #[.val (.int p0), .val (.int p1)] [])) (fun t k => XS.icmpYes X0.here hx rfl (pc0 := 2) (pc' := 9) rfl (hb hby d3_2) rfl (tlt hc2_4).1 (by decide) (by decide) k) ?_
    refine own_via (s₁.setTop (mkF m 10 #[.val (.int p0), .val (.int p1)] [(.int p1)])) (fun t k => XS.iloadN X0.here hx rfl (hb hby d3_9) rfl  k) ?_
    refine own_leave X0 Bd.notSynchronized (v := some (.int p1)) (fun h => by rw [Bd.returns] at h; cases h) (fun fs hr => retI X0 hx Bd.returns (hb hby d3_10) hr) ?_ (by decide) (by decide)
    refine ⟨?_, N0, e0⟩
    show some (Value.int _) = some (Value.int _); unfold own_f3; rw [if_pos hc2_4]
  · refine own_via (s₁.setTop (mkF m 5 #[.val (.int p0), .val (.int p1)] [])) (fun t k => XS.icmpNo X0.here hx rfl (hb hby d3_2) rfl (flt hc2_4).1 k) ?_
    refine own_via (s₁.setTop (mkF m 6 #[.val (.int p0), .val (.int p1)] [(.int p0)])) (fun t k => XS.iloadN X0.here hx rfl (hb hby d3_5) rfl  k) ?_
    refine own_via (s₁.setTop (mkF m 10 #[.val (.int p0), .val (.int p1)] [(.int p0)])) (fun t k => XS.goto X0.here hx rfl (pc0 := 6) (pc' := 10) rfl (hb hby d3_6) (by decide) (by decide) k) ?_
    refine own_leave X0 Bd.notSynchronized (v := some (.int p0)) (fun h => by rw [Bd.returns] at h; cases h) (fun fs hr => retI X0 hx Bd.returns (hb hby d3_10) hr) ?_ (by decide) (by decide)
    refine ⟨?_, N0, e0⟩
    show some (Value.int _) = some (Value.int _); unfold own_f3; rw [if_neg hc2_4]
def own_Q4 (Z : State) (p0 : Addr) (p1 : Int32) (p2 : Int32) (p3 : Int32) (p4 : Int32)  (h0 : Heap) (n0 : Nat) (v : Option Value) (h : Heap) (L : List Loc) : Prop := v = none ∧ Fr n0 L ∧ Keep h0 h [p0] ∧ Exa Z h p0 "com/example/rondo/rondo/Rect" ∧ Fld Z h p0 "com/example/rondo/rondo/Rect" "left" "I" (.int p1) ∧ Fld Z h p0 "com/example/rondo/rondo/Rect" "top" "I" (.int p2) ∧ Fld Z h p0 "com/example/rondo/rondo/Rect" "right" "I" (.int p3) ∧ Fld Z h p0 "com/example/rondo/rondo/Rect" "bottom" "I" (.int p4)
theorem d4_0 : decode prog_40_method_1_code 0 = .ok (.aload_n 0, 1) := by decide +kernel
theorem d4_1 : decode prog_40_method_1_code 1 = .ok (.invokespecial 1, 3) := by decide +kernel
theorem d4_4 : decode prog_40_method_1_code 4 = .ok (.iload_n 3, 1) := by decide +kernel
theorem d4_5 : decode prog_40_method_1_code 5 = .ok (.iload_n 1, 1) := by decide +kernel
theorem d4_6 : decode prog_40_method_1_code 6 = .ok (.if_icmp .ge 24, 3) := by decide +kernel
theorem d4_30 : decode prog_40_method_1_code 30 = .ok (.iload 4, 2) := by decide +kernel
theorem d4_32 : decode prog_40_method_1_code 32 = .ok (.iload_n 2, 1) := by decide +kernel
theorem d4_33 : decode prog_40_method_1_code 33 = .ok (.if_icmp .ge 24, 3) := by decide +kernel
theorem d4_57 : decode prog_40_method_1_code 57 = .ok (.aload_n 0, 1) := by decide +kernel
theorem d4_58 : decode prog_40_method_1_code 58 = .ok (.iload_n 1, 1) := by decide +kernel
theorem d4_59 : decode prog_40_method_1_code 59 = .ok (.putfield 23, 3) := by decide +kernel
theorem d4_62 : decode prog_40_method_1_code 62 = .ok (.aload_n 0, 1) := by decide +kernel
theorem d4_63 : decode prog_40_method_1_code 63 = .ok (.iload_n 2, 1) := by decide +kernel
theorem d4_64 : decode prog_40_method_1_code 64 = .ok (.putfield 27, 3) := by decide +kernel
theorem d4_67 : decode prog_40_method_1_code 67 = .ok (.aload_n 0, 1) := by decide +kernel
theorem d4_68 : decode prog_40_method_1_code 68 = .ok (.iload_n 3, 1) := by decide +kernel
theorem d4_69 : decode prog_40_method_1_code 69 = .ok (.putfield 30, 3) := by decide +kernel
theorem d4_72 : decode prog_40_method_1_code 72 = .ok (.aload_n 0, 1) := by decide +kernel
theorem d4_73 : decode prog_40_method_1_code 73 = .ok (.iload 4, 2) := by decide +kernel
theorem d4_75 : decode prog_40_method_1_code 75 = .ok (.putfield 33, 3) := by decide +kernel
theorem d4_78 : decode prog_40_method_1_code 78 = .ok (.return_, 1) := by decide +kernel
theorem pn_com_example_rondo_rondo_Rect : plainName "com/example/rondo/rondo/Rect" = true := by first | (simp [plainName, overriddenIn]; done) | decide +kernel
theorem ef_4 (m : MethodId) (p0 : Addr) (p1 : Int32) (p2 : Int32) (p3 : Int32) (p4 : Int32) : entryFrame m #[(.ref p0), (.int p1), (.int p2), (.int p3), (.int p4)] 5 = mkF m 0 #[.val (.ref p0), .val (.int p1), .val (.int p2), .val (.int p3), .val (.int p4)] [] := by first | (simp [entryFrame, mkF, argsToLocals, Value.category]; done) | rfl
set_option maxRecDepth 65536 in
set_option maxHeartbeats 40000000 in
theorem rm4 (l : Launch) (Z : State) (a0 : Array Value) (hw : ∀ d ∈ tables_1, d.before a0 Z = true) (ws : List Jvm.Cond) (p0 : Addr) (p1 : Int32) (p2 : Int32) (p3 : Int32) (p4 : Int32) (h0 : Heap) (n0 : Nat) (Z0 : n0 ≤ h0.size) (P0 : Fld Z h0 p0 "com/example/rondo/rondo/Rect" "left" "I" (.int (0 : Int32))) (P1 : Fld Z h0 p0 "com/example/rondo/rondo/Rect" "top" "I" (.int (0 : Int32))) (P2 : Fld Z h0 p0 "com/example/rondo/rondo/Rect" "right" "I" (.int (0 : Int32))) (P3 : Fld Z h0 p0 "com/example/rondo/rondo/Rect" "bottom" "I" (.int (0 : Int32))) (P4 : Exa Z h0 p0 "com/example/rondo/rondo/Rect") (gg_p0 : n0 ≤ p0) (hx1 : ¬ p3 < p1) (hx2 : ¬ p4 < p2) :
    MetFree l (⟨"com/example/rondo/rondo/Rect", "<init>", "(IIII)V"⟩ : MethodName) (head1 (Jvm.Cond.code (⟨"com/example/rondo/rondo/Rect", "<init>", "(IIII)V"⟩ : MethodName) prog_40_method_1_code 5 none :: ws) ({ frames := 1, cells := 0, slots := 0, locals := 12 } : Room)) (fun a U => a = #[(.ref p0), (.int p1), (.int p2), (.int p3), (.int p4)] ∧ Z.Warmed39 U.vm ∧ U.heap = h0) (fun _ _ _ _ _ => True) (fun _ U o U' => ∃ v L, o = .returned v ∧ (own_Q4 Z p0 p1 p2 p3 p4  h0 n0) v U'.heap L ∧ FrameEnd U o U' L ({ frames := 1, cells := 0, slots := 0, locals := 12 } : Room).cells ({ frames := 1, cells := 0, slots := 0, locals := 12 } : Room).slots) := by
  refine MetFree.of_bodySF (plainFor_of_name pn_com_example_rondo_rondo_Rect) hisR ?_
  intro p e s m args below meth c s₁ Bd hml0 hP hK
  obtain ⟨rfl, hZ, hh⟩ := hP
  have hx := Bd.exec
  have hby := Bd.bytes
  have hml : c.maxLocals = 5 := hml0
  have hown : s.vm.findClass "com/example/rondo/rondo/Rect" = some m.cls := findClass_of_methodNamed Bd.named
  have hnm := (name_of_methodNamed Bd.named Bd.method).1
  have X0 : Stand p l e ({ frames := 1, cells := 0, slots := 0, locals := 12 } : Room) s m #[(.ref p0), (.int p1), (.int p2), (.int p3), (.int p4)] below meth c s₁ [] 0 0 := Stand.of_body Bd
  have e0 : s₁.heap = h0 := by rw [← hh, Bd.state]; rfl
  have N0 := Fr.nil n0
  refine own_body (QQ := (own_Q4 Z p0 p1 p2 p3 p4  h0 n0)) (ef_4 m p0 p1 p2 p3 p4) ?_
  refine own_via (s₁.setTop (mkF m 1 #[.val (.ref p0), .val (.int p1), .val (.int p2), .val (.int p3), .val (.int p4)] [(.ref p0)])) (fun t k => XS.aloadN X0.here hx rfl (hb hby d4_0) rfl rfl k) ?_
  obtain ⟨T5, X5, e5, st5⟩ := initO X0 hx hZ hown (hw _ (List.mem_of_getElem? (i := 17) rfl)) (hw _ (List.mem_of_getElem? (i := 18) rfl)) (hw _ (List.mem_of_getElem? (i := 19) rfl)) e0 (g := (mkF m 1 #[.val (.ref p0), .val (.int p1), .val (.int p2), .val (.int p3), .val (.int p4)] [(.ref p0)])) rfl (by rw [hml]; rfl) rfl (hb hby d4_1) (by decide) (W := 0) (by show 2 * 0 + _ ≤ _; exact Nat.le_of_eq rfl) (by decide)
  refine own_via (T5.setTop (mkF m 4 #[.val (.ref p0), .val (.int p1), .val (.int p2), .val (.int p3), .val (.int p4)] [])) (fun t k => st5 t k) ?_
  refine own_via (T5.setTop (mkF m 5 #[.val (.ref p0), .val (.int p1), .val (.int p2), .val (.int p3), .val (.int p4)] [(.int p3)])) (fun t k => XS.iloadN X5.here hx rfl (hb hby d4_4) rfl  k) ?_
  refine own_via (T5.setTop (mkF m 6 #[.val (.ref p0), .val (.int p1), .val (.int p2), .val (.int p3), .val (.int p4)] [(.int p1), (.int p3)])) (fun t k => XS.iloadN X5.here hx rfl (hb hby d4_5) rfl  k) ?_
  refine own_via (T5.setTop (mkF m 30 #[.val (.ref p0), .val (.int p1), .val (.int p2), .val (.int p3), .val (.int p4)] [])) (fun t k => XS.icmpYes X5.here hx rfl (pc0 := 6) (pc' := 30) rfl (hb hby d4_6) rfl (flt hx1).2.1 (by decide) (by decide) k) ?_
  refine own_via (T5.setTop (mkF m 32 #[.val (.ref p0), .val (.int p1), .val (.int p2), .val (.int p3), .val (.int p4)] [(.int p4)])) (fun t k => XS.iload X5.here hx rfl (hb hby d4_30) rfl  k) ?_
  refine own_via (T5.setTop (mkF m 33 #[.val (.ref p0), .val (.int p1), .val (.int p2), .val (.int p3), .val (.int p4)] [(.int p2), (.int p4)])) (fun t k => XS.iloadN X5.here hx rfl (hb hby d4_32) rfl  k) ?_
  refine own_via (T5.setTop (mkF m 57 #[.val (.ref p0), .val (.int p1), .val (.int p2), .val (.int p3), .val (.int p4)] [])) (fun t k => XS.icmpYes X5.here hx rfl (pc0 := 33) (pc' := 57) rfl (hb hby d4_33) rfl (flt hx2).2.1 (by decide) (by decide) k) ?_
  refine own_via (T5.setTop (mkF m 58 #[.val (.ref p0), .val (.int p1), .val (.int p2), .val (.int p3), .val (.int p4)] [(.ref p0)])) (fun t k => XS.aloadN X5.here hx rfl (hb hby d4_57) rfl rfl k) ?_
  refine own_via (T5.setTop (mkF m 59 #[.val (.ref p0), .val (.int p1), .val (.int p2), .val (.int p3), .val (.int p4)] [(.int p1), (.ref p0)])) (fun t k => XS.iloadN X5.here hx rfl (hb hby d4_58) rfl  k) ?_
  obtain ⟨T6, h6, X6, e6, W6, st6⟩ := putF X5 hx hZ hown (host := "") (Or.inl (hw _ (List.mem_of_getElem? (i := 20) rfl))) Via.refl e5 P0 P4 (Or.inr ⟨(hw _ (List.mem_of_getElem? (i := 21) rfl)), rfl, hnm⟩) (hw _ (List.mem_of_getElem? (i := 5) rfl)) (ty := .int) (by decide) rfl rfl (g := (mkF m 59 #[.val (.ref p0), .val (.int p1), .val (.int p2), .val (.int p3), .val (.int p4)] [(.int p1), (.ref p0)])) rfl rfl (hb hby d4_59)
  have Fw6 := P0.same W6
  have N6 := Fr.snoc X6 N0 gg_p0
  have K7 : Keep h0 h6 [p0] := (Keep.refl h0 [p0]).wr W6 (Or.inl (List.mem_of_getElem? (i := 0) rfl))
  refine own_via (T6.setTop (mkF m 62 #[.val (.ref p0), .val (.int p1), .val (.int p2), .val (.int p3), .val (.int p4)] [])) (fun t k => st6 t k) ?_
  refine own_via (T6.setTop (mkF m 63 #[.val (.ref p0), .val (.int p1), .val (.int p2), .val (.int p3), .val (.int p4)] [(.ref p0)])) (fun t k => XS.aloadN X6.here hx rfl (hb hby d4_62) rfl rfl k) ?_
  refine own_via (T6.setTop (mkF m 64 #[.val (.ref p0), .val (.int p1), .val (.int p2), .val (.int p3), .val (.int p4)] [(.int p2), (.ref p0)])) (fun t k => XS.iloadN X6.here hx rfl (hb hby d4_63) rfl  k) ?_
  have F9 := (P1.other W6 (Or.inr (slot_ne (Or.inr (hw _ (List.mem_of_getElem? (i := 23) rfl))) (Or.inr (hw _ (List.mem_of_getElem? (i := 21) rfl))) (by decide) (t := .int) (t' := .int) (by decide) (by decide))))
  have F10 := (P4.wr W6)
  obtain ⟨T8, h8, X8, e8, W8, st8⟩ := putF X6 hx hZ hown (host := "") (Or.inl (hw _ (List.mem_of_getElem? (i := 22) rfl))) Via.refl e6 F9 F10 (Or.inr ⟨(hw _ (List.mem_of_getElem? (i := 23) rfl)), rfl, hnm⟩) (hw _ (List.mem_of_getElem? (i := 5) rfl)) (ty := .int) (by decide) rfl rfl (g := (mkF m 64 #[.val (.ref p0), .val (.int p1), .val (.int p2), .val (.int p3), .val (.int p4)] [(.int p2), (.ref p0)])) rfl rfl (hb hby d4_64)
  have Fw8 := F9.same W8
  have N8 := Fr.snoc X8 N6 gg_p0
  have K11 : Keep h0 h8 [p0] := K7.wr W8 (Or.inl (List.mem_of_getElem? (i := 0) rfl))
  refine own_via (T8.setTop (mkF m 67 #[.val (.ref p0), .val (.int p1), .val (.int p2), .val (.int p3), .val (.int p4)] [])) (fun t k => st8 t k) ?_
  refine own_via (T8.setTop (mkF m 68 #[.val (.ref p0), .val (.int p1), .val (.int p2), .val (.int p3), .val (.int p4)] [(.ref p0)])) (fun t k => XS.aloadN X8.here hx rfl (hb hby d4_67) rfl rfl k) ?_
  refine own_via (T8.setTop (mkF m 69 #[.val (.ref p0), .val (.int p1), .val (.int p2), .val (.int p3), .val (.int p4)] [(.int p3), (.ref p0)])) (fun t k => XS.iloadN X8.here hx rfl (hb hby d4_68) rfl  k) ?_
  have F13 := ((P2.other W6 (Or.inr (slot_ne (Or.inr (hw _ (List.mem_of_getElem? (i := 25) rfl))) (Or.inr (hw _ (List.mem_of_getElem? (i := 21) rfl))) (by decide) (t := .int) (t' := .int) (by decide) (by decide)))).other W8 (Or.inr (slot_ne (Or.inr (hw _ (List.mem_of_getElem? (i := 25) rfl))) (Or.inr (hw _ (List.mem_of_getElem? (i := 23) rfl))) (by decide) (t := .int) (t' := .int) (by decide) (by decide))))
  have F14 := (F10.wr W8)
  obtain ⟨T12, h12, X12, e12, W12, st12⟩ := putF X8 hx hZ hown (host := "") (Or.inl (hw _ (List.mem_of_getElem? (i := 24) rfl))) Via.refl e8 F13 F14 (Or.inr ⟨(hw _ (List.mem_of_getElem? (i := 25) rfl)), rfl, hnm⟩) (hw _ (List.mem_of_getElem? (i := 5) rfl)) (ty := .int) (by decide) rfl rfl (g := (mkF m 69 #[.val (.ref p0), .val (.int p1), .val (.int p2), .val (.int p3), .val (.int p4)] [(.int p3), (.ref p0)])) rfl rfl (hb hby d4_69)
  have Fw12 := F13.same W12
  have N12 := Fr.snoc X12 N8 gg_p0
  have K15 : Keep h0 h12 [p0] := K11.wr W12 (Or.inl (List.mem_of_getElem? (i := 0) rfl))
  refine own_via (T12.setTop (mkF m 72 #[.val (.ref p0), .val (.int p1), .val (.int p2), .val (.int p3), .val (.int p4)] [])) (fun t k => st12 t k) ?_
  refine own_via (T12.setTop (mkF m 73 #[.val (.ref p0), .val (.int p1), .val (.int p2), .val (.int p3), .val (.int p4)] [(.ref p0)])) (fun t k => XS.aloadN X12.here hx rfl (hb hby d4_72) rfl rfl k) ?_
  refine own_via (T12.setTop (mkF m 75 #[.val (.ref p0), .val (.int p1), .val (.int p2), .val (.int p3), .val (.int p4)] [(.int p4), (.ref p0)])) (fun t k => XS.iload X12.here hx rfl (hb hby d4_73) rfl  k) ?_
  have F17 := (((P3.other W6 (Or.inr (slot_ne (Or.inr (hw _ (List.mem_of_getElem? (i := 27) rfl))) (Or.inr (hw _ (List.mem_of_getElem? (i := 21) rfl))) (by decide) (t := .int) (t' := .int) (by decide) (by decide)))).other W8 (Or.inr (slot_ne (Or.inr (hw _ (List.mem_of_getElem? (i := 27) rfl))) (Or.inr (hw _ (List.mem_of_getElem? (i := 23) rfl))) (by decide) (t := .int) (t' := .int) (by decide) (by decide)))).other W12 (Or.inr (slot_ne (Or.inr (hw _ (List.mem_of_getElem? (i := 27) rfl))) (Or.inr (hw _ (List.mem_of_getElem? (i := 25) rfl))) (by decide) (t := .int) (t' := .int) (by decide) (by decide))))
  have F18 := (F14.wr W12)
  obtain ⟨T16, h16, X16, e16, W16, st16⟩ := putF X12 hx hZ hown (host := "") (Or.inl (hw _ (List.mem_of_getElem? (i := 26) rfl))) Via.refl e12 F17 F18 (Or.inr ⟨(hw _ (List.mem_of_getElem? (i := 27) rfl)), rfl, hnm⟩) (hw _ (List.mem_of_getElem? (i := 5) rfl)) (ty := .int) (by decide) rfl rfl (g := (mkF m 75 #[.val (.ref p0), .val (.int p1), .val (.int p2), .val (.int p3), .val (.int p4)] [(.int p4), (.ref p0)])) rfl rfl (hb hby d4_75)
  have Fw16 := F17.same W16
  have N16 := Fr.snoc X16 N12 gg_p0
  have K19 : Keep h0 h16 [p0] := K15.wr W16 (Or.inl (List.mem_of_getElem? (i := 0) rfl))
  refine own_via (T16.setTop (mkF m 78 #[.val (.ref p0), .val (.int p1), .val (.int p2), .val (.int p3), .val (.int p4)] [])) (fun t k => st16 t k) ?_
  refine own_leave X16 Bd.notSynchronized (v := none) (fun _ => rfl) (fun fs hr => X16.returnOut hx Bd.returns (hb hby d4_78) hr) ?_ (by decide) (by decide)
  have F20 := (F18.wr W16)
  have F21 := (((Fw6.other W8 (Or.inr (slot_ne (Or.inr (hw _ (List.mem_of_getElem? (i := 21) rfl))) (Or.inr (hw _ (List.mem_of_getElem? (i := 23) rfl))) (by decide) (t := .int) (t' := .int) (by decide) (by decide)))).other W12 (Or.inr (slot_ne (Or.inr (hw _ (List.mem_of_getElem? (i := 21) rfl))) (Or.inr (hw _ (List.mem_of_getElem? (i := 25) rfl))) (by decide) (t := .int) (t' := .int) (by decide) (by decide)))).other W16 (Or.inr (slot_ne (Or.inr (hw _ (List.mem_of_getElem? (i := 21) rfl))) (Or.inr (hw _ (List.mem_of_getElem? (i := 27) rfl))) (by decide) (t := .int) (t' := .int) (by decide) (by decide))))
  have F22 := ((Fw8.other W12 (Or.inr (slot_ne (Or.inr (hw _ (List.mem_of_getElem? (i := 23) rfl))) (Or.inr (hw _ (List.mem_of_getElem? (i := 25) rfl))) (by decide) (t := .int) (t' := .int) (by decide) (by decide)))).other W16 (Or.inr (slot_ne (Or.inr (hw _ (List.mem_of_getElem? (i := 23) rfl))) (Or.inr (hw _ (List.mem_of_getElem? (i := 27) rfl))) (by decide) (t := .int) (t' := .int) (by decide) (by decide))))
  have F23 := (Fw12.other W16 (Or.inr (slot_ne (Or.inr (hw _ (List.mem_of_getElem? (i := 25) rfl))) (Or.inr (hw _ (List.mem_of_getElem? (i := 27) rfl))) (by decide) (t := .int) (t' := .int) (by decide) (by decide))))
  show (own_Q4 Z p0 p1 p2 p3 p4  h0 n0) _ T16.heap _
  rw [e16]
  exact ⟨rfl, N16, K19, F20, F21, F22, F23, Fw16⟩
theorem own_mm (a b : Int32) : ¬ (own_f3 a b) < (own_f2 a b) := by
  unfold own_f3 own_f2
  simp only [Int32.lt_iff_toInt_lt]
  repeat' split
  all_goals omega
theorem own_min (a b : Int32) : own_f2 a b = a ↔ ¬ b < a := by
  unfold own_f2
  simp only [Int32.lt_iff_toInt_lt, ← Int32.toInt_inj]
  split <;> omega
theorem own_max (a b : Int32) : own_f3 a b = a ↔ ¬ a < b := by
  unfold own_f3
  simp only [Int32.lt_iff_toInt_lt, ← Int32.toInt_inj]
  split <;> omega
def own_Q1 (Z : State) (p0 : Int64) (p1 : Int64)  (h0 : Heap) (n0 : Nat) (v : Option Value) (h : Heap) (L : List Loc) : Prop := ∃ (r : Addr), v = some (.ref r) ∧ Fr n0 L ∧ Keep h0 h [] ∧ n0 ≤ r ∧ h0.size ≤ r ∧ Exa Z h r "com/example/rondo/rondo/Rect" ∧ Fld Z h r "com/example/rondo/rondo/Rect" "left" "I" (.int (own_f2 (p0.toInt32) (((p0.toUInt64 >>> ((32 : Int32) &&& 0x3f).toInt64.toUInt64).toInt64).toInt32))) ∧ Fld Z h r "com/example/rondo/rondo/Rect" "top" "I" (.int (own_f2 (p1.toInt32) (((p1.toUInt64 >>> ((32 : Int32) &&& 0x3f).toInt64.toUInt64).toInt64).toInt32))) ∧ Fld Z h r "com/example/rondo/rondo/Rect" "right" "I" (.int (own_f3 (p0.toInt32) (((p0.toUInt64 >>> ((32 : Int32) &&& 0x3f).toInt64.toUInt64).toInt64).toInt32))) ∧ Fld Z h r "com/example/rondo/rondo/Rect" "bottom" "I" (.int (own_f3 (p1.toInt32) (((p1.toUInt64 >>> ((32 : Int32) &&& 0x3f).toInt64.toUInt64).toInt64).toInt32)))
theorem d1_0 : decode method_2_code 0 = .ok (.lload_n 0, 1) := by decide +kernel
theorem d1_1 : decode method_2_code 1 = .ok (.l2i, 1) := by decide +kernel
theorem d1_2 : decode method_2_code 2 = .ok (.istore 4, 2) := by decide +kernel
theorem d1_4 : decode method_2_code 4 = .ok (.lload_n 0, 1) := by decide +kernel
theorem d1_5 : decode method_2_code 5 = .ok (.bipush 32, 2) := by decide +kernel
theorem d1_7 : decode method_2_code 7 = .ok (.lushr, 1) := by decide +kernel
theorem d1_8 : decode method_2_code 8 = .ok (.l2i, 1) := by decide +kernel
theorem d1_9 : decode method_2_code 9 = .ok (.istore 5, 2) := by decide +kernel
theorem d1_11 : decode method_2_code 11 = .ok (.lload_n 2, 1) := by decide +kernel
theorem d1_12 : decode method_2_code 12 = .ok (.l2i, 1) := by decide +kernel
theorem d1_13 : decode method_2_code 13 = .ok (.istore 6, 2) := by decide +kernel
theorem d1_15 : decode method_2_code 15 = .ok (.lload_n 2, 1) := by decide +kernel
theorem d1_16 : decode method_2_code 16 = .ok (.bipush 32, 2) := by decide +kernel
theorem d1_18 : decode method_2_code 18 = .ok (.lushr, 1) := by decide +kernel
theorem d1_19 : decode method_2_code 19 = .ok (.l2i, 1) := by decide +kernel
theorem d1_20 : decode method_2_code 20 = .ok (.istore 7, 2) := by decide +kernel
theorem d1_22 : decode method_2_code 22 = .ok (.new 7, 3) := by decide +kernel
theorem d1_25 : decode method_2_code 25 = .ok (.dup, 1) := by decide +kernel
theorem d1_26 : decode method_2_code 26 = .ok (.iload 4, 2) := by decide +kernel
theorem d1_28 : decode method_2_code 28 = .ok (.iload 5, 2) := by decide +kernel
theorem d1_30 : decode method_2_code 30 = .ok (.invokestatic 9, 3) := by decide +kernel
theorem d1_33 : decode method_2_code 33 = .ok (.iload 6, 2) := by decide +kernel
theorem d1_35 : decode method_2_code 35 = .ok (.iload 7, 2) := by decide +kernel
theorem d1_37 : decode method_2_code 37 = .ok (.invokestatic 9, 3) := by decide +kernel
theorem d1_40 : decode method_2_code 40 = .ok (.iload 4, 2) := by decide +kernel
theorem d1_42 : decode method_2_code 42 = .ok (.iload 5, 2) := by decide +kernel
theorem d1_44 : decode method_2_code 44 = .ok (.invokestatic 15, 3) := by decide +kernel
theorem d1_47 : decode method_2_code 47 = .ok (.iload 6, 2) := by decide +kernel
theorem d1_49 : decode method_2_code 49 = .ok (.iload 7, 2) := by decide +kernel
theorem d1_51 : decode method_2_code 51 = .ok (.invokestatic 15, 3) := by decide +kernel
theorem d1_54 : decode method_2_code 54 = .ok (.invokespecial 18, 3) := by decide +kernel
theorem d1_57 : decode method_2_code 57 = .ok (.areturn, 1) := by decide +kernel
theorem pd_0 : parseMethodDescriptor "(II)I" = some ⟨[.int, .int], some .int⟩ := by decide +kernel
theorem pd_1 : parseMethodDescriptor "(IIII)V" = some ⟨[.int, .int, .int, .int], none⟩ := by decide +kernel
theorem pn_com_example_rondo_rondo_RectContainsPinLaw : plainName "com/example/rondo/rondo/RectContainsPinLaw" = true := by first | (simp [plainName, overriddenIn]; done) | decide +kernel
theorem ef_1 (m : MethodId) (p0 : Int64) (p1 : Int64) : entryFrame m #[(.long p0), (.long p1)] 8 = mkF m 0 #[.val (.long p0), .second, .val (.long p1), .second, .unset, .unset, .unset, .unset] [] := by first | (simp [entryFrame, mkF, argsToLocals, Value.category]; done) | rfl
set_option maxRecDepth 65536 in
set_option maxHeartbeats 40000000 in
theorem rm1 (l : Launch) (Z : State) (a0 : Array Value) (hw : ∀ d ∈ tables_1, d.before a0 Z = true) (ws : List Jvm.Cond) (p0 : Int64) (p1 : Int64) (h0 : Heap) (n0 : Nat) (Z0 : n0 ≤ h0.size)  :
    MetFree l (⟨"com/example/rondo/rondo/RectContainsPinLaw", "make", "(JJ)Lcom/example/rondo/rondo/Rect;"⟩ : MethodName) (head1 (Jvm.Cond.code (⟨"com/example/rondo/rondo/RectContainsPinLaw", "make", "(JJ)Lcom/example/rondo/rondo/Rect;"⟩ : MethodName) method_2_code 8 (some (.object "com/example/rondo/rondo/Rect")) :: ws) ({ frames := 2, cells := 1, slots := 4, locals := 29 } : Room)) (fun a U => a = #[(.long p0), (.long p1)] ∧ Z.Warmed39 U.vm ∧ U.heap = h0) (fun _ _ _ _ _ => True) (fun _ U o U' => ∃ v L, o = .returned v ∧ (own_Q1 Z p0 p1  h0 n0) v U'.heap L ∧ FrameEnd U o U' L ({ frames := 2, cells := 1, slots := 4, locals := 29 } : Room).cells ({ frames := 2, cells := 1, slots := 4, locals := 29 } : Room).slots) := by
  refine MetFree.of_bodySF (plainFor_of_name pn_com_example_rondo_rondo_RectContainsPinLaw) hisR ?_
  intro p e s m args below meth c s₁ Bd hml0 hP hK
  obtain ⟨rfl, hZ, hh⟩ := hP
  have hx := Bd.exec
  have hby := Bd.bytes
  have hml : c.maxLocals = 8 := hml0
  have hown : s.vm.findClass "com/example/rondo/rondo/RectContainsPinLaw" = some m.cls := findClass_of_methodNamed Bd.named
  have hnm := (name_of_methodNamed Bd.named Bd.method).1
  have X0 : Stand p l e ({ frames := 2, cells := 1, slots := 4, locals := 29 } : Room) s m #[(.long p0), (.long p1)] below meth c s₁ [] 0 0 := Stand.of_body Bd
  have e0 : s₁.heap = h0 := by rw [← hh, Bd.state]; rfl
  have N0 := Fr.nil n0
  refine own_body (QQ := (own_Q1 Z p0 p1  h0 n0)) (ef_1 m p0 p1) ?_
  refine own_via (s₁.setTop (mkF m 1 #[.val (.long p0), .second, .val (.long p1), .second, .unset, .unset, .unset, .unset] [(.long p0)])) (fun t k => XS.lloadN X0.here hx rfl (hb hby d1_0) rfl  k) ?_
  refine own_via (s₁.setTop (mkF m 2 #[.val (.long p0), .second, .val (.long p1), .second, .unset, .unset, .unset, .unset] [(.int (p0.toInt32))])) (fun t k => XS.l2i X0.here hx rfl (hb hby d1_1) rfl k) ?_
  refine own_via (s₁.setTop (mkF m 4 #[.val (.long p0), .second, .val (.long p1), .second, .val (.int (p0.toInt32)), .unset, .unset, .unset] [])) (fun t k => XS.istore X0.here hx rfl (hb hby d1_2) rfl (l' := #[.val (.long p0), .second, .val (.long p1), .second, .val (.int (p0.toInt32)), .unset, .unset, .unset]) rfl k) ?_
  refine own_via (s₁.setTop (mkF m 5 #[.val (.long p0), .second, .val (.long p1), .second, .val (.int (p0.toInt32)), .unset, .unset, .unset] [(.long p0)])) (fun t k => XS.lloadN X0.here hx rfl (hb hby d1_4) rfl  k) ?_
  refine own_via (s₁.setTop (mkF m 7 #[.val (.long p0), .second, .val (.long p1), .second, .val (.int (p0.toInt32)), .unset, .unset, .unset] [(.int (32 : Int32)), (.long p0)])) (fun t k => XS.bipush X0.here hx rfl (hb hby d1_5) k) ?_
  refine own_via (s₁.setTop (mkF m 8 #[.val (.long p0), .second, .val (.long p1), .second, .val (.int (p0.toInt32)), .unset, .unset, .unset] [(.long ((p0.toUInt64 >>> ((32 : Int32) &&& 0x3f).toInt64.toUInt64).toInt64))])) (fun t k => XS.lushr X0.here hx rfl (hb hby d1_7) rfl k) ?_
  refine own_via (s₁.setTop (mkF m 9 #[.val (.long p0), .second, .val (.long p1), .second, .val (.int (p0.toInt32)), .unset, .unset, .unset] [(.int (((p0.toUInt64 >>> ((32 : Int32) &&& 0x3f).toInt64.toUInt64).toInt64).toInt32))])) (fun t k => XS.l2i X0.here hx rfl (hb hby d1_8) rfl k) ?_
  refine own_via (s₁.setTop (mkF m 11 #[.val (.long p0), .second, .val (.long p1), .second, .val (.int (p0.toInt32)), .val (.int (((p0.toUInt64 >>> ((32 : Int32) &&& 0x3f).toInt64.toUInt64).toInt64).toInt32)), .unset, .unset] [])) (fun t k => XS.istore X0.here hx rfl (hb hby d1_9) rfl (l' := #[.val (.long p0), .second, .val (.long p1), .second, .val (.int (p0.toInt32)), .val (.int (((p0.toUInt64 >>> ((32 : Int32) &&& 0x3f).toInt64.toUInt64).toInt64).toInt32)), .unset, .unset]) rfl k) ?_
  refine own_via (s₁.setTop (mkF m 12 #[.val (.long p0), .second, .val (.long p1), .second, .val (.int (p0.toInt32)), .val (.int (((p0.toUInt64 >>> ((32 : Int32) &&& 0x3f).toInt64.toUInt64).toInt64).toInt32)), .unset, .unset] [(.long p1)])) (fun t k => XS.lloadN X0.here hx rfl (hb hby d1_11) rfl  k) ?_
  refine own_via (s₁.setTop (mkF m 13 #[.val (.long p0), .second, .val (.long p1), .second, .val (.int (p0.toInt32)), .val (.int (((p0.toUInt64 >>> ((32 : Int32) &&& 0x3f).toInt64.toUInt64).toInt64).toInt32)), .unset, .unset] [(.int (p1.toInt32))])) (fun t k => XS.l2i X0.here hx rfl (hb hby d1_12) rfl k) ?_
  refine own_via (s₁.setTop (mkF m 15 #[.val (.long p0), .second, .val (.long p1), .second, .val (.int (p0.toInt32)), .val (.int (((p0.toUInt64 >>> ((32 : Int32) &&& 0x3f).toInt64.toUInt64).toInt64).toInt32)), .val (.int (p1.toInt32)), .unset] [])) (fun t k => XS.istore X0.here hx rfl (hb hby d1_13) rfl (l' := #[.val (.long p0), .second, .val (.long p1), .second, .val (.int (p0.toInt32)), .val (.int (((p0.toUInt64 >>> ((32 : Int32) &&& 0x3f).toInt64.toUInt64).toInt64).toInt32)), .val (.int (p1.toInt32)), .unset]) rfl k) ?_
  refine own_via (s₁.setTop (mkF m 16 #[.val (.long p0), .second, .val (.long p1), .second, .val (.int (p0.toInt32)), .val (.int (((p0.toUInt64 >>> ((32 : Int32) &&& 0x3f).toInt64.toUInt64).toInt64).toInt32)), .val (.int (p1.toInt32)), .unset] [(.long p1)])) (fun t k => XS.lloadN X0.here hx rfl (hb hby d1_15) rfl  k) ?_
  refine own_via (s₁.setTop (mkF m 18 #[.val (.long p0), .second, .val (.long p1), .second, .val (.int (p0.toInt32)), .val (.int (((p0.toUInt64 >>> ((32 : Int32) &&& 0x3f).toInt64.toUInt64).toInt64).toInt32)), .val (.int (p1.toInt32)), .unset] [(.int (32 : Int32)), (.long p1)])) (fun t k => XS.bipush X0.here hx rfl (hb hby d1_16) k) ?_
  refine own_via (s₁.setTop (mkF m 19 #[.val (.long p0), .second, .val (.long p1), .second, .val (.int (p0.toInt32)), .val (.int (((p0.toUInt64 >>> ((32 : Int32) &&& 0x3f).toInt64.toUInt64).toInt64).toInt32)), .val (.int (p1.toInt32)), .unset] [(.long ((p1.toUInt64 >>> ((32 : Int32) &&& 0x3f).toInt64.toUInt64).toInt64))])) (fun t k => XS.lushr X0.here hx rfl (hb hby d1_18) rfl k) ?_
  refine own_via (s₁.setTop (mkF m 20 #[.val (.long p0), .second, .val (.long p1), .second, .val (.int (p0.toInt32)), .val (.int (((p0.toUInt64 >>> ((32 : Int32) &&& 0x3f).toInt64.toUInt64).toInt64).toInt32)), .val (.int (p1.toInt32)), .unset] [(.int (((p1.toUInt64 >>> ((32 : Int32) &&& 0x3f).toInt64.toUInt64).toInt64).toInt32))])) (fun t k => XS.l2i X0.here hx rfl (hb hby d1_19) rfl k) ?_
  refine own_via (s₁.setTop (mkF m 22 #[.val (.long p0), .second, .val (.long p1), .second, .val (.int (p0.toInt32)), .val (.int (((p0.toUInt64 >>> ((32 : Int32) &&& 0x3f).toInt64.toUInt64).toInt64).toInt32)), .val (.int (p1.toInt32)), .val (.int (((p1.toUInt64 >>> ((32 : Int32) &&& 0x3f).toInt64.toUInt64).toInt64).toInt32))] [])) (fun t k => XS.istore X0.here hx rfl (hb hby d1_20) rfl (l' := #[.val (.long p0), .second, .val (.long p1), .second, .val (.int (p0.toInt32)), .val (.int (((p0.toUInt64 >>> ((32 : Int32) &&& 0x3f).toInt64.toUInt64).toInt64).toInt32)), .val (.int (p1.toInt32)), .val (.int (((p1.toUInt64 >>> ((32 : Int32) &&& 0x3f).toInt64.toUInt64).toInt64).toInt32))]) rfl k) ?_
  obtain ⟨T24, h24, X24, e24, E24, A24, D24, -, st24⟩ := newO X0 hx hZ hown (hw _ (List.mem_of_getElem? (i := 4) rfl)) (hw _ (List.mem_of_getElem? (i := 5) rfl)) (hw _ (List.mem_of_getElem? (i := 6) rfl)) e0 (g := (mkF m 22 #[.val (.long p0), .second, .val (.long p1), .second, .val (.int (p0.toInt32)), .val (.int (((p0.toUInt64 >>> ((32 : Int32) &&& 0x3f).toInt64.toUInt64).toInt64).toInt32)), .val (.int (p1.toInt32)), .val (.int (((p1.toUInt64 >>> ((32 : Int32) &&& 0x3f).toInt64.toUInt64).toInt64).toInt32))] [])) rfl (hb hby d1_22) (by decide) (by decide)
  obtain ⟨b24, g24⟩ : ∃ z, z = h0.size := ⟨_, rfl⟩
  rw [← g24] at A24 D24 st24
  have gg_b24 : n0 ≤ b24 := Nat.le_trans (Nat.le_trans Z0 (Keep.refl h0 []).1) (Nat.le_of_eq g24.symm)
  have sz_b24 : h0.size ≤ b24 := Nat.le_trans (Keep.refl h0 []).1 (Nat.le_of_eq g24.symm)
  have F_left_b24 : Fld Z h24 b24 "com/example/rondo/rondo/Rect" "left" "I" (.int (0 : Int32)) := D24 (Or.inr (hw _ (List.mem_of_getElem? (i := 21) rfl))) (ty := .int) (by decide)
  have F_top_b24 : Fld Z h24 b24 "com/example/rondo/rondo/Rect" "top" "I" (.int (0 : Int32)) := D24 (Or.inr (hw _ (List.mem_of_getElem? (i := 23) rfl))) (ty := .int) (by decide)
  have F_right_b24 : Fld Z h24 b24 "com/example/rondo/rondo/Rect" "right" "I" (.int (0 : Int32)) := D24 (Or.inr (hw _ (List.mem_of_getElem? (i := 25) rfl))) (ty := .int) (by decide)
  have F_bottom_b24 : Fld Z h24 b24 "com/example/rondo/rondo/Rect" "bottom" "I" (.int (0 : Int32)) := D24 (Or.inr (hw _ (List.mem_of_getElem? (i := 27) rfl))) (ty := .int) (by decide)
  have K25 : Keep h0 h24 [] := (Keep.refl h0 []).ext E24
  refine own_via (T24.setTop (mkF m 25 #[.val (.long p0), .second, .val (.long p1), .second, .val (.int (p0.toInt32)), .val (.int (((p0.toUInt64 >>> ((32 : Int32) &&& 0x3f).toInt64.toUInt64).toInt64).toInt32)), .val (.int (p1.toInt32)), .val (.int (((p1.toUInt64 >>> ((32 : Int32) &&& 0x3f).toInt64.toUInt64).toInt64).toInt32))] [(.ref b24)])) (fun t k => st24 t k) ?_
  refine own_via (T24.setTop (mkF m 26 #[.val (.long p0), .second, .val (.long p1), .second, .val (.int (p0.toInt32)), .val (.int (((p0.toUInt64 >>> ((32 : Int32) &&& 0x3f).toInt64.toUInt64).toInt64).toInt32)), .val (.int (p1.toInt32)), .val (.int (((p1.toUInt64 >>> ((32 : Int32) &&& 0x3f).toInt64.toUInt64).toInt64).toInt32))] [(.ref b24), (.ref b24)])) (fun t k => XS.dup X24.here hx rfl (hb hby d1_25) rfl rfl k) ?_
  refine own_via (T24.setTop (mkF m 28 #[.val (.long p0), .second, .val (.long p1), .second, .val (.int (p0.toInt32)), .val (.int (((p0.toUInt64 >>> ((32 : Int32) &&& 0x3f).toInt64.toUInt64).toInt64).toInt32)), .val (.int (p1.toInt32)), .val (.int (((p1.toUInt64 >>> ((32 : Int32) &&& 0x3f).toInt64.toUInt64).toInt64).toInt32))] [(.int (p0.toInt32)), (.ref b24), (.ref b24)])) (fun t k => XS.iload X24.here hx rfl (hb hby d1_26) rfl  k) ?_
  refine own_via (T24.setTop (mkF m 30 #[.val (.long p0), .second, .val (.long p1), .second, .val (.int (p0.toInt32)), .val (.int (((p0.toUInt64 >>> ((32 : Int32) &&& 0x3f).toInt64.toUInt64).toInt64).toInt32)), .val (.int (p1.toInt32)), .val (.int (((p1.toUInt64 >>> ((32 : Int32) &&& 0x3f).toInt64.toUInt64).toInt64).toInt32))] [(.int (((p0.toUInt64 >>> ((32 : Int32) &&& 0x3f).toInt64.toUInt64).toInt64).toInt32)), (.int (p0.toInt32)), (.ref b24), (.ref b24)])) (fun t k => XS.iload X24.here hx rfl (hb hby d1_28) rfl  k) ?_
  obtain ⟨_, _, ⟨T26, L26, k26, n26⟩, -, X26, ⟨Lc26, hQ26, l26, y26, z26⟩, st26⟩ := Jvm.LawKit.callS X24 hx (y := (⟨"java/lang/Math", "min", "(II)I"⟩ : MethodName)) hown (mvT hZ (hw _ (List.mem_of_getElem? (i := 7) rfl))) (mvT hZ (hw _ (List.mem_of_getElem? (i := 8) rfl))) (mvT hZ (hw _ (List.mem_of_getElem? (i := 9) rfl))) (mvT hZ (hw _ (List.mem_of_getElem? (i := 10) rfl))) (by decide) (backOf (W := 2) (rm2 l Z a0 hw [] (p0.toInt32) (((p0.toUInt64 >>> ((32 : Int32) &&& 0x3f).toInt64.toUInt64).toInt64).toInt32) h24 n0 (Nat.le_trans Z0 K25.1)) hZ (hw _ (List.mem_of_getElem? (i := 10) rfl)) (hw _ (List.mem_of_getElem? (i := 9) rfl)) (by decide) (by decide)) (g := (mkF m 30 #[.val (.long p0), .second, .val (.long p1), .second, .val (.int (p0.toInt32)), .val (.int (((p0.toUInt64 >>> ((32 : Int32) &&& 0x3f).toInt64.toUInt64).toInt64).toInt32)), .val (.int (p1.toInt32)), .val (.int (((p1.toUInt64 >>> ((32 : Int32) &&& 0x3f).toInt64.toUInt64).toInt64).toInt32))] [(.int (((p0.toUInt64 >>> ((32 : Int32) &&& 0x3f).toInt64.toUInt64).toInt64).toInt32)), (.int (p0.toInt32)), (.ref b24), (.ref b24)])) rfl (by rw [hml]; rfl) (argsL := [(.int (p0.toInt32)), (.int (((p0.toUInt64 >>> ((32 : Int32) &&& 0x3f).toInt64.toUInt64).toInt64).toInt32))]) (rest := [(.ref b24), (.ref b24)]) (lenOf pd_0 rfl) rfl (by show 2 * 0 + _ ≤ _; exact Nat.le_of_eq rfl) (hb hby d1_30) (fun _ _ => ⟨rfl, e24, (by decide : 1 + 0 ≤ _), (by decide : 4 + 0 ≤ _)⟩)
  dsimp only [Pt.U, Pt.locs, Pt.cells, Pt.slots] at X26 l26 y26 z26 st26 hQ26
  subst l26 y26 z26
  obtain ⟨rfl, N26q, e26⟩ := hQ26
  have N26 := Fr.app N0 N26q
  refine own_via (T26.setTop (mkF m 33 #[.val (.long p0), .second, .val (.long p1), .second, .val (.int (p0.toInt32)), .val (.int (((p0.toUInt64 >>> ((32 : Int32) &&& 0x3f).toInt64.toUInt64).toInt64).toInt32)), .val (.int (p1.toInt32)), .val (.int (((p1.toUInt64 >>> ((32 : Int32) &&& 0x3f).toInt64.toUInt64).toInt64).toInt32))] [(.int (own_f2 (p0.toInt32) (((p0.toUInt64 >>> ((32 : Int32) &&& 0x3f).toInt64.toUInt64).toInt64).toInt32))), (.ref b24), (.ref b24)])) (fun t k => st26 t k) ?_
  refine own_via (T26.setTop (mkF m 35 #[.val (.long p0), .second, .val (.long p1), .second, .val (.int (p0.toInt32)), .val (.int (((p0.toUInt64 >>> ((32 : Int32) &&& 0x3f).toInt64.toUInt64).toInt64).toInt32)), .val (.int (p1.toInt32)), .val (.int (((p1.toUInt64 >>> ((32 : Int32) &&& 0x3f).toInt64.toUInt64).toInt64).toInt32))] [(.int (p1.toInt32)), (.int (own_f2 (p0.toInt32) (((p0.toUInt64 >>> ((32 : Int32) &&& 0x3f).toInt64.toUInt64).toInt64).toInt32))), (.ref b24), (.ref b24)])) (fun t k => XS.iload X26.here hx rfl (hb hby d1_33) rfl  k) ?_
  refine own_via (T26.setTop (mkF m 37 #[.val (.long p0), .second, .val (.long p1), .second, .val (.int (p0.toInt32)), .val (.int (((p0.toUInt64 >>> ((32 : Int32) &&& 0x3f).toInt64.toUInt64).toInt64).toInt32)), .val (.int (p1.toInt32)), .val (.int (((p1.toUInt64 >>> ((32 : Int32) &&& 0x3f).toInt64.toUInt64).toInt64).toInt32))] [(.int (((p1.toUInt64 >>> ((32 : Int32) &&& 0x3f).toInt64.toUInt64).toInt64).toInt32)), (.int (p1.toInt32)), (.int (own_f2 (p0.toInt32) (((p0.toUInt64 >>> ((32 : Int32) &&& 0x3f).toInt64.toUInt64).toInt64).toInt32))), (.ref b24), (.ref b24)])) (fun t k => XS.iload X26.here hx rfl (hb hby d1_35) rfl  k) ?_
  obtain ⟨_, _, ⟨T27, L27, k27, n27⟩, -, X27, ⟨Lc27, hQ27, l27, y27, z27⟩, st27⟩ := Jvm.LawKit.callS X26 hx (y := (⟨"java/lang/Math", "min", "(II)I"⟩ : MethodName)) hown (mvT hZ (hw _ (List.mem_of_getElem? (i := 7) rfl))) (mvT hZ (hw _ (List.mem_of_getElem? (i := 8) rfl))) (mvT hZ (hw _ (List.mem_of_getElem? (i := 9) rfl))) (mvT hZ (hw _ (List.mem_of_getElem? (i := 10) rfl))) (by decide) (backOf (W := 3) (rm2 l Z a0 hw [] (p1.toInt32) (((p1.toUInt64 >>> ((32 : Int32) &&& 0x3f).toInt64.toUInt64).toInt64).toInt32) h24 n0 (Nat.le_trans Z0 K25.1)) hZ (hw _ (List.mem_of_getElem? (i := 10) rfl)) (hw _ (List.mem_of_getElem? (i := 9) rfl)) (by decide) (by decide)) (g := (mkF m 37 #[.val (.long p0), .second, .val (.long p1), .second, .val (.int (p0.toInt32)), .val (.int (((p0.toUInt64 >>> ((32 : Int32) &&& 0x3f).toInt64.toUInt64).toInt64).toInt32)), .val (.int (p1.toInt32)), .val (.int (((p1.toUInt64 >>> ((32 : Int32) &&& 0x3f).toInt64.toUInt64).toInt64).toInt32))] [(.int (((p1.toUInt64 >>> ((32 : Int32) &&& 0x3f).toInt64.toUInt64).toInt64).toInt32)), (.int (p1.toInt32)), (.int (own_f2 (p0.toInt32) (((p0.toUInt64 >>> ((32 : Int32) &&& 0x3f).toInt64.toUInt64).toInt64).toInt32))), (.ref b24), (.ref b24)])) rfl (by rw [hml]; rfl) (argsL := [(.int (p1.toInt32)), (.int (((p1.toUInt64 >>> ((32 : Int32) &&& 0x3f).toInt64.toUInt64).toInt64).toInt32))]) (rest := [(.int (own_f2 (p0.toInt32) (((p0.toUInt64 >>> ((32 : Int32) &&& 0x3f).toInt64.toUInt64).toInt64).toInt32))), (.ref b24), (.ref b24)]) (lenOf pd_0 rfl) rfl (by show 2 * 0 + _ ≤ _; exact Nat.le_of_eq rfl) (hb hby d1_37) (fun _ _ => ⟨rfl, e26, (by decide : 1 + 0 ≤ _), (by decide : 4 + 0 ≤ _)⟩)
  dsimp only [Pt.U, Pt.locs, Pt.cells, Pt.slots] at X27 l27 y27 z27 st27 hQ27
  subst l27 y27 z27
  obtain ⟨rfl, N27q, e27⟩ := hQ27
  have N27 := Fr.app N26 N27q
  refine own_via (T27.setTop (mkF m 40 #[.val (.long p0), .second, .val (.long p1), .second, .val (.int (p0.toInt32)), .val (.int (((p0.toUInt64 >>> ((32 : Int32) &&& 0x3f).toInt64.toUInt64).toInt64).toInt32)), .val (.int (p1.toInt32)), .val (.int (((p1.toUInt64 >>> ((32 : Int32) &&& 0x3f).toInt64.toUInt64).toInt64).toInt32))] [(.int (own_f2 (p1.toInt32) (((p1.toUInt64 >>> ((32 : Int32) &&& 0x3f).toInt64.toUInt64).toInt64).toInt32))), (.int (own_f2 (p0.toInt32) (((p0.toUInt64 >>> ((32 : Int32) &&& 0x3f).toInt64.toUInt64).toInt64).toInt32))), (.ref b24), (.ref b24)])) (fun t k => st27 t k) ?_
  refine own_via (T27.setTop (mkF m 42 #[.val (.long p0), .second, .val (.long p1), .second, .val (.int (p0.toInt32)), .val (.int (((p0.toUInt64 >>> ((32 : Int32) &&& 0x3f).toInt64.toUInt64).toInt64).toInt32)), .val (.int (p1.toInt32)), .val (.int (((p1.toUInt64 >>> ((32 : Int32) &&& 0x3f).toInt64.toUInt64).toInt64).toInt32))] [(.int (p0.toInt32)), (.int (own_f2 (p1.toInt32) (((p1.toUInt64 >>> ((32 : Int32) &&& 0x3f).toInt64.toUInt64).toInt64).toInt32))), (.int (own_f2 (p0.toInt32) (((p0.toUInt64 >>> ((32 : Int32) &&& 0x3f).toInt64.toUInt64).toInt64).toInt32))), (.ref b24), (.ref b24)])) (fun t k => XS.iload X27.here hx rfl (hb hby d1_40) rfl  k) ?_
  refine own_via (T27.setTop (mkF m 44 #[.val (.long p0), .second, .val (.long p1), .second, .val (.int (p0.toInt32)), .val (.int (((p0.toUInt64 >>> ((32 : Int32) &&& 0x3f).toInt64.toUInt64).toInt64).toInt32)), .val (.int (p1.toInt32)), .val (.int (((p1.toUInt64 >>> ((32 : Int32) &&& 0x3f).toInt64.toUInt64).toInt64).toInt32))] [(.int (((p0.toUInt64 >>> ((32 : Int32) &&& 0x3f).toInt64.toUInt64).toInt64).toInt32)), (.int (p0.toInt32)), (.int (own_f2 (p1.toInt32) (((p1.toUInt64 >>> ((32 : Int32) &&& 0x3f).toInt64.toUInt64).toInt64).toInt32))), (.int (own_f2 (p0.toInt32) (((p0.toUInt64 >>> ((32 : Int32) &&& 0x3f).toInt64.toUInt64).toInt64).toInt32))), (.ref b24), (.ref b24)])) (fun t k => XS.iload X27.here hx rfl (hb hby d1_42) rfl  k) ?_
  obtain ⟨_, _, ⟨T28, L28, k28, n28⟩, -, X28, ⟨Lc28, hQ28, l28, y28, z28⟩, st28⟩ := Jvm.LawKit.callS X27 hx (y := (⟨"java/lang/Math", "max", "(II)I"⟩ : MethodName)) hown (mvT hZ (hw _ (List.mem_of_getElem? (i := 11) rfl))) (mvT hZ (hw _ (List.mem_of_getElem? (i := 12) rfl))) (mvT hZ (hw _ (List.mem_of_getElem? (i := 9) rfl))) (mvT hZ (hw _ (List.mem_of_getElem? (i := 13) rfl))) (by decide) (backOf (W := 4) (rm3 l Z a0 hw [] (p0.toInt32) (((p0.toUInt64 >>> ((32 : Int32) &&& 0x3f).toInt64.toUInt64).toInt64).toInt32) h24 n0 (Nat.le_trans Z0 K25.1)) hZ (hw _ (List.mem_of_getElem? (i := 13) rfl)) (hw _ (List.mem_of_getElem? (i := 9) rfl)) (by decide) (by decide)) (g := (mkF m 44 #[.val (.long p0), .second, .val (.long p1), .second, .val (.int (p0.toInt32)), .val (.int (((p0.toUInt64 >>> ((32 : Int32) &&& 0x3f).toInt64.toUInt64).toInt64).toInt32)), .val (.int (p1.toInt32)), .val (.int (((p1.toUInt64 >>> ((32 : Int32) &&& 0x3f).toInt64.toUInt64).toInt64).toInt32))] [(.int (((p0.toUInt64 >>> ((32 : Int32) &&& 0x3f).toInt64.toUInt64).toInt64).toInt32)), (.int (p0.toInt32)), (.int (own_f2 (p1.toInt32) (((p1.toUInt64 >>> ((32 : Int32) &&& 0x3f).toInt64.toUInt64).toInt64).toInt32))), (.int (own_f2 (p0.toInt32) (((p0.toUInt64 >>> ((32 : Int32) &&& 0x3f).toInt64.toUInt64).toInt64).toInt32))), (.ref b24), (.ref b24)])) rfl (by rw [hml]; rfl) (argsL := [(.int (p0.toInt32)), (.int (((p0.toUInt64 >>> ((32 : Int32) &&& 0x3f).toInt64.toUInt64).toInt64).toInt32))]) (rest := [(.int (own_f2 (p1.toInt32) (((p1.toUInt64 >>> ((32 : Int32) &&& 0x3f).toInt64.toUInt64).toInt64).toInt32))), (.int (own_f2 (p0.toInt32) (((p0.toUInt64 >>> ((32 : Int32) &&& 0x3f).toInt64.toUInt64).toInt64).toInt32))), (.ref b24), (.ref b24)]) (lenOf pd_0 rfl) rfl (by show 2 * 0 + _ ≤ _; exact Nat.le_of_eq rfl) (hb hby d1_44) (fun _ _ => ⟨rfl, e27, (by decide : 1 + 0 ≤ _), (by decide : 4 + 0 ≤ _)⟩)
  dsimp only [Pt.U, Pt.locs, Pt.cells, Pt.slots] at X28 l28 y28 z28 st28 hQ28
  subst l28 y28 z28
  obtain ⟨rfl, N28q, e28⟩ := hQ28
  have N28 := Fr.app N27 N28q
  refine own_via (T28.setTop (mkF m 47 #[.val (.long p0), .second, .val (.long p1), .second, .val (.int (p0.toInt32)), .val (.int (((p0.toUInt64 >>> ((32 : Int32) &&& 0x3f).toInt64.toUInt64).toInt64).toInt32)), .val (.int (p1.toInt32)), .val (.int (((p1.toUInt64 >>> ((32 : Int32) &&& 0x3f).toInt64.toUInt64).toInt64).toInt32))] [(.int (own_f3 (p0.toInt32) (((p0.toUInt64 >>> ((32 : Int32) &&& 0x3f).toInt64.toUInt64).toInt64).toInt32))), (.int (own_f2 (p1.toInt32) (((p1.toUInt64 >>> ((32 : Int32) &&& 0x3f).toInt64.toUInt64).toInt64).toInt32))), (.int (own_f2 (p0.toInt32) (((p0.toUInt64 >>> ((32 : Int32) &&& 0x3f).toInt64.toUInt64).toInt64).toInt32))), (.ref b24), (.ref b24)])) (fun t k => st28 t k) ?_
  refine own_via (T28.setTop (mkF m 49 #[.val (.long p0), .second, .val (.long p1), .second, .val (.int (p0.toInt32)), .val (.int (((p0.toUInt64 >>> ((32 : Int32) &&& 0x3f).toInt64.toUInt64).toInt64).toInt32)), .val (.int (p1.toInt32)), .val (.int (((p1.toUInt64 >>> ((32 : Int32) &&& 0x3f).toInt64.toUInt64).toInt64).toInt32))] [(.int (p1.toInt32)), (.int (own_f3 (p0.toInt32) (((p0.toUInt64 >>> ((32 : Int32) &&& 0x3f).toInt64.toUInt64).toInt64).toInt32))), (.int (own_f2 (p1.toInt32) (((p1.toUInt64 >>> ((32 : Int32) &&& 0x3f).toInt64.toUInt64).toInt64).toInt32))), (.int (own_f2 (p0.toInt32) (((p0.toUInt64 >>> ((32 : Int32) &&& 0x3f).toInt64.toUInt64).toInt64).toInt32))), (.ref b24), (.ref b24)])) (fun t k => XS.iload X28.here hx rfl (hb hby d1_47) rfl  k) ?_
  refine own_via (T28.setTop (mkF m 51 #[.val (.long p0), .second, .val (.long p1), .second, .val (.int (p0.toInt32)), .val (.int (((p0.toUInt64 >>> ((32 : Int32) &&& 0x3f).toInt64.toUInt64).toInt64).toInt32)), .val (.int (p1.toInt32)), .val (.int (((p1.toUInt64 >>> ((32 : Int32) &&& 0x3f).toInt64.toUInt64).toInt64).toInt32))] [(.int (((p1.toUInt64 >>> ((32 : Int32) &&& 0x3f).toInt64.toUInt64).toInt64).toInt32)), (.int (p1.toInt32)), (.int (own_f3 (p0.toInt32) (((p0.toUInt64 >>> ((32 : Int32) &&& 0x3f).toInt64.toUInt64).toInt64).toInt32))), (.int (own_f2 (p1.toInt32) (((p1.toUInt64 >>> ((32 : Int32) &&& 0x3f).toInt64.toUInt64).toInt64).toInt32))), (.int (own_f2 (p0.toInt32) (((p0.toUInt64 >>> ((32 : Int32) &&& 0x3f).toInt64.toUInt64).toInt64).toInt32))), (.ref b24), (.ref b24)])) (fun t k => XS.iload X28.here hx rfl (hb hby d1_49) rfl  k) ?_
  obtain ⟨_, _, ⟨T29, L29, k29, n29⟩, -, X29, ⟨Lc29, hQ29, l29, y29, z29⟩, st29⟩ := Jvm.LawKit.callS X28 hx (y := (⟨"java/lang/Math", "max", "(II)I"⟩ : MethodName)) hown (mvT hZ (hw _ (List.mem_of_getElem? (i := 11) rfl))) (mvT hZ (hw _ (List.mem_of_getElem? (i := 12) rfl))) (mvT hZ (hw _ (List.mem_of_getElem? (i := 9) rfl))) (mvT hZ (hw _ (List.mem_of_getElem? (i := 13) rfl))) (by decide) (backOf (W := 5) (rm3 l Z a0 hw [] (p1.toInt32) (((p1.toUInt64 >>> ((32 : Int32) &&& 0x3f).toInt64.toUInt64).toInt64).toInt32) h24 n0 (Nat.le_trans Z0 K25.1)) hZ (hw _ (List.mem_of_getElem? (i := 13) rfl)) (hw _ (List.mem_of_getElem? (i := 9) rfl)) (by decide) (by decide)) (g := (mkF m 51 #[.val (.long p0), .second, .val (.long p1), .second, .val (.int (p0.toInt32)), .val (.int (((p0.toUInt64 >>> ((32 : Int32) &&& 0x3f).toInt64.toUInt64).toInt64).toInt32)), .val (.int (p1.toInt32)), .val (.int (((p1.toUInt64 >>> ((32 : Int32) &&& 0x3f).toInt64.toUInt64).toInt64).toInt32))] [(.int (((p1.toUInt64 >>> ((32 : Int32) &&& 0x3f).toInt64.toUInt64).toInt64).toInt32)), (.int (p1.toInt32)), (.int (own_f3 (p0.toInt32) (((p0.toUInt64 >>> ((32 : Int32) &&& 0x3f).toInt64.toUInt64).toInt64).toInt32))), (.int (own_f2 (p1.toInt32) (((p1.toUInt64 >>> ((32 : Int32) &&& 0x3f).toInt64.toUInt64).toInt64).toInt32))), (.int (own_f2 (p0.toInt32) (((p0.toUInt64 >>> ((32 : Int32) &&& 0x3f).toInt64.toUInt64).toInt64).toInt32))), (.ref b24), (.ref b24)])) rfl (by rw [hml]; rfl) (argsL := [(.int (p1.toInt32)), (.int (((p1.toUInt64 >>> ((32 : Int32) &&& 0x3f).toInt64.toUInt64).toInt64).toInt32))]) (rest := [(.int (own_f3 (p0.toInt32) (((p0.toUInt64 >>> ((32 : Int32) &&& 0x3f).toInt64.toUInt64).toInt64).toInt32))), (.int (own_f2 (p1.toInt32) (((p1.toUInt64 >>> ((32 : Int32) &&& 0x3f).toInt64.toUInt64).toInt64).toInt32))), (.int (own_f2 (p0.toInt32) (((p0.toUInt64 >>> ((32 : Int32) &&& 0x3f).toInt64.toUInt64).toInt64).toInt32))), (.ref b24), (.ref b24)]) (lenOf pd_0 rfl) rfl (by show 2 * 0 + _ ≤ _; exact Nat.le_of_eq rfl) (hb hby d1_51) (fun _ _ => ⟨rfl, e28, (by decide : 1 + 0 ≤ _), (by decide : 4 + 0 ≤ _)⟩)
  dsimp only [Pt.U, Pt.locs, Pt.cells, Pt.slots] at X29 l29 y29 z29 st29 hQ29
  subst l29 y29 z29
  obtain ⟨rfl, N29q, e29⟩ := hQ29
  have N29 := Fr.app N28 N29q
  refine own_via (T29.setTop (mkF m 54 #[.val (.long p0), .second, .val (.long p1), .second, .val (.int (p0.toInt32)), .val (.int (((p0.toUInt64 >>> ((32 : Int32) &&& 0x3f).toInt64.toUInt64).toInt64).toInt32)), .val (.int (p1.toInt32)), .val (.int (((p1.toUInt64 >>> ((32 : Int32) &&& 0x3f).toInt64.toUInt64).toInt64).toInt32))] [(.int (own_f3 (p1.toInt32) (((p1.toUInt64 >>> ((32 : Int32) &&& 0x3f).toInt64.toUInt64).toInt64).toInt32))), (.int (own_f3 (p0.toInt32) (((p0.toUInt64 >>> ((32 : Int32) &&& 0x3f).toInt64.toUInt64).toInt64).toInt32))), (.int (own_f2 (p1.toInt32) (((p1.toUInt64 >>> ((32 : Int32) &&& 0x3f).toInt64.toUInt64).toInt64).toInt32))), (.int (own_f2 (p0.toInt32) (((p0.toUInt64 >>> ((32 : Int32) &&& 0x3f).toInt64.toUInt64).toInt64).toInt32))), (.ref b24), (.ref b24)])) (fun t k => st29 t k) ?_
  obtain ⟨_, _, ⟨T30, L30, k30, n30⟩, -, X30, ⟨Lc30, hQ30, l30, y30, z30⟩, st30⟩ := X29.specialBack hx (y := (⟨"com/example/rondo/rondo/Rect", "<init>", "(IIII)V"⟩ : MethodName)) rfl hown (mvT hZ (hw _ (List.mem_of_getElem? (i := 14) rfl))) (mvT hZ (hw _ (List.mem_of_getElem? (i := 15) rfl))) (mvT hZ (hw _ (List.mem_of_getElem? (i := 16) rfl))) (by decide) (backOf (W := 1) (rm4 l Z a0 hw [] b24 (own_f2 (p0.toInt32) (((p0.toUInt64 >>> ((32 : Int32) &&& 0x3f).toInt64.toUInt64).toInt64).toInt32)) (own_f2 (p1.toInt32) (((p1.toUInt64 >>> ((32 : Int32) &&& 0x3f).toInt64.toUInt64).toInt64).toInt32)) (own_f3 (p0.toInt32) (((p0.toUInt64 >>> ((32 : Int32) &&& 0x3f).toInt64.toUInt64).toInt64).toInt32)) (own_f3 (p1.toInt32) (((p1.toUInt64 >>> ((32 : Int32) &&& 0x3f).toInt64.toUInt64).toInt64).toInt32)) h24 n0 (Nat.le_trans Z0 K25.1) F_left_b24 F_top_b24 F_right_b24 F_bottom_b24 A24 gg_b24 (own_mm _ _) (own_mm _ _)) hZ (hw _ (List.mem_of_getElem? (i := 16) rfl)) (hw _ (List.mem_of_getElem? (i := 6) rfl)) (by decide) (by decide)) (g := (mkF m 54 #[.val (.long p0), .second, .val (.long p1), .second, .val (.int (p0.toInt32)), .val (.int (((p0.toUInt64 >>> ((32 : Int32) &&& 0x3f).toInt64.toUInt64).toInt64).toInt32)), .val (.int (p1.toInt32)), .val (.int (((p1.toUInt64 >>> ((32 : Int32) &&& 0x3f).toInt64.toUInt64).toInt64).toInt32))] [(.int (own_f3 (p1.toInt32) (((p1.toUInt64 >>> ((32 : Int32) &&& 0x3f).toInt64.toUInt64).toInt64).toInt32))), (.int (own_f3 (p0.toInt32) (((p0.toUInt64 >>> ((32 : Int32) &&& 0x3f).toInt64.toUInt64).toInt64).toInt32))), (.int (own_f2 (p1.toInt32) (((p1.toUInt64 >>> ((32 : Int32) &&& 0x3f).toInt64.toUInt64).toInt64).toInt32))), (.int (own_f2 (p0.toInt32) (((p0.toUInt64 >>> ((32 : Int32) &&& 0x3f).toInt64.toUInt64).toInt64).toInt32))), (.ref b24), (.ref b24)])) rfl (by rw [hml]; rfl) (Steps.refl _) (a := b24) (argsL := [(.int (own_f2 (p0.toInt32) (((p0.toUInt64 >>> ((32 : Int32) &&& 0x3f).toInt64.toUInt64).toInt64).toInt32))), (.int (own_f2 (p1.toInt32) (((p1.toUInt64 >>> ((32 : Int32) &&& 0x3f).toInt64.toUInt64).toInt64).toInt32))), (.int (own_f3 (p0.toInt32) (((p0.toUInt64 >>> ((32 : Int32) &&& 0x3f).toInt64.toUInt64).toInt64).toInt32))), (.int (own_f3 (p1.toInt32) (((p1.toUInt64 >>> ((32 : Int32) &&& 0x3f).toInt64.toUInt64).toInt64).toInt32)))]) (rest := [(.ref b24)]) (lenOf pd_1 rfl) rfl (by show 2 * 0 + _ ≤ _; exact Nat.le_of_eq rfl) (hb hby d1_54) (fun _ _ => ⟨rfl, e29, (by decide : 1 + 0 ≤ _), (by decide : 4 + 0 ≤ _)⟩)
  dsimp only [Pt.U, Pt.locs, Pt.cells, Pt.slots] at X30 l30 y30 z30 st30 hQ30
  subst l30 y30 z30
  obtain ⟨h30, e30⟩ : ∃ h, T30.heap = h := ⟨_, rfl⟩
  rw [e30] at hQ30
  obtain ⟨rfl, N30q, K30q, G30_0, G30_1, G30_2, G30_3, G30_4⟩ := hQ30
  have N30 := Fr.app N29 N30q
  have K31 : Keep h0 h30 [] := K25.trans K30q (fun x hx => (List.mem_cons.mp hx).elim (fun e => e ▸ Or.inr sz_b24) ((fun x hx => nomatch hx) x))
  refine own_via (T30.setTop (mkF m 57 #[.val (.long p0), .second, .val (.long p1), .second, .val (.int (p0.toInt32)), .val (.int (((p0.toUInt64 >>> ((32 : Int32) &&& 0x3f).toInt64.toUInt64).toInt64).toInt32)), .val (.int (p1.toInt32)), .val (.int (((p1.toUInt64 >>> ((32 : Int32) &&& 0x3f).toInt64.toUInt64).toInt64).toInt32))] [(.ref b24)])) (fun t k => st30.trans k) ?_
  refine own_leave X30 Bd.notSynchronized (v := some (.ref b24)) (fun h => by rw [Bd.returns] at h; cases h) (fun fs hr => retOut X30 hx Bd.returns rfl (Or.inr (Or.inr (Or.inr (Or.inr ⟨rfl, rfl, rfl⟩)))) (hb hby d1_57) hr) ?_ (by decide) (by decide)
  show (own_Q1 Z p0 p1  h0 n0) _ T30.heap _
  rw [e30]
  exact ⟨b24, rfl, N30, K31, gg_b24, sz_b24, G30_0, G30_1, G30_2, G30_3, G30_4⟩
def own_f6 (left0 : Int32) (top0 : Int32) (right0 : Int32) (bottom0 : Int32) (left1 : Int32) (top1 : Int32) (right1 : Int32) (bottom1 : Int32) : Int32 := (if left1 < left0 then (0 : Int32) else (if top1 < top0 then (0 : Int32) else (if right0 < right1 then (0 : Int32) else (if bottom0 < bottom1 then (0 : Int32) else (1 : Int32)))))
def own_Q6 (Z : State) (p0 : Addr) (p1 : Addr) (left0 : Int32) (top0 : Int32) (right0 : Int32) (bottom0 : Int32) (left1 : Int32) (top1 : Int32) (right1 : Int32) (bottom1 : Int32) (h0 : Heap) (n0 : Nat) (v : Option Value) (h : Heap) (L : List Loc) : Prop := v = some (.int (own_f6 left0 top0 right0 bottom0 left1 top1 right1 bottom1)) ∧ Fr n0 L ∧ h = h0
theorem d6_0 : decode prog_40_method_3_code 0 = .ok (.aload_n 0, 1) := by decide +kernel
theorem d6_1 : decode prog_40_method_3_code 1 = .ok (.getfield 23, 3) := by decide +kernel
theorem d6_4 : decode prog_40_method_3_code 4 = .ok (.aload_n 1, 1) := by decide +kernel
theorem d6_5 : decode prog_40_method_3_code 5 = .ok (.getfield 23, 3) := by decide +kernel
theorem d6_8 : decode prog_40_method_3_code 8 = .ok (.if_icmp .gt 40, 3) := by decide +kernel
theorem d6_11 : decode prog_40_method_3_code 11 = .ok (.aload_n 0, 1) := by decide +kernel
theorem d6_12 : decode prog_40_method_3_code 12 = .ok (.getfield 27, 3) := by decide +kernel
theorem d6_15 : decode prog_40_method_3_code 15 = .ok (.aload_n 1, 1) := by decide +kernel
theorem d6_16 : decode prog_40_method_3_code 16 = .ok (.getfield 27, 3) := by decide +kernel
theorem d6_19 : decode prog_40_method_3_code 19 = .ok (.if_icmp .gt 29, 3) := by decide +kernel
theorem d6_22 : decode prog_40_method_3_code 22 = .ok (.aload_n 1, 1) := by decide +kernel
theorem d6_23 : decode prog_40_method_3_code 23 = .ok (.getfield 30, 3) := by decide +kernel
theorem d6_26 : decode prog_40_method_3_code 26 = .ok (.aload_n 0, 1) := by decide +kernel
theorem d6_27 : decode prog_40_method_3_code 27 = .ok (.getfield 30, 3) := by decide +kernel
theorem d6_30 : decode prog_40_method_3_code 30 = .ok (.if_icmp .gt 18, 3) := by decide +kernel
theorem d6_33 : decode prog_40_method_3_code 33 = .ok (.aload_n 1, 1) := by decide +kernel
theorem d6_34 : decode prog_40_method_3_code 34 = .ok (.getfield 33, 3) := by decide +kernel
theorem d6_37 : decode prog_40_method_3_code 37 = .ok (.aload_n 0, 1) := by decide +kernel
theorem d6_38 : decode prog_40_method_3_code 38 = .ok (.getfield 33, 3) := by decide +kernel
theorem d6_41 : decode prog_40_method_3_code 41 = .ok (.if_icmp .gt 7, 3) := by decide +kernel
theorem d6_44 : decode prog_40_method_3_code 44 = .ok (.iconst 1, 1) := by decide +kernel
theorem d6_45 : decode prog_40_method_3_code 45 = .ok (.goto 4, 3) := by decide +kernel
theorem d6_48 : decode prog_40_method_3_code 48 = .ok (.iconst 0, 1) := by decide +kernel
theorem d6_49 : decode prog_40_method_3_code 49 = .ok (.ireturn, 1) := by decide +kernel
theorem ef_6 (m : MethodId) (p0 : Addr) (p1 : Addr) : entryFrame m #[(.ref p0), (.ref p1)] 2 = mkF m 0 #[.val (.ref p0), .val (.ref p1)] [] := by first | (simp [entryFrame, mkF, argsToLocals, Value.category]; done) | rfl
set_option maxRecDepth 65536 in
set_option maxHeartbeats 40000000 in
theorem rm6 (l : Launch) (Z : State) (a0 : Array Value) (hw : ∀ d ∈ tables_1, d.before a0 Z = true) (ws : List Jvm.Cond) (p0 : Addr) (p1 : Addr) (h0 : Heap) (n0 : Nat) (Z0 : n0 ≤ h0.size) (left0 : Int32) (top0 : Int32) (right0 : Int32) (bottom0 : Int32) (left1 : Int32) (top1 : Int32) (right1 : Int32) (bottom1 : Int32) (P0 : Fld Z h0 p0 "com/example/rondo/rondo/Rect" "left" "I" (.int left0)) (P1 : Fld Z h0 p0 "com/example/rondo/rondo/Rect" "top" "I" (.int top0)) (P2 : Fld Z h0 p0 "com/example/rondo/rondo/Rect" "right" "I" (.int right0)) (P3 : Fld Z h0 p0 "com/example/rondo/rondo/Rect" "bottom" "I" (.int bottom0)) (P4 : Fld Z h0 p1 "com/example/rondo/rondo/Rect" "left" "I" (.int left1)) (P5 : Fld Z h0 p1 "com/example/rondo/rondo/Rect" "top" "I" (.int top1)) (P6 : Fld Z h0 p1 "com/example/rondo/rondo/Rect" "right" "I" (.int right1)) (P7 : Fld Z h0 p1 "com/example/rondo/rondo/Rect" "bottom" "I" (.int bottom1)) :
    MetFree l (⟨"com/example/rondo/rondo/Rect", "contains", "(Lcom/example/rondo/rondo/Rect;)Z"⟩ : MethodName) (head1 (Jvm.Cond.code (⟨"com/example/rondo/rondo/Rect", "contains", "(Lcom/example/rondo/rondo/Rect;)Z"⟩ : MethodName) prog_40_method_3_code 2 (some .boolean) :: ws) ({ frames := 0, cells := 0, slots := 0, locals := 0 } : Room)) (fun a U => a = #[(.ref p0), (.ref p1)] ∧ Z.Warmed39 U.vm ∧ U.heap = h0) (fun _ _ _ _ _ => True) (fun _ U o U' => ∃ v L, o = .returned v ∧ (own_Q6 Z p0 p1 left0 top0 right0 bottom0 left1 top1 right1 bottom1 h0 n0) v U'.heap L ∧ FrameEnd U o U' L ({ frames := 0, cells := 0, slots := 0, locals := 0 } : Room).cells ({ frames := 0, cells := 0, slots := 0, locals := 0 } : Room).slots) := by
  refine MetFree.of_bodySF (plainFor_of_name pn_com_example_rondo_rondo_Rect) hisR ?_
  intro p e s m args below meth c s₁ Bd hml0 hP hK
  obtain ⟨rfl, hZ, hh⟩ := hP
  have hx := Bd.exec
  have hby := Bd.bytes
  have hml : c.maxLocals = 2 := hml0
  have hown : s.vm.findClass "com/example/rondo/rondo/Rect" = some m.cls := findClass_of_methodNamed Bd.named
  have hnm := (name_of_methodNamed Bd.named Bd.method).1
  have X0 : Stand p l e ({ frames := 0, cells := 0, slots := 0, locals := 0 } : Room) s m #[(.ref p0), (.ref p1)] below meth c s₁ [] 0 0 := Stand.of_body Bd
  have e0 : s₁.heap = h0 := by rw [← hh, Bd.state]; rfl
  have N0 := Fr.nil n0
  refine own_body (QQ := (own_Q6 Z p0 p1 left0 top0 right0 bottom0 left1 top1 right1 bottom1 h0 n0)) (ef_6 m p0 p1) ?_
  refine own_via (s₁.setTop (mkF m 1 #[.val (.ref p0), .val (.ref p1)] [(.ref p0)])) (fun t k => XS.aloadN X0.here hx rfl (hb hby d6_0) rfl rfl k) ?_
  obtain ⟨T44, X44, e44, st44⟩ := getF X0 hx hZ hown (host := "") (Or.inl (hw _ (List.mem_of_getElem? (i := 20) rfl))) Via.refl e0 P0 (g := (mkF m 1 #[.val (.ref p0), .val (.ref p1)] [(.ref p0)])) rfl rfl (hb hby d6_1)
  refine own_via (T44.setTop (mkF m 4 #[.val (.ref p0), .val (.ref p1)] [(.int left0)])) (fun t k => st44 t k) ?_
  refine own_via (T44.setTop (mkF m 5 #[.val (.ref p0), .val (.ref p1)] [(.ref p1), (.int left0)])) (fun t k => XS.aloadN X44.here hx rfl (hb hby d6_4) rfl rfl k) ?_
  obtain ⟨T45, X45, e45, st45⟩ := getF X44 hx hZ hown (host := "") (Or.inl (hw _ (List.mem_of_getElem? (i := 20) rfl))) Via.refl e44 P4 (g := (mkF m 5 #[.val (.ref p0), .val (.ref p1)] [(.ref p1), (.int left0)])) rfl rfl (hb hby d6_5)
  refine own_via (T45.setTop (mkF m 8 #[.val (.ref p0), .val (.ref p1)] [(.int left1), (.int left0)])) (fun t k => st45 t k) ?_
  by_cases hc8_46 : left1 < left0
  · refine own_via (T45.setTop (mkF m 48 #[.val (.ref p0), .val (.ref p1)] [])) (fun t k => XS.icmpYes X45.here hx rfl (pc0 := 8) (pc' := 48) rfl (hb hby d6_8) rfl (tlt hc8_46).2.2.1 (by decide) (by decide) k) ?_
    refine own_via (T45.setTop (mkF m 49 #[.val (.ref p0), .val (.ref p1)] [(.int (0 : Int32))])) (fun t k => XS.iconst X45.here hx rfl (hb hby d6_48) k) ?_
    refine own_leave X45 Bd.notSynchronized (v := some (.int (0 : Int32))) (fun h => by rw [Bd.returns] at h; cases h) (fun fs hr => retN X45 hx (t := .boolean) Bd.returns (by simp) (hb hby d6_49) hr) ?_ (by decide) (by decide)
    exact ⟨(by show some (Value.int _) = some (Value.int _); unfold own_f6; rw [if_pos hc8_46]), N0, e45⟩
  · refine own_via (T45.setTop (mkF m 11 #[.val (.ref p0), .val (.ref p1)] [])) (fun t k => XS.icmpNo X45.here hx rfl (hb hby d6_8) rfl (flt hc8_46).2.2.1 k) ?_
    refine own_via (T45.setTop (mkF m 12 #[.val (.ref p0), .val (.ref p1)] [(.ref p0)])) (fun t k => XS.aloadN X45.here hx rfl (hb hby d6_11) rfl rfl k) ?_
    obtain ⟨T47, X47, e47, st47⟩ := getF X45 hx hZ hown (host := "") (Or.inl (hw _ (List.mem_of_getElem? (i := 22) rfl))) Via.refl e45 P1 (g := (mkF m 12 #[.val (.ref p0), .val (.ref p1)] [(.ref p0)])) rfl rfl (hb hby d6_12)
    refine own_via (T47.setTop (mkF m 15 #[.val (.ref p0), .val (.ref p1)] [(.int top0)])) (fun t k => st47 t k) ?_
    refine own_via (T47.setTop (mkF m 16 #[.val (.ref p0), .val (.ref p1)] [(.ref p1), (.int top0)])) (fun t k => XS.aloadN X47.here hx rfl (hb hby d6_15) rfl rfl k) ?_
    obtain ⟨T48, X48, e48, st48⟩ := getF X47 hx hZ hown (host := "") (Or.inl (hw _ (List.mem_of_getElem? (i := 22) rfl))) Via.refl e47 P5 (g := (mkF m 16 #[.val (.ref p0), .val (.ref p1)] [(.ref p1), (.int top0)])) rfl rfl (hb hby d6_16)
    refine own_via (T48.setTop (mkF m 19 #[.val (.ref p0), .val (.ref p1)] [(.int top1), (.int top0)])) (fun t k => st48 t k) ?_
    by_cases hc19_49 : top1 < top0
    · refine own_via (T48.setTop (mkF m 48 #[.val (.ref p0), .val (.ref p1)] [])) (fun t k => XS.icmpYes X48.here hx rfl (pc0 := 19) (pc' := 48) rfl (hb hby d6_19) rfl (tlt hc19_49).2.2.1 (by decide) (by decide) k) ?_
      refine own_via (T48.setTop (mkF m 49 #[.val (.ref p0), .val (.ref p1)] [(.int (0 : Int32))])) (fun t k => XS.iconst X48.here hx rfl (hb hby d6_48) k) ?_
      refine own_leave X48 Bd.notSynchronized (v := some (.int (0 : Int32))) (fun h => by rw [Bd.returns] at h; cases h) (fun fs hr => retN X48 hx (t := .boolean) Bd.returns (by simp) (hb hby d6_49) hr) ?_ (by decide) (by decide)
      exact ⟨(by show some (Value.int _) = some (Value.int _); unfold own_f6; rw [if_neg hc8_46, if_pos hc19_49]), N0, e48⟩
    · refine own_via (T48.setTop (mkF m 22 #[.val (.ref p0), .val (.ref p1)] [])) (fun t k => XS.icmpNo X48.here hx rfl (hb hby d6_19) rfl (flt hc19_49).2.2.1 k) ?_
      refine own_via (T48.setTop (mkF m 23 #[.val (.ref p0), .val (.ref p1)] [(.ref p1)])) (fun t k => XS.aloadN X48.here hx rfl (hb hby d6_22) rfl rfl k) ?_
      obtain ⟨T50, X50, e50, st50⟩ := getF X48 hx hZ hown (host := "") (Or.inl (hw _ (List.mem_of_getElem? (i := 24) rfl))) Via.refl e48 P6 (g := (mkF m 23 #[.val (.ref p0), .val (.ref p1)] [(.ref p1)])) rfl rfl (hb hby d6_23)
      refine own_via (T50.setTop (mkF m 26 #[.val (.ref p0), .val (.ref p1)] [(.int right1)])) (fun t k => st50 t k) ?_
      refine own_via (T50.setTop (mkF m 27 #[.val (.ref p0), .val (.ref p1)] [(.ref p0), (.int right1)])) (fun t k => XS.aloadN X50.here hx rfl (hb hby d6_26) rfl rfl k) ?_
      obtain ⟨T51, X51, e51, st51⟩ := getF X50 hx hZ hown (host := "") (Or.inl (hw _ (List.mem_of_getElem? (i := 24) rfl))) Via.refl e50 P2 (g := (mkF m 27 #[.val (.ref p0), .val (.ref p1)] [(.ref p0), (.int right1)])) rfl rfl (hb hby d6_27)
      refine own_via (T51.setTop (mkF m 30 #[.val (.ref p0), .val (.ref p1)] [(.int right0), (.int right1)])) (fun t k => st51 t k) ?_
      by_cases hc30_52 : right0 < right1
      · refine own_via (T51.setTop (mkF m 48 #[.val (.ref p0), .val (.ref p1)] [])) (fun t k => XS.icmpYes X51.here hx rfl (pc0 := 30) (pc' := 48) rfl (hb hby d6_30) rfl (tlt hc30_52).2.2.1 (by decide) (by decide) k) ?_
        refine own_via (T51.setTop (mkF m 49 #[.val (.ref p0), .val (.ref p1)] [(.int (0 : Int32))])) (fun t k => XS.iconst X51.here hx rfl (hb hby d6_48) k) ?_
        refine own_leave X51 Bd.notSynchronized (v := some (.int (0 : Int32))) (fun h => by rw [Bd.returns] at h; cases h) (fun fs hr => retN X51 hx (t := .boolean) Bd.returns (by simp) (hb hby d6_49) hr) ?_ (by decide) (by decide)
        exact ⟨(by show some (Value.int _) = some (Value.int _); unfold own_f6; rw [if_neg hc8_46, if_neg hc19_49, if_pos hc30_52]), N0, e51⟩
      · refine own_via (T51.setTop (mkF m 33 #[.val (.ref p0), .val (.ref p1)] [])) (fun t k => XS.icmpNo X51.here hx rfl (hb hby d6_30) rfl (flt hc30_52).2.2.1 k) ?_
        refine own_via (T51.setTop (mkF m 34 #[.val (.ref p0), .val (.ref p1)] [(.ref p1)])) (fun t k => XS.aloadN X51.here hx rfl (hb hby d6_33) rfl rfl k) ?_
        obtain ⟨T53, X53, e53, st53⟩ := getF X51 hx hZ hown (host := "") (Or.inl (hw _ (List.mem_of_getElem? (i := 26) rfl))) Via.refl e51 P7 (g := (mkF m 34 #[.val (.ref p0), .val (.ref p1)] [(.ref p1)])) rfl rfl (hb hby d6_34)
        refine own_via (T53.setTop (mkF m 37 #[.val (.ref p0), .val (.ref p1)] [(.int bottom1)])) (fun t k => st53 t k) ?_
        refine own_via (T53.setTop (mkF m 38 #[.val (.ref p0), .val (.ref p1)] [(.ref p0), (.int bottom1)])) (fun t k => XS.aloadN X53.here hx rfl (hb hby d6_37) rfl rfl k) ?_
        obtain ⟨T54, X54, e54, st54⟩ := getF X53 hx hZ hown (host := "") (Or.inl (hw _ (List.mem_of_getElem? (i := 26) rfl))) Via.refl e53 P3 (g := (mkF m 38 #[.val (.ref p0), .val (.ref p1)] [(.ref p0), (.int bottom1)])) rfl rfl (hb hby d6_38)
        refine own_via (T54.setTop (mkF m 41 #[.val (.ref p0), .val (.ref p1)] [(.int bottom0), (.int bottom1)])) (fun t k => st54 t k) ?_
        by_cases hc41_55 : bottom0 < bottom1
        · refine own_via (T54.setTop (mkF m 48 #[.val (.ref p0), .val (.ref p1)] [])) (fun t k => XS.icmpYes X54.here hx rfl (pc0 := 41) (pc' := 48) rfl (hb hby d6_41) rfl (tlt hc41_55).2.2.1 (by decide) (by decide) k) ?_
          refine own_via (T54.setTop (mkF m 49 #[.val (.ref p0), .val (.ref p1)] [(.int (0 : Int32))])) (fun t k => XS.iconst X54.here hx rfl (hb hby d6_48) k) ?_
          refine own_leave X54 Bd.notSynchronized (v := some (.int (0 : Int32))) (fun h => by rw [Bd.returns] at h; cases h) (fun fs hr => retN X54 hx (t := .boolean) Bd.returns (by simp) (hb hby d6_49) hr) ?_ (by decide) (by decide)
          exact ⟨(by show some (Value.int _) = some (Value.int _); unfold own_f6; rw [if_neg hc8_46, if_neg hc19_49, if_neg hc30_52, if_pos hc41_55]), N0, e54⟩
        · refine own_via (T54.setTop (mkF m 44 #[.val (.ref p0), .val (.ref p1)] [])) (fun t k => XS.icmpNo X54.here hx rfl (hb hby d6_41) rfl (flt hc41_55).2.2.1 k) ?_
          refine own_via (T54.setTop (mkF m 45 #[.val (.ref p0), .val (.ref p1)] [(.int (1 : Int32))])) (fun t k => XS.iconst X54.here hx rfl (hb hby d6_44) k) ?_
          refine own_via (T54.setTop (mkF m 49 #[.val (.ref p0), .val (.ref p1)] [(.int (1 : Int32))])) (fun t k => XS.goto X54.here hx rfl (pc0 := 45) (pc' := 49) rfl (hb hby d6_45) (by decide) (by decide) k) ?_
          refine own_leave X54 Bd.notSynchronized (v := some (.int (1 : Int32))) (fun h => by rw [Bd.returns] at h; cases h) (fun fs hr => retN X54 hx (t := .boolean) Bd.returns (by simp) (hb hby d6_49) hr) ?_ (by decide) (by decide)
          exact ⟨(by show some (Value.int _) = some (Value.int _); unfold own_f6; rw [if_neg hc8_46, if_neg hc19_49, if_neg hc30_52, if_neg hc41_55]), N0, e54⟩
theorem own_self (l t r b : Int32) : own_f6 l t r b l t r b = 1 := by
  unfold own_f6
  rw [if_neg Int32.lt_irrefl, if_neg Int32.lt_irrefl, if_neg Int32.lt_irrefl, if_neg Int32.lt_irrefl]
def own_Q0 (n0 : Nat) (v : Option Value) (h : Heap) (L : List Loc) : Prop := v = some (.int 1) ∧ Fr n0 L
theorem pd_2 : parseMethodDescriptor "(JJ)Lcom/example/rondo/rondo/Rect;" = some ⟨[.long, .long], some (.object "com/example/rondo/rondo/Rect")⟩ := by decide +kernel
theorem pd_3 : parseMethodDescriptor "(Lcom/example/rondo/rondo/Rect;)Z" = some ⟨[(.object "com/example/rondo/rondo/Rect")], some .boolean⟩ := by decide +kernel
theorem ef_0 (m : MethodId) (p0 : Int64) (p1 : Int64) (p2 : Int64) (p3 : Int64) : entryFrame m #[(.long p0), (.long p1), (.long p2), (.long p3)] maxLocals = mkF m 0 #[.val (.long p0), .second, .val (.long p1), .second, .val (.long p2), .second, .val (.long p3), .second, .unset, .unset, .unset, .unset] [] := by first | (simp [entryFrame, mkF, argsToLocals, Value.category, maxLocals]; done) | rfl
set_option maxRecDepth 65536 in
set_option maxHeartbeats 40000000 in
theorem rm0 (l : Launch) (Z : State) (a0 : Array Value) (hw : ∀ d ∈ tables_1, d.before a0 Z = true) (ws : List Jvm.Cond) (p0 : Int64) (p1 : Int64) (p2 : Int64) (p3 : Int64) (h0 : Heap) (n0 : Nat) (Z0 : n0 ≤ h0.size)  :
    MetFree l x (head1 (Jvm.Cond.code x code maxLocals ret :: ws) room_1) (fun a U => a = #[(.long p0), (.long p1), (.long p2), (.long p3)] ∧ Z.Warmed39 U.vm ∧ U.heap = h0) (fun _ _ _ _ _ => True) (fun _ U o U' => ∃ v L, o = .returned v ∧ (own_Q0 n0) v U'.heap L ∧ FrameEnd U o U' L room_1.cells room_1.slots) := by
  refine MetFree.of_bodySF (plainFor_of_name pn_com_example_rondo_rondo_RectContainsPinLaw) hisR ?_
  intro p e s m args below meth c s₁ Bd hml0 hP hK
  obtain ⟨rfl, hZ, hh⟩ := hP
  have hx := Bd.exec
  have hby := Bd.bytes
  have hml : c.maxLocals = 12 := hml0
  have hown : s.vm.findClass "com/example/rondo/rondo/RectContainsPinLaw" = some m.cls := findClass_of_methodNamed Bd.named
  have hnm := (name_of_methodNamed Bd.named Bd.method).1
  have X0 : Stand p l e room_1 s m #[(.long p0), (.long p1), (.long p2), (.long p3)] below meth c s₁ [] 0 0 := Stand.of_body Bd
  have e0 : s₁.heap = h0 := by rw [← hh, Bd.state]; rfl
  have N0 := Fr.nil n0
  refine own_body (QQ := (own_Q0 n0)) (ef_0 m p0 p1 p2 p3) ?_
  refine own_via (s₁.setTop (mkF m 1 #[.val (.long p0), .second, .val (.long p1), .second, .val (.long p2), .second, .val (.long p3), .second, .unset, .unset, .unset, .unset] [(.long p0)])) (fun t k => XS.lloadN X0.here hx rfl (hb hby at_0) rfl  k) ?_
  refine own_via (s₁.setTop (mkF m 2 #[.val (.long p0), .second, .val (.long p1), .second, .val (.long p2), .second, .val (.long p3), .second, .unset, .unset, .unset, .unset] [(.long p1), (.long p0)])) (fun t k => XS.lloadN X0.here hx rfl (hb hby at_1) rfl  k) ?_
  obtain ⟨_, _, ⟨T56, L56, k56, n56⟩, -, X56, ⟨Lc56, hQ56, l56, y56, z56⟩, st56⟩ := Jvm.LawKit.callS X0 hx (y := (⟨"com/example/rondo/rondo/RectContainsPinLaw", "make", "(JJ)Lcom/example/rondo/rondo/Rect;"⟩ : MethodName)) hown (mvT hZ (hw _ (List.mem_of_getElem? (i := 0) rfl))) (mvT hZ (hw _ (List.mem_of_getElem? (i := 1) rfl))) (mvT hZ (hw _ (List.mem_of_getElem? (i := 2) rfl))) (mvT hZ (hw _ (List.mem_of_getElem? (i := 3) rfl))) (by decide) (backOf (W := 0) (rm1 l Z a0 hw [] p0 p1 h0 n0 (Nat.le_trans Z0 (Keep.refl h0 []).1) ) hZ (hw _ (List.mem_of_getElem? (i := 3) rfl)) (hw _ (List.mem_of_getElem? (i := 2) rfl)) (by decide) (by decide)) (g := (mkF m 2 #[.val (.long p0), .second, .val (.long p1), .second, .val (.long p2), .second, .val (.long p3), .second, .unset, .unset, .unset, .unset] [(.long p1), (.long p0)])) rfl (by rw [hml]; rfl) (argsL := [(.long p0), (.long p1)]) (rest := []) (lenOf pd_2 rfl) rfl (by show 2 * 0 + _ ≤ _; exact Nat.le_of_eq rfl) (hb hby at_2) (fun _ _ => ⟨rfl, e0, (by decide : 0 + 1 ≤ _), (by decide : 0 + 4 ≤ _)⟩)
  dsimp only [Pt.U, Pt.locs, Pt.cells, Pt.slots] at X56 l56 y56 z56 st56 hQ56
  subst l56 y56 z56
  obtain ⟨h56, e56⟩ : ∃ h, T56.heap = h := ⟨_, rfl⟩
  rw [e56] at hQ56
  obtain ⟨r_56, rfl, N56q, K56q, gg_r_56, sq_r_56, G56_0, G56_1, G56_2, G56_3, G56_4⟩ := hQ56
  have N56 := Fr.app N0 N56q
  have sz_r_56 : h0.size ≤ r_56 := Nat.le_trans (Keep.refl h0 []).1 sq_r_56
  have K57 : Keep h0 h56 [] := (Keep.refl h0 []).trans K56q (fun x hx => nomatch hx)
  obtain ⟨z58, hz58⟩ : ∃ z : Int32, z = (own_f2 (p0.toInt32) (((p0.toUInt64 >>> ((32 : Int32) &&& 0x3f).toInt64.toUInt64).toInt64).toInt32)) := ⟨_, rfl⟩
  rw [← hz58] at G56_1
  obtain ⟨z59, hz59⟩ : ∃ z : Int32, z = (own_f2 (p1.toInt32) (((p1.toUInt64 >>> ((32 : Int32) &&& 0x3f).toInt64.toUInt64).toInt64).toInt32)) := ⟨_, rfl⟩
  rw [← hz59] at G56_2
  obtain ⟨z60, hz60⟩ : ∃ z : Int32, z = (own_f3 (p0.toInt32) (((p0.toUInt64 >>> ((32 : Int32) &&& 0x3f).toInt64.toUInt64).toInt64).toInt32)) := ⟨_, rfl⟩
  rw [← hz60] at G56_3
  obtain ⟨z61, hz61⟩ : ∃ z : Int32, z = (own_f3 (p1.toInt32) (((p1.toUInt64 >>> ((32 : Int32) &&& 0x3f).toInt64.toUInt64).toInt64).toInt32)) := ⟨_, rfl⟩
  rw [← hz61] at G56_4
  refine own_via (T56.setTop (mkF m 5 #[.val (.long p0), .second, .val (.long p1), .second, .val (.long p2), .second, .val (.long p3), .second, .unset, .unset, .unset, .unset] [(.ref r_56)])) (fun t k => st56 t k) ?_
  refine own_via (T56.setTop (mkF m 7 #[.val (.long p0), .second, .val (.long p1), .second, .val (.long p2), .second, .val (.long p3), .second, .val (.ref r_56), .unset, .unset, .unset] [])) (fun t k => XS.astore X56.here hx rfl (hb hby at_5) rfl rfl (l' := #[.val (.long p0), .second, .val (.long p1), .second, .val (.long p2), .second, .val (.long p3), .second, .val (.ref r_56), .unset, .unset, .unset]) rfl k) ?_
  refine own_via (T56.setTop (mkF m 9 #[.val (.long p0), .second, .val (.long p1), .second, .val (.long p2), .second, .val (.long p3), .second, .val (.ref r_56), .unset, .unset, .unset] [(.long p2)])) (fun t k => XS.lload X56.here hx rfl (hb hby at_7) rfl  k) ?_
  refine own_via (T56.setTop (mkF m 11 #[.val (.long p0), .second, .val (.long p1), .second, .val (.long p2), .second, .val (.long p3), .second, .val (.ref r_56), .unset, .unset, .unset] [(.long p3), (.long p2)])) (fun t k => XS.lload X56.here hx rfl (hb hby at_9) rfl  k) ?_
  obtain ⟨_, _, ⟨T62, L62, k62, n62⟩, -, X62, ⟨Lc62, hQ62, l62, y62, z62⟩, st62⟩ := Jvm.LawKit.callS X56 hx (y := (⟨"com/example/rondo/rondo/RectContainsPinLaw", "make", "(JJ)Lcom/example/rondo/rondo/Rect;"⟩ : MethodName)) hown (mvT hZ (hw _ (List.mem_of_getElem? (i := 0) rfl))) (mvT hZ (hw _ (List.mem_of_getElem? (i := 1) rfl))) (mvT hZ (hw _ (List.mem_of_getElem? (i := 2) rfl))) (mvT hZ (hw _ (List.mem_of_getElem? (i := 3) rfl))) (by decide) (backOf (W := 0) (rm1 l Z a0 hw [] p2 p3 h56 n0 (Nat.le_trans Z0 K57.1) ) hZ (hw _ (List.mem_of_getElem? (i := 3) rfl)) (hw _ (List.mem_of_getElem? (i := 2) rfl)) (by decide) (by decide)) (g := (mkF m 11 #[.val (.long p0), .second, .val (.long p1), .second, .val (.long p2), .second, .val (.long p3), .second, .val (.ref r_56), .unset, .unset, .unset] [(.long p3), (.long p2)])) rfl (by rw [hml]; rfl) (argsL := [(.long p2), (.long p3)]) (rest := []) (lenOf pd_2 rfl) rfl (by show 2 * 0 + _ ≤ _; exact Nat.le_of_eq rfl) (hb hby at_11) (fun _ _ => ⟨rfl, e56, (by decide : 1 + 1 ≤ _), (by decide : 4 + 4 ≤ _)⟩)
  dsimp only [Pt.U, Pt.locs, Pt.cells, Pt.slots] at X62 l62 y62 z62 st62 hQ62
  subst l62 y62 z62
  obtain ⟨h62, e62⟩ : ∃ h, T62.heap = h := ⟨_, rfl⟩
  rw [e62] at hQ62
  obtain ⟨r_62, rfl, N62q, K62q, gg_r_62, sq_r_62, G62_0, G62_1, G62_2, G62_3, G62_4⟩ := hQ62
  have N62 := Fr.app N56 N62q
  have sz_r_62 : h0.size ≤ r_62 := Nat.le_trans K57.1 sq_r_62
  have ne_r_56_r_62 : r_56 ≠ r_62 := Nat.ne_of_lt (Nat.lt_of_lt_of_le G56_0.lt sq_r_62)
  have K63 : Keep h0 h62 [] := K57.trans K62q (fun x hx => nomatch hx)
  obtain ⟨z64, hz64⟩ : ∃ z : Int32, z = (own_f2 (p2.toInt32) (((p2.toUInt64 >>> ((32 : Int32) &&& 0x3f).toInt64.toUInt64).toInt64).toInt32)) := ⟨_, rfl⟩
  rw [← hz64] at G62_1
  obtain ⟨z65, hz65⟩ : ∃ z : Int32, z = (own_f2 (p3.toInt32) (((p3.toUInt64 >>> ((32 : Int32) &&& 0x3f).toInt64.toUInt64).toInt64).toInt32)) := ⟨_, rfl⟩
  rw [← hz65] at G62_2
  obtain ⟨z66, hz66⟩ : ∃ z : Int32, z = (own_f3 (p2.toInt32) (((p2.toUInt64 >>> ((32 : Int32) &&& 0x3f).toInt64.toUInt64).toInt64).toInt32)) := ⟨_, rfl⟩
  rw [← hz66] at G62_3
  obtain ⟨z67, hz67⟩ : ∃ z : Int32, z = (own_f3 (p3.toInt32) (((p3.toUInt64 >>> ((32 : Int32) &&& 0x3f).toInt64.toUInt64).toInt64).toInt32)) := ⟨_, rfl⟩
  rw [← hz67] at G62_4
  refine own_via (T62.setTop (mkF m 14 #[.val (.long p0), .second, .val (.long p1), .second, .val (.long p2), .second, .val (.long p3), .second, .val (.ref r_56), .unset, .unset, .unset] [(.ref r_62)])) (fun t k => st62 t k) ?_
  refine own_via (T62.setTop (mkF m 16 #[.val (.long p0), .second, .val (.long p1), .second, .val (.long p2), .second, .val (.long p3), .second, .val (.ref r_56), .val (.ref r_62), .unset, .unset] [])) (fun t k => XS.astore X62.here hx rfl (hb hby at_14) rfl rfl (l' := #[.val (.long p0), .second, .val (.long p1), .second, .val (.long p2), .second, .val (.long p3), .second, .val (.ref r_56), .val (.ref r_62), .unset, .unset]) rfl k) ?_
  refine own_via (T62.setTop (mkF m 18 #[.val (.long p0), .second, .val (.long p1), .second, .val (.long p2), .second, .val (.long p3), .second, .val (.ref r_56), .val (.ref r_62), .unset, .unset] [(.ref r_56)])) (fun t k => XS.aload X62.here hx rfl (hb hby at_16) rfl rfl k) ?_
  have F69 := (G56_1.keep K62q (by simp))
  obtain ⟨T68, X68, e68, st68⟩ := getF X62 hx hZ hown (host := "") (Or.inl (hw _ (List.mem_of_getElem? (i := 28) rfl))) Via.refl e62 F69 (g := (mkF m 18 #[.val (.long p0), .second, .val (.long p1), .second, .val (.long p2), .second, .val (.long p3), .second, .val (.ref r_56), .val (.ref r_62), .unset, .unset] [(.ref r_56)])) rfl rfl (hb hby at_18)
  refine own_via (T68.setTop (mkF m 21 #[.val (.long p0), .second, .val (.long p1), .second, .val (.long p2), .second, .val (.long p3), .second, .val (.ref r_56), .val (.ref r_62), .unset, .unset] [(.int z58)])) (fun t k => st68 t k) ?_
  refine own_via (T68.setTop (mkF m 23 #[.val (.long p0), .second, .val (.long p1), .second, .val (.long p2), .second, .val (.long p3), .second, .val (.ref r_56), .val (.ref r_62), .unset, .unset] [(.ref r_62), (.int z58)])) (fun t k => XS.aload X68.here hx rfl (hb hby at_21) rfl rfl k) ?_
  obtain ⟨T70, X70, e70, st70⟩ := getF X68 hx hZ hown (host := "") (Or.inl (hw _ (List.mem_of_getElem? (i := 28) rfl))) Via.refl e68 G62_1 (g := (mkF m 23 #[.val (.long p0), .second, .val (.long p1), .second, .val (.long p2), .second, .val (.long p3), .second, .val (.ref r_56), .val (.ref r_62), .unset, .unset] [(.ref r_62), (.int z58)])) rfl rfl (hb hby at_23)
  refine own_via (T70.setTop (mkF m 26 #[.val (.long p0), .second, .val (.long p1), .second, .val (.long p2), .second, .val (.long p3), .second, .val (.ref r_56), .val (.ref r_62), .unset, .unset] [(.int z64), (.int z58)])) (fun t k => st70 t k) ?_
  obtain ⟨_, _, ⟨T71, L71, k71, n71⟩, -, X71, ⟨Lc71, hQ71, l71, y71, z71⟩, st71⟩ := Jvm.LawKit.callS X70 hx (y := (⟨"java/lang/Math", "min", "(II)I"⟩ : MethodName)) hown (mvT hZ (hw _ (List.mem_of_getElem? (i := 7) rfl))) (mvT hZ (hw _ (List.mem_of_getElem? (i := 8) rfl))) (mvT hZ (hw _ (List.mem_of_getElem? (i := 9) rfl))) (mvT hZ (hw _ (List.mem_of_getElem? (i := 10) rfl))) (by decide) (backOf (W := 0) (rm2 l Z a0 hw [] z58 z64 h62 n0 (Nat.le_trans Z0 K63.1)) hZ (hw _ (List.mem_of_getElem? (i := 10) rfl)) (hw _ (List.mem_of_getElem? (i := 9) rfl)) (by decide) (by decide)) (g := (mkF m 26 #[.val (.long p0), .second, .val (.long p1), .second, .val (.long p2), .second, .val (.long p3), .second, .val (.ref r_56), .val (.ref r_62), .unset, .unset] [(.int z64), (.int z58)])) rfl (by rw [hml]; rfl) (argsL := [(.int z58), (.int z64)]) (rest := []) (lenOf pd_0 rfl) rfl (by show 2 * 0 + _ ≤ _; exact Nat.le_of_eq rfl) (hb hby at_26) (fun _ _ => ⟨rfl, e70, (by decide : 2 + 0 ≤ _), (by decide : 8 + 0 ≤ _)⟩)
  dsimp only [Pt.U, Pt.locs, Pt.cells, Pt.slots] at X71 l71 y71 z71 st71 hQ71
  subst l71 y71 z71
  obtain ⟨rfl, N71q, e71⟩ := hQ71
  have N71 := Fr.app N62 N71q
  refine own_via (T71.setTop (mkF m 29 #[.val (.long p0), .second, .val (.long p1), .second, .val (.long p2), .second, .val (.long p3), .second, .val (.ref r_56), .val (.ref r_62), .unset, .unset] [(.int (own_f2 z58 z64))])) (fun t k => st71 t k) ?_
  refine own_via (T71.setTop (mkF m 31 #[.val (.long p0), .second, .val (.long p1), .second, .val (.long p2), .second, .val (.long p3), .second, .val (.ref r_56), .val (.ref r_62), .unset, .unset] [(.ref r_56), (.int (own_f2 z58 z64))])) (fun t k => XS.aload X71.here hx rfl (hb hby at_29) rfl rfl k) ?_
  obtain ⟨T72, X72, e72, st72⟩ := getF X71 hx hZ hown (host := "") (Or.inl (hw _ (List.mem_of_getElem? (i := 28) rfl))) Via.refl e71 F69 (g := (mkF m 31 #[.val (.long p0), .second, .val (.long p1), .second, .val (.long p2), .second, .val (.long p3), .second, .val (.ref r_56), .val (.ref r_62), .unset, .unset] [(.ref r_56), (.int (own_f2 z58 z64))])) rfl rfl (hb hby at_31)
  refine own_via (T72.setTop (mkF m 34 #[.val (.long p0), .second, .val (.long p1), .second, .val (.long p2), .second, .val (.long p3), .second, .val (.ref r_56), .val (.ref r_62), .unset, .unset] [(.int z58), (.int (own_f2 z58 z64))])) (fun t k => st72 t k) ?_
  by_cases hc34_73 : (own_f2 z58 z64) = z58
  · refine own_via (T72.setTop (mkF m 37 #[.val (.long p0), .second, .val (.long p1), .second, .val (.long p2), .second, .val (.long p3), .second, .val (.ref r_56), .val (.ref r_62), .unset, .unset] [])) (fun t k => XS.icmpNo X72.here hx rfl (hb hby at_34) rfl (teq hc34_73).2 k) ?_
    refine own_via (T72.setTop (mkF m 39 #[.val (.long p0), .second, .val (.long p1), .second, .val (.long p2), .second, .val (.long p3), .second, .val (.ref r_56), .val (.ref r_62), .unset, .unset] [(.ref r_56)])) (fun t k => XS.aload X72.here hx rfl (hb hby at_37) rfl rfl k) ?_
    have F75 := (G56_2.keep K62q (by simp))
    obtain ⟨T74, X74, e74, st74⟩ := getF X72 hx hZ hown (host := "") (Or.inl (hw _ (List.mem_of_getElem? (i := 34) rfl))) Via.refl e72 F75 (g := (mkF m 39 #[.val (.long p0), .second, .val (.long p1), .second, .val (.long p2), .second, .val (.long p3), .second, .val (.ref r_56), .val (.ref r_62), .unset, .unset] [(.ref r_56)])) rfl rfl (hb hby at_39)
    refine own_via (T74.setTop (mkF m 42 #[.val (.long p0), .second, .val (.long p1), .second, .val (.long p2), .second, .val (.long p3), .second, .val (.ref r_56), .val (.ref r_62), .unset, .unset] [(.int z59)])) (fun t k => st74 t k) ?_
    refine own_via (T74.setTop (mkF m 44 #[.val (.long p0), .second, .val (.long p1), .second, .val (.long p2), .second, .val (.long p3), .second, .val (.ref r_56), .val (.ref r_62), .unset, .unset] [(.ref r_62), (.int z59)])) (fun t k => XS.aload X74.here hx rfl (hb hby at_42) rfl rfl k) ?_
    obtain ⟨T76, X76, e76, st76⟩ := getF X74 hx hZ hown (host := "") (Or.inl (hw _ (List.mem_of_getElem? (i := 34) rfl))) Via.refl e74 G62_2 (g := (mkF m 44 #[.val (.long p0), .second, .val (.long p1), .second, .val (.long p2), .second, .val (.long p3), .second, .val (.ref r_56), .val (.ref r_62), .unset, .unset] [(.ref r_62), (.int z59)])) rfl rfl (hb hby at_44)
    refine own_via (T76.setTop (mkF m 47 #[.val (.long p0), .second, .val (.long p1), .second, .val (.long p2), .second, .val (.long p3), .second, .val (.ref r_56), .val (.ref r_62), .unset, .unset] [(.int z65), (.int z59)])) (fun t k => st76 t k) ?_
    obtain ⟨_, _, ⟨T77, L77, k77, n77⟩, -, X77, ⟨Lc77, hQ77, l77, y77, z77⟩, st77⟩ := Jvm.LawKit.callS X76 hx (y := (⟨"java/lang/Math", "min", "(II)I"⟩ : MethodName)) hown (mvT hZ (hw _ (List.mem_of_getElem? (i := 7) rfl))) (mvT hZ (hw _ (List.mem_of_getElem? (i := 8) rfl))) (mvT hZ (hw _ (List.mem_of_getElem? (i := 9) rfl))) (mvT hZ (hw _ (List.mem_of_getElem? (i := 10) rfl))) (by decide) (backOf (W := 0) (rm2 l Z a0 hw [] z59 z65 h62 n0 (Nat.le_trans Z0 K63.1)) hZ (hw _ (List.mem_of_getElem? (i := 10) rfl)) (hw _ (List.mem_of_getElem? (i := 9) rfl)) (by decide) (by decide)) (g := (mkF m 47 #[.val (.long p0), .second, .val (.long p1), .second, .val (.long p2), .second, .val (.long p3), .second, .val (.ref r_56), .val (.ref r_62), .unset, .unset] [(.int z65), (.int z59)])) rfl (by rw [hml]; rfl) (argsL := [(.int z59), (.int z65)]) (rest := []) (lenOf pd_0 rfl) rfl (by show 2 * 0 + _ ≤ _; exact Nat.le_of_eq rfl) (hb hby at_47) (fun _ _ => ⟨rfl, e76, (by decide : 2 + 0 ≤ _), (by decide : 8 + 0 ≤ _)⟩)
    dsimp only [Pt.U, Pt.locs, Pt.cells, Pt.slots] at X77 l77 y77 z77 st77 hQ77
    subst l77 y77 z77
    obtain ⟨rfl, N77q, e77⟩ := hQ77
    have N77 := Fr.app N71 N77q
    refine own_via (T77.setTop (mkF m 50 #[.val (.long p0), .second, .val (.long p1), .second, .val (.long p2), .second, .val (.long p3), .second, .val (.ref r_56), .val (.ref r_62), .unset, .unset] [(.int (own_f2 z59 z65))])) (fun t k => st77 t k) ?_
    refine own_via (T77.setTop (mkF m 52 #[.val (.long p0), .second, .val (.long p1), .second, .val (.long p2), .second, .val (.long p3), .second, .val (.ref r_56), .val (.ref r_62), .unset, .unset] [(.ref r_56), (.int (own_f2 z59 z65))])) (fun t k => XS.aload X77.here hx rfl (hb hby at_50) rfl rfl k) ?_
    obtain ⟨T78, X78, e78, st78⟩ := getF X77 hx hZ hown (host := "") (Or.inl (hw _ (List.mem_of_getElem? (i := 34) rfl))) Via.refl e77 F75 (g := (mkF m 52 #[.val (.long p0), .second, .val (.long p1), .second, .val (.long p2), .second, .val (.long p3), .second, .val (.ref r_56), .val (.ref r_62), .unset, .unset] [(.ref r_56), (.int (own_f2 z59 z65))])) rfl rfl (hb hby at_52)
    refine own_via (T78.setTop (mkF m 55 #[.val (.long p0), .second, .val (.long p1), .second, .val (.long p2), .second, .val (.long p3), .second, .val (.ref r_56), .val (.ref r_62), .unset, .unset] [(.int z59), (.int (own_f2 z59 z65))])) (fun t k => st78 t k) ?_
    by_cases hc55_79 : (own_f2 z59 z65) = z59
    · refine own_via (T78.setTop (mkF m 58 #[.val (.long p0), .second, .val (.long p1), .second, .val (.long p2), .second, .val (.long p3), .second, .val (.ref r_56), .val (.ref r_62), .unset, .unset] [])) (fun t k => XS.icmpNo X78.here hx rfl (hb hby at_55) rfl (teq hc55_79).2 k) ?_
      refine own_via (T78.setTop (mkF m 60 #[.val (.long p0), .second, .val (.long p1), .second, .val (.long p2), .second, .val (.long p3), .second, .val (.ref r_56), .val (.ref r_62), .unset, .unset] [(.ref r_56)])) (fun t k => XS.aload X78.here hx rfl (hb hby at_58) rfl rfl k) ?_
      have F81 := (G56_3.keep K62q (by simp))
      obtain ⟨T80, X80, e80, st80⟩ := getF X78 hx hZ hown (host := "") (Or.inl (hw _ (List.mem_of_getElem? (i := 35) rfl))) Via.refl e78 F81 (g := (mkF m 60 #[.val (.long p0), .second, .val (.long p1), .second, .val (.long p2), .second, .val (.long p3), .second, .val (.ref r_56), .val (.ref r_62), .unset, .unset] [(.ref r_56)])) rfl rfl (hb hby at_60)
      refine own_via (T80.setTop (mkF m 63 #[.val (.long p0), .second, .val (.long p1), .second, .val (.long p2), .second, .val (.long p3), .second, .val (.ref r_56), .val (.ref r_62), .unset, .unset] [(.int z60)])) (fun t k => st80 t k) ?_
      refine own_via (T80.setTop (mkF m 65 #[.val (.long p0), .second, .val (.long p1), .second, .val (.long p2), .second, .val (.long p3), .second, .val (.ref r_56), .val (.ref r_62), .unset, .unset] [(.ref r_62), (.int z60)])) (fun t k => XS.aload X80.here hx rfl (hb hby at_63) rfl rfl k) ?_
      obtain ⟨T82, X82, e82, st82⟩ := getF X80 hx hZ hown (host := "") (Or.inl (hw _ (List.mem_of_getElem? (i := 35) rfl))) Via.refl e80 G62_3 (g := (mkF m 65 #[.val (.long p0), .second, .val (.long p1), .second, .val (.long p2), .second, .val (.long p3), .second, .val (.ref r_56), .val (.ref r_62), .unset, .unset] [(.ref r_62), (.int z60)])) rfl rfl (hb hby at_65)
      refine own_via (T82.setTop (mkF m 68 #[.val (.long p0), .second, .val (.long p1), .second, .val (.long p2), .second, .val (.long p3), .second, .val (.ref r_56), .val (.ref r_62), .unset, .unset] [(.int z66), (.int z60)])) (fun t k => st82 t k) ?_
      obtain ⟨_, _, ⟨T83, L83, k83, n83⟩, -, X83, ⟨Lc83, hQ83, l83, y83, z83⟩, st83⟩ := Jvm.LawKit.callS X82 hx (y := (⟨"java/lang/Math", "max", "(II)I"⟩ : MethodName)) hown (mvT hZ (hw _ (List.mem_of_getElem? (i := 11) rfl))) (mvT hZ (hw _ (List.mem_of_getElem? (i := 12) rfl))) (mvT hZ (hw _ (List.mem_of_getElem? (i := 9) rfl))) (mvT hZ (hw _ (List.mem_of_getElem? (i := 13) rfl))) (by decide) (backOf (W := 0) (rm3 l Z a0 hw [] z60 z66 h62 n0 (Nat.le_trans Z0 K63.1)) hZ (hw _ (List.mem_of_getElem? (i := 13) rfl)) (hw _ (List.mem_of_getElem? (i := 9) rfl)) (by decide) (by decide)) (g := (mkF m 68 #[.val (.long p0), .second, .val (.long p1), .second, .val (.long p2), .second, .val (.long p3), .second, .val (.ref r_56), .val (.ref r_62), .unset, .unset] [(.int z66), (.int z60)])) rfl (by rw [hml]; rfl) (argsL := [(.int z60), (.int z66)]) (rest := []) (lenOf pd_0 rfl) rfl (by show 2 * 0 + _ ≤ _; exact Nat.le_of_eq rfl) (hb hby at_68) (fun _ _ => ⟨rfl, e82, (by decide : 2 + 0 ≤ _), (by decide : 8 + 0 ≤ _)⟩)
      dsimp only [Pt.U, Pt.locs, Pt.cells, Pt.slots] at X83 l83 y83 z83 st83 hQ83
      subst l83 y83 z83
      obtain ⟨rfl, N83q, e83⟩ := hQ83
      have N83 := Fr.app N77 N83q
      refine own_via (T83.setTop (mkF m 71 #[.val (.long p0), .second, .val (.long p1), .second, .val (.long p2), .second, .val (.long p3), .second, .val (.ref r_56), .val (.ref r_62), .unset, .unset] [(.int (own_f3 z60 z66))])) (fun t k => st83 t k) ?_
      refine own_via (T83.setTop (mkF m 73 #[.val (.long p0), .second, .val (.long p1), .second, .val (.long p2), .second, .val (.long p3), .second, .val (.ref r_56), .val (.ref r_62), .unset, .unset] [(.ref r_56), (.int (own_f3 z60 z66))])) (fun t k => XS.aload X83.here hx rfl (hb hby at_71) rfl rfl k) ?_
      obtain ⟨T84, X84, e84, st84⟩ := getF X83 hx hZ hown (host := "") (Or.inl (hw _ (List.mem_of_getElem? (i := 35) rfl))) Via.refl e83 F81 (g := (mkF m 73 #[.val (.long p0), .second, .val (.long p1), .second, .val (.long p2), .second, .val (.long p3), .second, .val (.ref r_56), .val (.ref r_62), .unset, .unset] [(.ref r_56), (.int (own_f3 z60 z66))])) rfl rfl (hb hby at_73)
      refine own_via (T84.setTop (mkF m 76 #[.val (.long p0), .second, .val (.long p1), .second, .val (.long p2), .second, .val (.long p3), .second, .val (.ref r_56), .val (.ref r_62), .unset, .unset] [(.int z60), (.int (own_f3 z60 z66))])) (fun t k => st84 t k) ?_
      by_cases hc76_85 : (own_f3 z60 z66) = z60
      · refine own_via (T84.setTop (mkF m 79 #[.val (.long p0), .second, .val (.long p1), .second, .val (.long p2), .second, .val (.long p3), .second, .val (.ref r_56), .val (.ref r_62), .unset, .unset] [])) (fun t k => XS.icmpNo X84.here hx rfl (hb hby at_76) rfl (teq hc76_85).2 k) ?_
        refine own_via (T84.setTop (mkF m 81 #[.val (.long p0), .second, .val (.long p1), .second, .val (.long p2), .second, .val (.long p3), .second, .val (.ref r_56), .val (.ref r_62), .unset, .unset] [(.ref r_56)])) (fun t k => XS.aload X84.here hx rfl (hb hby at_79) rfl rfl k) ?_
        have F87 := (G56_4.keep K62q (by simp))
        obtain ⟨T86, X86, e86, st86⟩ := getF X84 hx hZ hown (host := "") (Or.inl (hw _ (List.mem_of_getElem? (i := 36) rfl))) Via.refl e84 F87 (g := (mkF m 81 #[.val (.long p0), .second, .val (.long p1), .second, .val (.long p2), .second, .val (.long p3), .second, .val (.ref r_56), .val (.ref r_62), .unset, .unset] [(.ref r_56)])) rfl rfl (hb hby at_81)
        refine own_via (T86.setTop (mkF m 84 #[.val (.long p0), .second, .val (.long p1), .second, .val (.long p2), .second, .val (.long p3), .second, .val (.ref r_56), .val (.ref r_62), .unset, .unset] [(.int z61)])) (fun t k => st86 t k) ?_
        refine own_via (T86.setTop (mkF m 86 #[.val (.long p0), .second, .val (.long p1), .second, .val (.long p2), .second, .val (.long p3), .second, .val (.ref r_56), .val (.ref r_62), .unset, .unset] [(.ref r_62), (.int z61)])) (fun t k => XS.aload X86.here hx rfl (hb hby at_84) rfl rfl k) ?_
        obtain ⟨T88, X88, e88, st88⟩ := getF X86 hx hZ hown (host := "") (Or.inl (hw _ (List.mem_of_getElem? (i := 36) rfl))) Via.refl e86 G62_4 (g := (mkF m 86 #[.val (.long p0), .second, .val (.long p1), .second, .val (.long p2), .second, .val (.long p3), .second, .val (.ref r_56), .val (.ref r_62), .unset, .unset] [(.ref r_62), (.int z61)])) rfl rfl (hb hby at_86)
        refine own_via (T88.setTop (mkF m 89 #[.val (.long p0), .second, .val (.long p1), .second, .val (.long p2), .second, .val (.long p3), .second, .val (.ref r_56), .val (.ref r_62), .unset, .unset] [(.int z67), (.int z61)])) (fun t k => st88 t k) ?_
        obtain ⟨_, _, ⟨T89, L89, k89, n89⟩, -, X89, ⟨Lc89, hQ89, l89, y89, z89⟩, st89⟩ := Jvm.LawKit.callS X88 hx (y := (⟨"java/lang/Math", "max", "(II)I"⟩ : MethodName)) hown (mvT hZ (hw _ (List.mem_of_getElem? (i := 11) rfl))) (mvT hZ (hw _ (List.mem_of_getElem? (i := 12) rfl))) (mvT hZ (hw _ (List.mem_of_getElem? (i := 9) rfl))) (mvT hZ (hw _ (List.mem_of_getElem? (i := 13) rfl))) (by decide) (backOf (W := 0) (rm3 l Z a0 hw [] z61 z67 h62 n0 (Nat.le_trans Z0 K63.1)) hZ (hw _ (List.mem_of_getElem? (i := 13) rfl)) (hw _ (List.mem_of_getElem? (i := 9) rfl)) (by decide) (by decide)) (g := (mkF m 89 #[.val (.long p0), .second, .val (.long p1), .second, .val (.long p2), .second, .val (.long p3), .second, .val (.ref r_56), .val (.ref r_62), .unset, .unset] [(.int z67), (.int z61)])) rfl (by rw [hml]; rfl) (argsL := [(.int z61), (.int z67)]) (rest := []) (lenOf pd_0 rfl) rfl (by show 2 * 0 + _ ≤ _; exact Nat.le_of_eq rfl) (hb hby at_89) (fun _ _ => ⟨rfl, e88, (by decide : 2 + 0 ≤ _), (by decide : 8 + 0 ≤ _)⟩)
        dsimp only [Pt.U, Pt.locs, Pt.cells, Pt.slots] at X89 l89 y89 z89 st89 hQ89
        subst l89 y89 z89
        obtain ⟨rfl, N89q, e89⟩ := hQ89
        have N89 := Fr.app N83 N89q
        refine own_via (T89.setTop (mkF m 92 #[.val (.long p0), .second, .val (.long p1), .second, .val (.long p2), .second, .val (.long p3), .second, .val (.ref r_56), .val (.ref r_62), .unset, .unset] [(.int (own_f3 z61 z67))])) (fun t k => st89 t k) ?_
        refine own_via (T89.setTop (mkF m 94 #[.val (.long p0), .second, .val (.long p1), .second, .val (.long p2), .second, .val (.long p3), .second, .val (.ref r_56), .val (.ref r_62), .unset, .unset] [(.ref r_56), (.int (own_f3 z61 z67))])) (fun t k => XS.aload X89.here hx rfl (hb hby at_92) rfl rfl k) ?_
        obtain ⟨T90, X90, e90, st90⟩ := getF X89 hx hZ hown (host := "") (Or.inl (hw _ (List.mem_of_getElem? (i := 36) rfl))) Via.refl e89 F87 (g := (mkF m 94 #[.val (.long p0), .second, .val (.long p1), .second, .val (.long p2), .second, .val (.long p3), .second, .val (.ref r_56), .val (.ref r_62), .unset, .unset] [(.ref r_56), (.int (own_f3 z61 z67))])) rfl rfl (hb hby at_94)
        refine own_via (T90.setTop (mkF m 97 #[.val (.long p0), .second, .val (.long p1), .second, .val (.long p2), .second, .val (.long p3), .second, .val (.ref r_56), .val (.ref r_62), .unset, .unset] [(.int z61), (.int (own_f3 z61 z67))])) (fun t k => st90 t k) ?_
        obtain ⟨z91, hz91⟩ : ∃ z : Int32, z = (if (own_f3 z61 z67) = z61 then (1 : Int32) else (0 : Int32)) := ⟨_, rfl⟩
        refine own_via (T90.setTop (mkF m 105 #[.val (.long p0), .second, .val (.long p1), .second, .val (.long p2), .second, .val (.long p3), .second, .val (.ref r_56), .val (.ref r_62), .unset, .unset] [(.int z91)])) (fun t k => ?_) ?_
        · skip
          by_cases hj97_92 : (own_f3 z61 z67) = z61
          · refine XS.icmpNo X90.here hx rfl (hb hby at_97) rfl (teq hj97_92).2 (?_ : Steps p.tables e below (T90.setTop (mkF m 100 #[.val (.long p0), .second, .val (.long p1), .second, .val (.long p2), .second, .val (.long p3), .second, .val (.ref r_56), .val (.ref r_62), .unset, .unset] [])) t)
            refine XS.iconst X90.here hx rfl (hb hby at_100) (?_ : Steps p.tables e below (T90.setTop (mkF m 101 #[.val (.long p0), .second, .val (.long p1), .second, .val (.long p2), .second, .val (.long p3), .second, .val (.ref r_56), .val (.ref r_62), .unset, .unset] [(.int (1 : Int32))])) t)
            refine XS.goto X90.here hx rfl (pc0 := 101) (pc' := 105) rfl (hb hby at_101) (by decide) (by decide) (?_ : Steps p.tables e below (T90.setTop (mkF m 105 #[.val (.long p0), .second, .val (.long p1), .second, .val (.long p2), .second, .val (.long p3), .second, .val (.ref r_56), .val (.ref r_62), .unset, .unset] [(.int (1 : Int32))])) t)
            have q_z91 := (hz91.trans (if_pos hj97_92))
            subst q_z91
            exact k
          · refine XS.icmpYes X90.here hx rfl (pc0 := 97) (pc' := 104) rfl (hb hby at_97) rfl (feq hj97_92).2 (by decide) (by decide) (?_ : Steps p.tables e below (T90.setTop (mkF m 104 #[.val (.long p0), .second, .val (.long p1), .second, .val (.long p2), .second, .val (.long p3), .second, .val (.ref r_56), .val (.ref r_62), .unset, .unset] [])) t)
            refine XS.iconst X90.here hx rfl (hb hby at_104) (?_ : Steps p.tables e below (T90.setTop (mkF m 105 #[.val (.long p0), .second, .val (.long p1), .second, .val (.long p2), .second, .val (.long p3), .second, .val (.ref r_56), .val (.ref r_62), .unset, .unset] [(.int (0 : Int32))])) t)
            have q_z91 := (hz91.trans (if_neg hj97_92))
            subst q_z91
            exact k
        refine own_via (T90.setTop (mkF m 107 #[.val (.long p0), .second, .val (.long p1), .second, .val (.long p2), .second, .val (.long p3), .second, .val (.ref r_56), .val (.ref r_62), .val (.int z91), .unset] [])) (fun t k => XS.istore X90.here hx rfl (hb hby at_105) rfl (l' := #[.val (.long p0), .second, .val (.long p1), .second, .val (.long p2), .second, .val (.long p3), .second, .val (.ref r_56), .val (.ref r_62), .val (.int z91), .unset]) rfl k) ?_
        refine own_via (T90.setTop (mkF m 109 #[.val (.long p0), .second, .val (.long p1), .second, .val (.long p2), .second, .val (.long p3), .second, .val (.ref r_56), .val (.ref r_62), .val (.int z91), .unset] [(.ref r_56)])) (fun t k => XS.aload X90.here hx rfl (hb hby at_107) rfl rfl k) ?_
        refine own_via (T90.setTop (mkF m 111 #[.val (.long p0), .second, .val (.long p1), .second, .val (.long p2), .second, .val (.long p3), .second, .val (.ref r_56), .val (.ref r_62), .val (.int z91), .unset] [(.ref r_56), (.ref r_56)])) (fun t k => XS.aload X90.here hx rfl (hb hby at_109) rfl rfl k) ?_
        have F94 := (G56_0.keep K62q)
        obtain ⟨cq93, kq93, q93a, q93b, q93c⟩ := isOf hZ e90 F94
        obtain ⟨_, _, ⟨T93, L93, k93, n93⟩, -, X93, ⟨Lc93, hQ93, l93, y93, z93⟩, st93⟩ := X90.virtualBack hx (y := (⟨"com/example/rondo/rondo/Rect", "contains", "(Lcom/example/rondo/rondo/Rect;)Z"⟩ : MethodName)) (z := (⟨"com/example/rondo/rondo/Rect", "contains", "(Lcom/example/rondo/rondo/Rect;)Z"⟩ : MethodName)) hown (mvT hZ (hw _ (List.mem_of_getElem? (i := 29) rfl))) (mvT hZ (hw _ (List.mem_of_getElem? (i := 30) rfl))) (notFace_of_selects (args := #[]) (mvT hZ (hw _ (List.mem_of_getElem? (i := 32) rfl)))) (mvT hZ (hw _ (List.mem_of_getElem? (i := 32) rfl))) (mvT hZ (hw _ (List.mem_of_getElem? (i := 31) rfl))) (by decide) (backOf (W := 0) (rm6 l Z a0 hw [] r_56 r_56 h62 n0 (Nat.le_trans Z0 K63.1) z58 z59 z60 z61 z58 z59 z60 z61 F69 F75 F81 F87 F69 F75 F81 F87) hZ (hw _ (List.mem_of_getElem? (i := 33) rfl)) (hw _ (List.mem_of_getElem? (i := 6) rfl)) (by decide) (by decide)) q93a q93c (g := (mkF m 111 #[.val (.long p0), .second, .val (.long p1), .second, .val (.long p2), .second, .val (.long p3), .second, .val (.ref r_56), .val (.ref r_62), .val (.int z91), .unset] [(.ref r_56), (.ref r_56)])) rfl (by rw [hml]; rfl) (Steps.refl _) (argsL := [(.ref r_56)]) (rest := []) (lenOf pd_3 rfl) rfl (by show 2 * 0 + _ ≤ _; exact Nat.le_of_eq rfl) (hb hby at_111) (fun _ _ => ⟨rfl, e90, (by decide : 2 + 0 ≤ _), (by decide : 8 + 0 ≤ _)⟩)
        dsimp only [Pt.U, Pt.locs, Pt.cells, Pt.slots] at X93 l93 y93 z93 st93 hQ93
        subst l93 y93 z93
        obtain ⟨rfl, N93q, e93⟩ := hQ93
        have N93 := Fr.app N89 N93q
        refine own_via (T93.setTop (mkF m 114 #[.val (.long p0), .second, .val (.long p1), .second, .val (.long p2), .second, .val (.long p3), .second, .val (.ref r_56), .val (.ref r_62), .val (.int z91), .unset] [(.int (own_f6 z58 z59 z60 z61 z58 z59 z60 z61))])) (fun t k => st93.trans k) ?_
        obtain ⟨z95, hz95⟩ : ∃ z : Int32, z = (own_f6 z58 z59 z60 z61 z58 z59 z60 z61) := ⟨_, rfl⟩
        refine own_via (T93.setTop (mkF m 116 #[.val (.long p0), .second, .val (.long p1), .second, .val (.long p2), .second, .val (.long p3), .second, .val (.ref r_56), .val (.ref r_62), .val (.int z91), .val (.int z95)] [])) (fun t k => XS.istore X93.here hx rfl (hb hby at_114) rfl (l' := #[.val (.long p0), .second, .val (.long p1), .second, .val (.long p2), .second, .val (.long p3), .second, .val (.ref r_56), .val (.ref r_62), .val (.int z91), .val (.int z95)]) (by rw [hz95]; rfl) k) ?_
        refine own_via (T93.setTop (mkF m 118 #[.val (.long p0), .second, .val (.long p1), .second, .val (.long p2), .second, .val (.long p3), .second, .val (.ref r_56), .val (.ref r_62), .val (.int z91), .val (.int z95)] [(.int z95)])) (fun t k => XS.iload X93.here hx rfl (hb hby at_116) rfl  k) ?_
        by_cases hc118_96 : z95 = (0 : Int32)
        · refine own_via (T93.setTop (mkF m 137 #[.val (.long p0), .second, .val (.long p1), .second, .val (.long p2), .second, .val (.long p3), .second, .val (.ref r_56), .val (.ref r_62), .val (.int z91), .val (.int z95)] [])) (fun t k => XS.ifYes X93.here hx rfl (pc0 := 118) (pc' := 137) rfl (hb hby at_118) rfl ((if0 _ _).trans (teq hc118_96).1) (by decide) (by decide) k) ?_
          refine own_via (T93.setTop (mkF m 138 #[.val (.long p0), .second, .val (.long p1), .second, .val (.long p2), .second, .val (.long p3), .second, .val (.ref r_56), .val (.ref r_62), .val (.int z91), .val (.int z95)] [(.int (0 : Int32))])) (fun t k => XS.iconst X93.here hx rfl (hb hby at_137) k) ?_
          refine own_leave X93 Bd.notSynchronized (v := some (.int (0 : Int32))) (fun h => by rw [Bd.returns] at h; cases h) (fun fs hr => retN X93 hx (t := .boolean) Bd.returns (by simp) (hb hby at_138) hr) ?_ (by decide) (by decide)
          exfalso
          exact absurd (hc118_96.symm.trans (hz95.trans (own_self _ _ _ _))) (by decide)
        · refine own_via (T93.setTop (mkF m 121 #[.val (.long p0), .second, .val (.long p1), .second, .val (.long p2), .second, .val (.long p3), .second, .val (.ref r_56), .val (.ref r_62), .val (.int z91), .val (.int z95)] [])) (fun t k => XS.ifNo X93.here hx rfl (hb hby at_118) rfl ((if0 _ _).trans (feq hc118_96).1) k) ?_
          refine own_via (T93.setTop (mkF m 123 #[.val (.long p0), .second, .val (.long p1), .second, .val (.long p2), .second, .val (.long p3), .second, .val (.ref r_56), .val (.ref r_62), .val (.int z91), .val (.int z95)] [(.ref r_56)])) (fun t k => XS.aload X93.here hx rfl (hb hby at_121) rfl rfl k) ?_
          refine own_via (T93.setTop (mkF m 125 #[.val (.long p0), .second, .val (.long p1), .second, .val (.long p2), .second, .val (.long p3), .second, .val (.ref r_56), .val (.ref r_62), .val (.int z91), .val (.int z95)] [(.ref r_62), (.ref r_56)])) (fun t k => XS.aload X93.here hx rfl (hb hby at_123) rfl rfl k) ?_
          obtain ⟨cq97, kq97, q97a, q97b, q97c⟩ := isOf hZ e93 F94
          obtain ⟨_, _, ⟨T97, L97, k97, n97⟩, -, X97, ⟨Lc97, hQ97, l97, y97, z97⟩, st97⟩ := X93.virtualBack hx (y := (⟨"com/example/rondo/rondo/Rect", "contains", "(Lcom/example/rondo/rondo/Rect;)Z"⟩ : MethodName)) (z := (⟨"com/example/rondo/rondo/Rect", "contains", "(Lcom/example/rondo/rondo/Rect;)Z"⟩ : MethodName)) hown (mvT hZ (hw _ (List.mem_of_getElem? (i := 29) rfl))) (mvT hZ (hw _ (List.mem_of_getElem? (i := 30) rfl))) (notFace_of_selects (args := #[]) (mvT hZ (hw _ (List.mem_of_getElem? (i := 32) rfl)))) (mvT hZ (hw _ (List.mem_of_getElem? (i := 32) rfl))) (mvT hZ (hw _ (List.mem_of_getElem? (i := 31) rfl))) (by decide) (backOf (W := 0) (rm6 l Z a0 hw [] r_56 r_62 h62 n0 (Nat.le_trans Z0 K63.1) z58 z59 z60 z61 z64 z65 z66 z67 F69 F75 F81 F87 G62_1 G62_2 G62_3 G62_4) hZ (hw _ (List.mem_of_getElem? (i := 33) rfl)) (hw _ (List.mem_of_getElem? (i := 6) rfl)) (by decide) (by decide)) q97a q97c (g := (mkF m 125 #[.val (.long p0), .second, .val (.long p1), .second, .val (.long p2), .second, .val (.long p3), .second, .val (.ref r_56), .val (.ref r_62), .val (.int z91), .val (.int z95)] [(.ref r_62), (.ref r_56)])) rfl (by rw [hml]; rfl) (Steps.refl _) (argsL := [(.ref r_62)]) (rest := []) (lenOf pd_3 rfl) rfl (by show 2 * 0 + _ ≤ _; exact Nat.le_of_eq rfl) (hb hby at_125) (fun _ _ => ⟨rfl, e93, (by decide : 2 + 0 ≤ _), (by decide : 8 + 0 ≤ _)⟩)
          dsimp only [Pt.U, Pt.locs, Pt.cells, Pt.slots] at X97 l97 y97 z97 st97 hQ97
          subst l97 y97 z97
          obtain ⟨rfl, N97q, e97⟩ := hQ97
          have N97 := Fr.app N93 N97q
          refine own_via (T97.setTop (mkF m 128 #[.val (.long p0), .second, .val (.long p1), .second, .val (.long p2), .second, .val (.long p3), .second, .val (.ref r_56), .val (.ref r_62), .val (.int z91), .val (.int z95)] [(.int (own_f6 z58 z59 z60 z61 z64 z65 z66 z67))])) (fun t k => st97.trans k) ?_
          refine own_via (T97.setTop (mkF m 130 #[.val (.long p0), .second, .val (.long p1), .second, .val (.long p2), .second, .val (.long p3), .second, .val (.ref r_56), .val (.ref r_62), .val (.int z91), .val (.int z95)] [(.int z91), (.int (own_f6 z58 z59 z60 z61 z64 z65 z66 z67))])) (fun t k => XS.iload X97.here hx rfl (hb hby at_128) rfl  k) ?_
          obtain ⟨z98, hz98⟩ : ∃ z : Int32, z = (if (own_f6 z58 z59 z60 z61 z64 z65 z66 z67) = z91 then (1 : Int32) else (0 : Int32)) := ⟨_, rfl⟩
          refine own_via (T97.setTop (mkF m 138 #[.val (.long p0), .second, .val (.long p1), .second, .val (.long p2), .second, .val (.long p3), .second, .val (.ref r_56), .val (.ref r_62), .val (.int z91), .val (.int z95)] [(.int z98)])) (fun t k => ?_) ?_
          · skip
            by_cases hj130_99 : (own_f6 z58 z59 z60 z61 z64 z65 z66 z67) = z91
            · refine XS.icmpNo X97.here hx rfl (hb hby at_130) rfl (teq hj130_99).2 (?_ : Steps p.tables e below (T97.setTop (mkF m 133 #[.val (.long p0), .second, .val (.long p1), .second, .val (.long p2), .second, .val (.long p3), .second, .val (.ref r_56), .val (.ref r_62), .val (.int z91), .val (.int z95)] [])) t)
              refine XS.iconst X97.here hx rfl (hb hby at_133) (?_ : Steps p.tables e below (T97.setTop (mkF m 134 #[.val (.long p0), .second, .val (.long p1), .second, .val (.long p2), .second, .val (.long p3), .second, .val (.ref r_56), .val (.ref r_62), .val (.int z91), .val (.int z95)] [(.int (1 : Int32))])) t)
              refine XS.goto X97.here hx rfl (pc0 := 134) (pc' := 138) rfl (hb hby at_134) (by decide) (by decide) (?_ : Steps p.tables e below (T97.setTop (mkF m 138 #[.val (.long p0), .second, .val (.long p1), .second, .val (.long p2), .second, .val (.long p3), .second, .val (.ref r_56), .val (.ref r_62), .val (.int z91), .val (.int z95)] [(.int (1 : Int32))])) t)
              have q_z98 := (hz98.trans (if_pos hj130_99))
              subst q_z98
              exact k
            · refine XS.icmpYes X97.here hx rfl (pc0 := 130) (pc' := 137) rfl (hb hby at_130) rfl (feq hj130_99).2 (by decide) (by decide) (?_ : Steps p.tables e below (T97.setTop (mkF m 137 #[.val (.long p0), .second, .val (.long p1), .second, .val (.long p2), .second, .val (.long p3), .second, .val (.ref r_56), .val (.ref r_62), .val (.int z91), .val (.int z95)] [])) t)
              refine XS.iconst X97.here hx rfl (hb hby at_137) (?_ : Steps p.tables e below (T97.setTop (mkF m 138 #[.val (.long p0), .second, .val (.long p1), .second, .val (.long p2), .second, .val (.long p3), .second, .val (.ref r_56), .val (.ref r_62), .val (.int z91), .val (.int z95)] [(.int (0 : Int32))])) t)
              have q_z98 := (hz98.trans (if_neg hj130_99))
              subst q_z98
              exact k
          refine own_leave X97 Bd.notSynchronized (v := some (.int (nar .boolean z98))) (fun h => by rw [Bd.returns] at h; cases h) (fun fs hr => retN X97 hx (t := .boolean) Bd.returns (by simp) (hb hby at_138) hr) ?_ (by decide) (by decide)
          refine ⟨?_, N97⟩
          rw [hz98, if_pos (by rw [hz91]; unfold own_f6; rw [if_neg ((own_min _ _).mp hc34_73), if_neg ((own_min _ _).mp hc55_79), if_neg ((own_max _ _).mp hc76_85)]; by_cases q : z61 < z67; (rw [if_pos q, if_neg (fun u => absurd q ((own_max _ _).mp u))]); (rw [if_neg q, if_pos ((own_max _ _).mpr q)]))]; rfl
      · refine own_via (T84.setTop (mkF m 104 #[.val (.long p0), .second, .val (.long p1), .second, .val (.long p2), .second, .val (.long p3), .second, .val (.ref r_56), .val (.ref r_62), .unset, .unset] [])) (fun t k => XS.icmpYes X84.here hx rfl (pc0 := 76) (pc' := 104) rfl (hb hby at_76) rfl (feq hc76_85).2 (by decide) (by decide) k) ?_
        refine own_via (T84.setTop (mkF m 105 #[.val (.long p0), .second, .val (.long p1), .second, .val (.long p2), .second, .val (.long p3), .second, .val (.ref r_56), .val (.ref r_62), .unset, .unset] [(.int (0 : Int32))])) (fun t k => XS.iconst X84.here hx rfl (hb hby at_104) k) ?_
        refine own_via (T84.setTop (mkF m 107 #[.val (.long p0), .second, .val (.long p1), .second, .val (.long p2), .second, .val (.long p3), .second, .val (.ref r_56), .val (.ref r_62), .val (.int (0 : Int32)), .unset] [])) (fun t k => XS.istore X84.here hx rfl (hb hby at_105) rfl (l' := #[.val (.long p0), .second, .val (.long p1), .second, .val (.long p2), .second, .val (.long p3), .second, .val (.ref r_56), .val (.ref r_62), .val (.int (0 : Int32)), .unset]) rfl k) ?_
        refine own_via (T84.setTop (mkF m 109 #[.val (.long p0), .second, .val (.long p1), .second, .val (.long p2), .second, .val (.long p3), .second, .val (.ref r_56), .val (.ref r_62), .val (.int (0 : Int32)), .unset] [(.ref r_56)])) (fun t k => XS.aload X84.here hx rfl (hb hby at_107) rfl rfl k) ?_
        refine own_via (T84.setTop (mkF m 111 #[.val (.long p0), .second, .val (.long p1), .second, .val (.long p2), .second, .val (.long p3), .second, .val (.ref r_56), .val (.ref r_62), .val (.int (0 : Int32)), .unset] [(.ref r_56), (.ref r_56)])) (fun t k => XS.aload X84.here hx rfl (hb hby at_109) rfl rfl k) ?_
        have F101 := (G56_4.keep K62q (by simp))
        have F102 := (G56_0.keep K62q)
        obtain ⟨cq100, kq100, q100a, q100b, q100c⟩ := isOf hZ e84 F102
        obtain ⟨_, _, ⟨T100, L100, k100, n100⟩, -, X100, ⟨Lc100, hQ100, l100, y100, z100⟩, st100⟩ := X84.virtualBack hx (y := (⟨"com/example/rondo/rondo/Rect", "contains", "(Lcom/example/rondo/rondo/Rect;)Z"⟩ : MethodName)) (z := (⟨"com/example/rondo/rondo/Rect", "contains", "(Lcom/example/rondo/rondo/Rect;)Z"⟩ : MethodName)) hown (mvT hZ (hw _ (List.mem_of_getElem? (i := 29) rfl))) (mvT hZ (hw _ (List.mem_of_getElem? (i := 30) rfl))) (notFace_of_selects (args := #[]) (mvT hZ (hw _ (List.mem_of_getElem? (i := 32) rfl)))) (mvT hZ (hw _ (List.mem_of_getElem? (i := 32) rfl))) (mvT hZ (hw _ (List.mem_of_getElem? (i := 31) rfl))) (by decide) (backOf (W := 0) (rm6 l Z a0 hw [] r_56 r_56 h62 n0 (Nat.le_trans Z0 K63.1) z58 z59 z60 z61 z58 z59 z60 z61 F69 F75 F81 F101 F69 F75 F81 F101) hZ (hw _ (List.mem_of_getElem? (i := 33) rfl)) (hw _ (List.mem_of_getElem? (i := 6) rfl)) (by decide) (by decide)) q100a q100c (g := (mkF m 111 #[.val (.long p0), .second, .val (.long p1), .second, .val (.long p2), .second, .val (.long p3), .second, .val (.ref r_56), .val (.ref r_62), .val (.int (0 : Int32)), .unset] [(.ref r_56), (.ref r_56)])) rfl (by rw [hml]; rfl) (Steps.refl _) (argsL := [(.ref r_56)]) (rest := []) (lenOf pd_3 rfl) rfl (by show 2 * 0 + _ ≤ _; exact Nat.le_of_eq rfl) (hb hby at_111) (fun _ _ => ⟨rfl, e84, (by decide : 2 + 0 ≤ _), (by decide : 8 + 0 ≤ _)⟩)
        dsimp only [Pt.U, Pt.locs, Pt.cells, Pt.slots] at X100 l100 y100 z100 st100 hQ100
        subst l100 y100 z100
        obtain ⟨rfl, N100q, e100⟩ := hQ100
        have N100 := Fr.app N83 N100q
        refine own_via (T100.setTop (mkF m 114 #[.val (.long p0), .second, .val (.long p1), .second, .val (.long p2), .second, .val (.long p3), .second, .val (.ref r_56), .val (.ref r_62), .val (.int (0 : Int32)), .unset] [(.int (own_f6 z58 z59 z60 z61 z58 z59 z60 z61))])) (fun t k => st100.trans k) ?_
        obtain ⟨z103, hz103⟩ : ∃ z : Int32, z = (own_f6 z58 z59 z60 z61 z58 z59 z60 z61) := ⟨_, rfl⟩
        refine own_via (T100.setTop (mkF m 116 #[.val (.long p0), .second, .val (.long p1), .second, .val (.long p2), .second, .val (.long p3), .second, .val (.ref r_56), .val (.ref r_62), .val (.int (0 : Int32)), .val (.int z103)] [])) (fun t k => XS.istore X100.here hx rfl (hb hby at_114) rfl (l' := #[.val (.long p0), .second, .val (.long p1), .second, .val (.long p2), .second, .val (.long p3), .second, .val (.ref r_56), .val (.ref r_62), .val (.int (0 : Int32)), .val (.int z103)]) (by rw [hz103]; rfl) k) ?_
        refine own_via (T100.setTop (mkF m 118 #[.val (.long p0), .second, .val (.long p1), .second, .val (.long p2), .second, .val (.long p3), .second, .val (.ref r_56), .val (.ref r_62), .val (.int (0 : Int32)), .val (.int z103)] [(.int z103)])) (fun t k => XS.iload X100.here hx rfl (hb hby at_116) rfl  k) ?_
        by_cases hc118_104 : z103 = (0 : Int32)
        · refine own_via (T100.setTop (mkF m 137 #[.val (.long p0), .second, .val (.long p1), .second, .val (.long p2), .second, .val (.long p3), .second, .val (.ref r_56), .val (.ref r_62), .val (.int (0 : Int32)), .val (.int z103)] [])) (fun t k => XS.ifYes X100.here hx rfl (pc0 := 118) (pc' := 137) rfl (hb hby at_118) rfl ((if0 _ _).trans (teq hc118_104).1) (by decide) (by decide) k) ?_
          refine own_via (T100.setTop (mkF m 138 #[.val (.long p0), .second, .val (.long p1), .second, .val (.long p2), .second, .val (.long p3), .second, .val (.ref r_56), .val (.ref r_62), .val (.int (0 : Int32)), .val (.int z103)] [(.int (0 : Int32))])) (fun t k => XS.iconst X100.here hx rfl (hb hby at_137) k) ?_
          refine own_leave X100 Bd.notSynchronized (v := some (.int (0 : Int32))) (fun h => by rw [Bd.returns] at h; cases h) (fun fs hr => retN X100 hx (t := .boolean) Bd.returns (by simp) (hb hby at_138) hr) ?_ (by decide) (by decide)
          exfalso
          exact absurd (hc118_104.symm.trans (hz103.trans (own_self _ _ _ _))) (by decide)
        · refine own_via (T100.setTop (mkF m 121 #[.val (.long p0), .second, .val (.long p1), .second, .val (.long p2), .second, .val (.long p3), .second, .val (.ref r_56), .val (.ref r_62), .val (.int (0 : Int32)), .val (.int z103)] [])) (fun t k => XS.ifNo X100.here hx rfl (hb hby at_118) rfl ((if0 _ _).trans (feq hc118_104).1) k) ?_
          refine own_via (T100.setTop (mkF m 123 #[.val (.long p0), .second, .val (.long p1), .second, .val (.long p2), .second, .val (.long p3), .second, .val (.ref r_56), .val (.ref r_62), .val (.int (0 : Int32)), .val (.int z103)] [(.ref r_56)])) (fun t k => XS.aload X100.here hx rfl (hb hby at_121) rfl rfl k) ?_
          refine own_via (T100.setTop (mkF m 125 #[.val (.long p0), .second, .val (.long p1), .second, .val (.long p2), .second, .val (.long p3), .second, .val (.ref r_56), .val (.ref r_62), .val (.int (0 : Int32)), .val (.int z103)] [(.ref r_62), (.ref r_56)])) (fun t k => XS.aload X100.here hx rfl (hb hby at_123) rfl rfl k) ?_
          obtain ⟨cq105, kq105, q105a, q105b, q105c⟩ := isOf hZ e100 F102
          obtain ⟨_, _, ⟨T105, L105, k105, n105⟩, -, X105, ⟨Lc105, hQ105, l105, y105, z105⟩, st105⟩ := X100.virtualBack hx (y := (⟨"com/example/rondo/rondo/Rect", "contains", "(Lcom/example/rondo/rondo/Rect;)Z"⟩ : MethodName)) (z := (⟨"com/example/rondo/rondo/Rect", "contains", "(Lcom/example/rondo/rondo/Rect;)Z"⟩ : MethodName)) hown (mvT hZ (hw _ (List.mem_of_getElem? (i := 29) rfl))) (mvT hZ (hw _ (List.mem_of_getElem? (i := 30) rfl))) (notFace_of_selects (args := #[]) (mvT hZ (hw _ (List.mem_of_getElem? (i := 32) rfl)))) (mvT hZ (hw _ (List.mem_of_getElem? (i := 32) rfl))) (mvT hZ (hw _ (List.mem_of_getElem? (i := 31) rfl))) (by decide) (backOf (W := 0) (rm6 l Z a0 hw [] r_56 r_62 h62 n0 (Nat.le_trans Z0 K63.1) z58 z59 z60 z61 z64 z65 z66 z67 F69 F75 F81 F101 G62_1 G62_2 G62_3 G62_4) hZ (hw _ (List.mem_of_getElem? (i := 33) rfl)) (hw _ (List.mem_of_getElem? (i := 6) rfl)) (by decide) (by decide)) q105a q105c (g := (mkF m 125 #[.val (.long p0), .second, .val (.long p1), .second, .val (.long p2), .second, .val (.long p3), .second, .val (.ref r_56), .val (.ref r_62), .val (.int (0 : Int32)), .val (.int z103)] [(.ref r_62), (.ref r_56)])) rfl (by rw [hml]; rfl) (Steps.refl _) (argsL := [(.ref r_62)]) (rest := []) (lenOf pd_3 rfl) rfl (by show 2 * 0 + _ ≤ _; exact Nat.le_of_eq rfl) (hb hby at_125) (fun _ _ => ⟨rfl, e100, (by decide : 2 + 0 ≤ _), (by decide : 8 + 0 ≤ _)⟩)
          dsimp only [Pt.U, Pt.locs, Pt.cells, Pt.slots] at X105 l105 y105 z105 st105 hQ105
          subst l105 y105 z105
          obtain ⟨rfl, N105q, e105⟩ := hQ105
          have N105 := Fr.app N100 N105q
          refine own_via (T105.setTop (mkF m 128 #[.val (.long p0), .second, .val (.long p1), .second, .val (.long p2), .second, .val (.long p3), .second, .val (.ref r_56), .val (.ref r_62), .val (.int (0 : Int32)), .val (.int z103)] [(.int (own_f6 z58 z59 z60 z61 z64 z65 z66 z67))])) (fun t k => st105.trans k) ?_
          refine own_via (T105.setTop (mkF m 130 #[.val (.long p0), .second, .val (.long p1), .second, .val (.long p2), .second, .val (.long p3), .second, .val (.ref r_56), .val (.ref r_62), .val (.int (0 : Int32)), .val (.int z103)] [(.int (0 : Int32)), (.int (own_f6 z58 z59 z60 z61 z64 z65 z66 z67))])) (fun t k => XS.iload X105.here hx rfl (hb hby at_128) rfl  k) ?_
          obtain ⟨z106, hz106⟩ : ∃ z : Int32, z = (if (own_f6 z58 z59 z60 z61 z64 z65 z66 z67) = (0 : Int32) then (1 : Int32) else (0 : Int32)) := ⟨_, rfl⟩
          refine own_via (T105.setTop (mkF m 138 #[.val (.long p0), .second, .val (.long p1), .second, .val (.long p2), .second, .val (.long p3), .second, .val (.ref r_56), .val (.ref r_62), .val (.int (0 : Int32)), .val (.int z103)] [(.int z106)])) (fun t k => ?_) ?_
          · skip
            by_cases hj130_107 : (own_f6 z58 z59 z60 z61 z64 z65 z66 z67) = (0 : Int32)
            · refine XS.icmpNo X105.here hx rfl (hb hby at_130) rfl (teq hj130_107).2 (?_ : Steps p.tables e below (T105.setTop (mkF m 133 #[.val (.long p0), .second, .val (.long p1), .second, .val (.long p2), .second, .val (.long p3), .second, .val (.ref r_56), .val (.ref r_62), .val (.int (0 : Int32)), .val (.int z103)] [])) t)
              refine XS.iconst X105.here hx rfl (hb hby at_133) (?_ : Steps p.tables e below (T105.setTop (mkF m 134 #[.val (.long p0), .second, .val (.long p1), .second, .val (.long p2), .second, .val (.long p3), .second, .val (.ref r_56), .val (.ref r_62), .val (.int (0 : Int32)), .val (.int z103)] [(.int (1 : Int32))])) t)
              refine XS.goto X105.here hx rfl (pc0 := 134) (pc' := 138) rfl (hb hby at_134) (by decide) (by decide) (?_ : Steps p.tables e below (T105.setTop (mkF m 138 #[.val (.long p0), .second, .val (.long p1), .second, .val (.long p2), .second, .val (.long p3), .second, .val (.ref r_56), .val (.ref r_62), .val (.int (0 : Int32)), .val (.int z103)] [(.int (1 : Int32))])) t)
              have q_z106 := (hz106.trans (if_pos hj130_107))
              subst q_z106
              exact k
            · refine XS.icmpYes X105.here hx rfl (pc0 := 130) (pc' := 137) rfl (hb hby at_130) rfl (feq hj130_107).2 (by decide) (by decide) (?_ : Steps p.tables e below (T105.setTop (mkF m 137 #[.val (.long p0), .second, .val (.long p1), .second, .val (.long p2), .second, .val (.long p3), .second, .val (.ref r_56), .val (.ref r_62), .val (.int (0 : Int32)), .val (.int z103)] [])) t)
              refine XS.iconst X105.here hx rfl (hb hby at_137) (?_ : Steps p.tables e below (T105.setTop (mkF m 138 #[.val (.long p0), .second, .val (.long p1), .second, .val (.long p2), .second, .val (.long p3), .second, .val (.ref r_56), .val (.ref r_62), .val (.int (0 : Int32)), .val (.int z103)] [(.int (0 : Int32))])) t)
              have q_z106 := (hz106.trans (if_neg hj130_107))
              subst q_z106
              exact k
          refine own_leave X105 Bd.notSynchronized (v := some (.int (nar .boolean z106))) (fun h => by rw [Bd.returns] at h; cases h) (fun fs hr => retN X105 hx (t := .boolean) Bd.returns (by simp) (hb hby at_138) hr) ?_ (by decide) (by decide)
          refine ⟨?_, N105⟩
          rw [hz106, if_pos (by unfold own_f6; rw [if_neg ((own_min _ _).mp hc34_73), if_neg ((own_min _ _).mp hc55_79), if_pos (Decidable.not_not.mp (fun q => hc76_85 ((own_max _ _).mpr q)))])]; rfl
    · refine own_via (T78.setTop (mkF m 104 #[.val (.long p0), .second, .val (.long p1), .second, .val (.long p2), .second, .val (.long p3), .second, .val (.ref r_56), .val (.ref r_62), .unset, .unset] [])) (fun t k => XS.icmpYes X78.here hx rfl (pc0 := 55) (pc' := 104) rfl (hb hby at_55) rfl (feq hc55_79).2 (by decide) (by decide) k) ?_
      refine own_via (T78.setTop (mkF m 105 #[.val (.long p0), .second, .val (.long p1), .second, .val (.long p2), .second, .val (.long p3), .second, .val (.ref r_56), .val (.ref r_62), .unset, .unset] [(.int (0 : Int32))])) (fun t k => XS.iconst X78.here hx rfl (hb hby at_104) k) ?_
      refine own_via (T78.setTop (mkF m 107 #[.val (.long p0), .second, .val (.long p1), .second, .val (.long p2), .second, .val (.long p3), .second, .val (.ref r_56), .val (.ref r_62), .val (.int (0 : Int32)), .unset] [])) (fun t k => XS.istore X78.here hx rfl (hb hby at_105) rfl (l' := #[.val (.long p0), .second, .val (.long p1), .second, .val (.long p2), .second, .val (.long p3), .second, .val (.ref r_56), .val (.ref r_62), .val (.int (0 : Int32)), .unset]) rfl k) ?_
      refine own_via (T78.setTop (mkF m 109 #[.val (.long p0), .second, .val (.long p1), .second, .val (.long p2), .second, .val (.long p3), .second, .val (.ref r_56), .val (.ref r_62), .val (.int (0 : Int32)), .unset] [(.ref r_56)])) (fun t k => XS.aload X78.here hx rfl (hb hby at_107) rfl rfl k) ?_
      refine own_via (T78.setTop (mkF m 111 #[.val (.long p0), .second, .val (.long p1), .second, .val (.long p2), .second, .val (.long p3), .second, .val (.ref r_56), .val (.ref r_62), .val (.int (0 : Int32)), .unset] [(.ref r_56), (.ref r_56)])) (fun t k => XS.aload X78.here hx rfl (hb hby at_109) rfl rfl k) ?_
      have F109 := (G56_3.keep K62q (by simp))
      have F110 := (G56_4.keep K62q (by simp))
      have F111 := (G56_0.keep K62q)
      obtain ⟨cq108, kq108, q108a, q108b, q108c⟩ := isOf hZ e78 F111
      obtain ⟨_, _, ⟨T108, L108, k108, n108⟩, -, X108, ⟨Lc108, hQ108, l108, y108, z108⟩, st108⟩ := X78.virtualBack hx (y := (⟨"com/example/rondo/rondo/Rect", "contains", "(Lcom/example/rondo/rondo/Rect;)Z"⟩ : MethodName)) (z := (⟨"com/example/rondo/rondo/Rect", "contains", "(Lcom/example/rondo/rondo/Rect;)Z"⟩ : MethodName)) hown (mvT hZ (hw _ (List.mem_of_getElem? (i := 29) rfl))) (mvT hZ (hw _ (List.mem_of_getElem? (i := 30) rfl))) (notFace_of_selects (args := #[]) (mvT hZ (hw _ (List.mem_of_getElem? (i := 32) rfl)))) (mvT hZ (hw _ (List.mem_of_getElem? (i := 32) rfl))) (mvT hZ (hw _ (List.mem_of_getElem? (i := 31) rfl))) (by decide) (backOf (W := 0) (rm6 l Z a0 hw [] r_56 r_56 h62 n0 (Nat.le_trans Z0 K63.1) z58 z59 z60 z61 z58 z59 z60 z61 F69 F75 F109 F110 F69 F75 F109 F110) hZ (hw _ (List.mem_of_getElem? (i := 33) rfl)) (hw _ (List.mem_of_getElem? (i := 6) rfl)) (by decide) (by decide)) q108a q108c (g := (mkF m 111 #[.val (.long p0), .second, .val (.long p1), .second, .val (.long p2), .second, .val (.long p3), .second, .val (.ref r_56), .val (.ref r_62), .val (.int (0 : Int32)), .unset] [(.ref r_56), (.ref r_56)])) rfl (by rw [hml]; rfl) (Steps.refl _) (argsL := [(.ref r_56)]) (rest := []) (lenOf pd_3 rfl) rfl (by show 2 * 0 + _ ≤ _; exact Nat.le_of_eq rfl) (hb hby at_111) (fun _ _ => ⟨rfl, e78, (by decide : 2 + 0 ≤ _), (by decide : 8 + 0 ≤ _)⟩)
      dsimp only [Pt.U, Pt.locs, Pt.cells, Pt.slots] at X108 l108 y108 z108 st108 hQ108
      subst l108 y108 z108
      obtain ⟨rfl, N108q, e108⟩ := hQ108
      have N108 := Fr.app N77 N108q
      refine own_via (T108.setTop (mkF m 114 #[.val (.long p0), .second, .val (.long p1), .second, .val (.long p2), .second, .val (.long p3), .second, .val (.ref r_56), .val (.ref r_62), .val (.int (0 : Int32)), .unset] [(.int (own_f6 z58 z59 z60 z61 z58 z59 z60 z61))])) (fun t k => st108.trans k) ?_
      obtain ⟨z112, hz112⟩ : ∃ z : Int32, z = (own_f6 z58 z59 z60 z61 z58 z59 z60 z61) := ⟨_, rfl⟩
      refine own_via (T108.setTop (mkF m 116 #[.val (.long p0), .second, .val (.long p1), .second, .val (.long p2), .second, .val (.long p3), .second, .val (.ref r_56), .val (.ref r_62), .val (.int (0 : Int32)), .val (.int z112)] [])) (fun t k => XS.istore X108.here hx rfl (hb hby at_114) rfl (l' := #[.val (.long p0), .second, .val (.long p1), .second, .val (.long p2), .second, .val (.long p3), .second, .val (.ref r_56), .val (.ref r_62), .val (.int (0 : Int32)), .val (.int z112)]) (by rw [hz112]; rfl) k) ?_
      refine own_via (T108.setTop (mkF m 118 #[.val (.long p0), .second, .val (.long p1), .second, .val (.long p2), .second, .val (.long p3), .second, .val (.ref r_56), .val (.ref r_62), .val (.int (0 : Int32)), .val (.int z112)] [(.int z112)])) (fun t k => XS.iload X108.here hx rfl (hb hby at_116) rfl  k) ?_
      by_cases hc118_113 : z112 = (0 : Int32)
      · refine own_via (T108.setTop (mkF m 137 #[.val (.long p0), .second, .val (.long p1), .second, .val (.long p2), .second, .val (.long p3), .second, .val (.ref r_56), .val (.ref r_62), .val (.int (0 : Int32)), .val (.int z112)] [])) (fun t k => XS.ifYes X108.here hx rfl (pc0 := 118) (pc' := 137) rfl (hb hby at_118) rfl ((if0 _ _).trans (teq hc118_113).1) (by decide) (by decide) k) ?_
        refine own_via (T108.setTop (mkF m 138 #[.val (.long p0), .second, .val (.long p1), .second, .val (.long p2), .second, .val (.long p3), .second, .val (.ref r_56), .val (.ref r_62), .val (.int (0 : Int32)), .val (.int z112)] [(.int (0 : Int32))])) (fun t k => XS.iconst X108.here hx rfl (hb hby at_137) k) ?_
        refine own_leave X108 Bd.notSynchronized (v := some (.int (0 : Int32))) (fun h => by rw [Bd.returns] at h; cases h) (fun fs hr => retN X108 hx (t := .boolean) Bd.returns (by simp) (hb hby at_138) hr) ?_ (by decide) (by decide)
        exfalso
        exact absurd (hc118_113.symm.trans (hz112.trans (own_self _ _ _ _))) (by decide)
      · refine own_via (T108.setTop (mkF m 121 #[.val (.long p0), .second, .val (.long p1), .second, .val (.long p2), .second, .val (.long p3), .second, .val (.ref r_56), .val (.ref r_62), .val (.int (0 : Int32)), .val (.int z112)] [])) (fun t k => XS.ifNo X108.here hx rfl (hb hby at_118) rfl ((if0 _ _).trans (feq hc118_113).1) k) ?_
        refine own_via (T108.setTop (mkF m 123 #[.val (.long p0), .second, .val (.long p1), .second, .val (.long p2), .second, .val (.long p3), .second, .val (.ref r_56), .val (.ref r_62), .val (.int (0 : Int32)), .val (.int z112)] [(.ref r_56)])) (fun t k => XS.aload X108.here hx rfl (hb hby at_121) rfl rfl k) ?_
        refine own_via (T108.setTop (mkF m 125 #[.val (.long p0), .second, .val (.long p1), .second, .val (.long p2), .second, .val (.long p3), .second, .val (.ref r_56), .val (.ref r_62), .val (.int (0 : Int32)), .val (.int z112)] [(.ref r_62), (.ref r_56)])) (fun t k => XS.aload X108.here hx rfl (hb hby at_123) rfl rfl k) ?_
        obtain ⟨cq114, kq114, q114a, q114b, q114c⟩ := isOf hZ e108 F111
        obtain ⟨_, _, ⟨T114, L114, k114, n114⟩, -, X114, ⟨Lc114, hQ114, l114, y114, z114⟩, st114⟩ := X108.virtualBack hx (y := (⟨"com/example/rondo/rondo/Rect", "contains", "(Lcom/example/rondo/rondo/Rect;)Z"⟩ : MethodName)) (z := (⟨"com/example/rondo/rondo/Rect", "contains", "(Lcom/example/rondo/rondo/Rect;)Z"⟩ : MethodName)) hown (mvT hZ (hw _ (List.mem_of_getElem? (i := 29) rfl))) (mvT hZ (hw _ (List.mem_of_getElem? (i := 30) rfl))) (notFace_of_selects (args := #[]) (mvT hZ (hw _ (List.mem_of_getElem? (i := 32) rfl)))) (mvT hZ (hw _ (List.mem_of_getElem? (i := 32) rfl))) (mvT hZ (hw _ (List.mem_of_getElem? (i := 31) rfl))) (by decide) (backOf (W := 0) (rm6 l Z a0 hw [] r_56 r_62 h62 n0 (Nat.le_trans Z0 K63.1) z58 z59 z60 z61 z64 z65 z66 z67 F69 F75 F109 F110 G62_1 G62_2 G62_3 G62_4) hZ (hw _ (List.mem_of_getElem? (i := 33) rfl)) (hw _ (List.mem_of_getElem? (i := 6) rfl)) (by decide) (by decide)) q114a q114c (g := (mkF m 125 #[.val (.long p0), .second, .val (.long p1), .second, .val (.long p2), .second, .val (.long p3), .second, .val (.ref r_56), .val (.ref r_62), .val (.int (0 : Int32)), .val (.int z112)] [(.ref r_62), (.ref r_56)])) rfl (by rw [hml]; rfl) (Steps.refl _) (argsL := [(.ref r_62)]) (rest := []) (lenOf pd_3 rfl) rfl (by show 2 * 0 + _ ≤ _; exact Nat.le_of_eq rfl) (hb hby at_125) (fun _ _ => ⟨rfl, e108, (by decide : 2 + 0 ≤ _), (by decide : 8 + 0 ≤ _)⟩)
        dsimp only [Pt.U, Pt.locs, Pt.cells, Pt.slots] at X114 l114 y114 z114 st114 hQ114
        subst l114 y114 z114
        obtain ⟨rfl, N114q, e114⟩ := hQ114
        have N114 := Fr.app N108 N114q
        refine own_via (T114.setTop (mkF m 128 #[.val (.long p0), .second, .val (.long p1), .second, .val (.long p2), .second, .val (.long p3), .second, .val (.ref r_56), .val (.ref r_62), .val (.int (0 : Int32)), .val (.int z112)] [(.int (own_f6 z58 z59 z60 z61 z64 z65 z66 z67))])) (fun t k => st114.trans k) ?_
        refine own_via (T114.setTop (mkF m 130 #[.val (.long p0), .second, .val (.long p1), .second, .val (.long p2), .second, .val (.long p3), .second, .val (.ref r_56), .val (.ref r_62), .val (.int (0 : Int32)), .val (.int z112)] [(.int (0 : Int32)), (.int (own_f6 z58 z59 z60 z61 z64 z65 z66 z67))])) (fun t k => XS.iload X114.here hx rfl (hb hby at_128) rfl  k) ?_
        obtain ⟨z115, hz115⟩ : ∃ z : Int32, z = (if (own_f6 z58 z59 z60 z61 z64 z65 z66 z67) = (0 : Int32) then (1 : Int32) else (0 : Int32)) := ⟨_, rfl⟩
        refine own_via (T114.setTop (mkF m 138 #[.val (.long p0), .second, .val (.long p1), .second, .val (.long p2), .second, .val (.long p3), .second, .val (.ref r_56), .val (.ref r_62), .val (.int (0 : Int32)), .val (.int z112)] [(.int z115)])) (fun t k => ?_) ?_
        · skip
          by_cases hj130_116 : (own_f6 z58 z59 z60 z61 z64 z65 z66 z67) = (0 : Int32)
          · refine XS.icmpNo X114.here hx rfl (hb hby at_130) rfl (teq hj130_116).2 (?_ : Steps p.tables e below (T114.setTop (mkF m 133 #[.val (.long p0), .second, .val (.long p1), .second, .val (.long p2), .second, .val (.long p3), .second, .val (.ref r_56), .val (.ref r_62), .val (.int (0 : Int32)), .val (.int z112)] [])) t)
            refine XS.iconst X114.here hx rfl (hb hby at_133) (?_ : Steps p.tables e below (T114.setTop (mkF m 134 #[.val (.long p0), .second, .val (.long p1), .second, .val (.long p2), .second, .val (.long p3), .second, .val (.ref r_56), .val (.ref r_62), .val (.int (0 : Int32)), .val (.int z112)] [(.int (1 : Int32))])) t)
            refine XS.goto X114.here hx rfl (pc0 := 134) (pc' := 138) rfl (hb hby at_134) (by decide) (by decide) (?_ : Steps p.tables e below (T114.setTop (mkF m 138 #[.val (.long p0), .second, .val (.long p1), .second, .val (.long p2), .second, .val (.long p3), .second, .val (.ref r_56), .val (.ref r_62), .val (.int (0 : Int32)), .val (.int z112)] [(.int (1 : Int32))])) t)
            have q_z115 := (hz115.trans (if_pos hj130_116))
            subst q_z115
            exact k
          · refine XS.icmpYes X114.here hx rfl (pc0 := 130) (pc' := 137) rfl (hb hby at_130) rfl (feq hj130_116).2 (by decide) (by decide) (?_ : Steps p.tables e below (T114.setTop (mkF m 137 #[.val (.long p0), .second, .val (.long p1), .second, .val (.long p2), .second, .val (.long p3), .second, .val (.ref r_56), .val (.ref r_62), .val (.int (0 : Int32)), .val (.int z112)] [])) t)
            refine XS.iconst X114.here hx rfl (hb hby at_137) (?_ : Steps p.tables e below (T114.setTop (mkF m 138 #[.val (.long p0), .second, .val (.long p1), .second, .val (.long p2), .second, .val (.long p3), .second, .val (.ref r_56), .val (.ref r_62), .val (.int (0 : Int32)), .val (.int z112)] [(.int (0 : Int32))])) t)
            have q_z115 := (hz115.trans (if_neg hj130_116))
            subst q_z115
            exact k
        refine own_leave X114 Bd.notSynchronized (v := some (.int (nar .boolean z115))) (fun h => by rw [Bd.returns] at h; cases h) (fun fs hr => retN X114 hx (t := .boolean) Bd.returns (by simp) (hb hby at_138) hr) ?_ (by decide) (by decide)
        refine ⟨?_, N114⟩
        rw [hz115, if_pos (by unfold own_f6; rw [if_neg ((own_min _ _).mp hc34_73), if_pos (Decidable.not_not.mp (fun q => hc55_79 ((own_min _ _).mpr q)))])]; rfl
  · refine own_via (T72.setTop (mkF m 104 #[.val (.long p0), .second, .val (.long p1), .second, .val (.long p2), .second, .val (.long p3), .second, .val (.ref r_56), .val (.ref r_62), .unset, .unset] [])) (fun t k => XS.icmpYes X72.here hx rfl (pc0 := 34) (pc' := 104) rfl (hb hby at_34) rfl (feq hc34_73).2 (by decide) (by decide) k) ?_
    refine own_via (T72.setTop (mkF m 105 #[.val (.long p0), .second, .val (.long p1), .second, .val (.long p2), .second, .val (.long p3), .second, .val (.ref r_56), .val (.ref r_62), .unset, .unset] [(.int (0 : Int32))])) (fun t k => XS.iconst X72.here hx rfl (hb hby at_104) k) ?_
    refine own_via (T72.setTop (mkF m 107 #[.val (.long p0), .second, .val (.long p1), .second, .val (.long p2), .second, .val (.long p3), .second, .val (.ref r_56), .val (.ref r_62), .val (.int (0 : Int32)), .unset] [])) (fun t k => XS.istore X72.here hx rfl (hb hby at_105) rfl (l' := #[.val (.long p0), .second, .val (.long p1), .second, .val (.long p2), .second, .val (.long p3), .second, .val (.ref r_56), .val (.ref r_62), .val (.int (0 : Int32)), .unset]) rfl k) ?_
    refine own_via (T72.setTop (mkF m 109 #[.val (.long p0), .second, .val (.long p1), .second, .val (.long p2), .second, .val (.long p3), .second, .val (.ref r_56), .val (.ref r_62), .val (.int (0 : Int32)), .unset] [(.ref r_56)])) (fun t k => XS.aload X72.here hx rfl (hb hby at_107) rfl rfl k) ?_
    refine own_via (T72.setTop (mkF m 111 #[.val (.long p0), .second, .val (.long p1), .second, .val (.long p2), .second, .val (.long p3), .second, .val (.ref r_56), .val (.ref r_62), .val (.int (0 : Int32)), .unset] [(.ref r_56), (.ref r_56)])) (fun t k => XS.aload X72.here hx rfl (hb hby at_109) rfl rfl k) ?_
    have F118 := (G56_2.keep K62q (by simp))
    have F119 := (G56_3.keep K62q (by simp))
    have F120 := (G56_4.keep K62q (by simp))
    have F121 := (G56_0.keep K62q)
    obtain ⟨cq117, kq117, q117a, q117b, q117c⟩ := isOf hZ e72 F121
    obtain ⟨_, _, ⟨T117, L117, k117, n117⟩, -, X117, ⟨Lc117, hQ117, l117, y117, z117⟩, st117⟩ := X72.virtualBack hx (y := (⟨"com/example/rondo/rondo/Rect", "contains", "(Lcom/example/rondo/rondo/Rect;)Z"⟩ : MethodName)) (z := (⟨"com/example/rondo/rondo/Rect", "contains", "(Lcom/example/rondo/rondo/Rect;)Z"⟩ : MethodName)) hown (mvT hZ (hw _ (List.mem_of_getElem? (i := 29) rfl))) (mvT hZ (hw _ (List.mem_of_getElem? (i := 30) rfl))) (notFace_of_selects (args := #[]) (mvT hZ (hw _ (List.mem_of_getElem? (i := 32) rfl)))) (mvT hZ (hw _ (List.mem_of_getElem? (i := 32) rfl))) (mvT hZ (hw _ (List.mem_of_getElem? (i := 31) rfl))) (by decide) (backOf (W := 0) (rm6 l Z a0 hw [] r_56 r_56 h62 n0 (Nat.le_trans Z0 K63.1) z58 z59 z60 z61 z58 z59 z60 z61 F69 F118 F119 F120 F69 F118 F119 F120) hZ (hw _ (List.mem_of_getElem? (i := 33) rfl)) (hw _ (List.mem_of_getElem? (i := 6) rfl)) (by decide) (by decide)) q117a q117c (g := (mkF m 111 #[.val (.long p0), .second, .val (.long p1), .second, .val (.long p2), .second, .val (.long p3), .second, .val (.ref r_56), .val (.ref r_62), .val (.int (0 : Int32)), .unset] [(.ref r_56), (.ref r_56)])) rfl (by rw [hml]; rfl) (Steps.refl _) (argsL := [(.ref r_56)]) (rest := []) (lenOf pd_3 rfl) rfl (by show 2 * 0 + _ ≤ _; exact Nat.le_of_eq rfl) (hb hby at_111) (fun _ _ => ⟨rfl, e72, (by decide : 2 + 0 ≤ _), (by decide : 8 + 0 ≤ _)⟩)
    dsimp only [Pt.U, Pt.locs, Pt.cells, Pt.slots] at X117 l117 y117 z117 st117 hQ117
    subst l117 y117 z117
    obtain ⟨rfl, N117q, e117⟩ := hQ117
    have N117 := Fr.app N71 N117q
    refine own_via (T117.setTop (mkF m 114 #[.val (.long p0), .second, .val (.long p1), .second, .val (.long p2), .second, .val (.long p3), .second, .val (.ref r_56), .val (.ref r_62), .val (.int (0 : Int32)), .unset] [(.int (own_f6 z58 z59 z60 z61 z58 z59 z60 z61))])) (fun t k => st117.trans k) ?_
    obtain ⟨z122, hz122⟩ : ∃ z : Int32, z = (own_f6 z58 z59 z60 z61 z58 z59 z60 z61) := ⟨_, rfl⟩
    refine own_via (T117.setTop (mkF m 116 #[.val (.long p0), .second, .val (.long p1), .second, .val (.long p2), .second, .val (.long p3), .second, .val (.ref r_56), .val (.ref r_62), .val (.int (0 : Int32)), .val (.int z122)] [])) (fun t k => XS.istore X117.here hx rfl (hb hby at_114) rfl (l' := #[.val (.long p0), .second, .val (.long p1), .second, .val (.long p2), .second, .val (.long p3), .second, .val (.ref r_56), .val (.ref r_62), .val (.int (0 : Int32)), .val (.int z122)]) (by rw [hz122]; rfl) k) ?_
    refine own_via (T117.setTop (mkF m 118 #[.val (.long p0), .second, .val (.long p1), .second, .val (.long p2), .second, .val (.long p3), .second, .val (.ref r_56), .val (.ref r_62), .val (.int (0 : Int32)), .val (.int z122)] [(.int z122)])) (fun t k => XS.iload X117.here hx rfl (hb hby at_116) rfl  k) ?_
    by_cases hc118_123 : z122 = (0 : Int32)
    · refine own_via (T117.setTop (mkF m 137 #[.val (.long p0), .second, .val (.long p1), .second, .val (.long p2), .second, .val (.long p3), .second, .val (.ref r_56), .val (.ref r_62), .val (.int (0 : Int32)), .val (.int z122)] [])) (fun t k => XS.ifYes X117.here hx rfl (pc0 := 118) (pc' := 137) rfl (hb hby at_118) rfl ((if0 _ _).trans (teq hc118_123).1) (by decide) (by decide) k) ?_
      refine own_via (T117.setTop (mkF m 138 #[.val (.long p0), .second, .val (.long p1), .second, .val (.long p2), .second, .val (.long p3), .second, .val (.ref r_56), .val (.ref r_62), .val (.int (0 : Int32)), .val (.int z122)] [(.int (0 : Int32))])) (fun t k => XS.iconst X117.here hx rfl (hb hby at_137) k) ?_
      refine own_leave X117 Bd.notSynchronized (v := some (.int (0 : Int32))) (fun h => by rw [Bd.returns] at h; cases h) (fun fs hr => retN X117 hx (t := .boolean) Bd.returns (by simp) (hb hby at_138) hr) ?_ (by decide) (by decide)
      exfalso
      exact absurd (hc118_123.symm.trans (hz122.trans (own_self _ _ _ _))) (by decide)
    · refine own_via (T117.setTop (mkF m 121 #[.val (.long p0), .second, .val (.long p1), .second, .val (.long p2), .second, .val (.long p3), .second, .val (.ref r_56), .val (.ref r_62), .val (.int (0 : Int32)), .val (.int z122)] [])) (fun t k => XS.ifNo X117.here hx rfl (hb hby at_118) rfl ((if0 _ _).trans (feq hc118_123).1) k) ?_
      refine own_via (T117.setTop (mkF m 123 #[.val (.long p0), .second, .val (.long p1), .second, .val (.long p2), .second, .val (.long p3), .second, .val (.ref r_56), .val (.ref r_62), .val (.int (0 : Int32)), .val (.int z122)] [(.ref r_56)])) (fun t k => XS.aload X117.here hx rfl (hb hby at_121) rfl rfl k) ?_
      refine own_via (T117.setTop (mkF m 125 #[.val (.long p0), .second, .val (.long p1), .second, .val (.long p2), .second, .val (.long p3), .second, .val (.ref r_56), .val (.ref r_62), .val (.int (0 : Int32)), .val (.int z122)] [(.ref r_62), (.ref r_56)])) (fun t k => XS.aload X117.here hx rfl (hb hby at_123) rfl rfl k) ?_
      obtain ⟨cq124, kq124, q124a, q124b, q124c⟩ := isOf hZ e117 F121
      obtain ⟨_, _, ⟨T124, L124, k124, n124⟩, -, X124, ⟨Lc124, hQ124, l124, y124, z124⟩, st124⟩ := X117.virtualBack hx (y := (⟨"com/example/rondo/rondo/Rect", "contains", "(Lcom/example/rondo/rondo/Rect;)Z"⟩ : MethodName)) (z := (⟨"com/example/rondo/rondo/Rect", "contains", "(Lcom/example/rondo/rondo/Rect;)Z"⟩ : MethodName)) hown (mvT hZ (hw _ (List.mem_of_getElem? (i := 29) rfl))) (mvT hZ (hw _ (List.mem_of_getElem? (i := 30) rfl))) (notFace_of_selects (args := #[]) (mvT hZ (hw _ (List.mem_of_getElem? (i := 32) rfl)))) (mvT hZ (hw _ (List.mem_of_getElem? (i := 32) rfl))) (mvT hZ (hw _ (List.mem_of_getElem? (i := 31) rfl))) (by decide) (backOf (W := 0) (rm6 l Z a0 hw [] r_56 r_62 h62 n0 (Nat.le_trans Z0 K63.1) z58 z59 z60 z61 z64 z65 z66 z67 F69 F118 F119 F120 G62_1 G62_2 G62_3 G62_4) hZ (hw _ (List.mem_of_getElem? (i := 33) rfl)) (hw _ (List.mem_of_getElem? (i := 6) rfl)) (by decide) (by decide)) q124a q124c (g := (mkF m 125 #[.val (.long p0), .second, .val (.long p1), .second, .val (.long p2), .second, .val (.long p3), .second, .val (.ref r_56), .val (.ref r_62), .val (.int (0 : Int32)), .val (.int z122)] [(.ref r_62), (.ref r_56)])) rfl (by rw [hml]; rfl) (Steps.refl _) (argsL := [(.ref r_62)]) (rest := []) (lenOf pd_3 rfl) rfl (by show 2 * 0 + _ ≤ _; exact Nat.le_of_eq rfl) (hb hby at_125) (fun _ _ => ⟨rfl, e117, (by decide : 2 + 0 ≤ _), (by decide : 8 + 0 ≤ _)⟩)
      dsimp only [Pt.U, Pt.locs, Pt.cells, Pt.slots] at X124 l124 y124 z124 st124 hQ124
      subst l124 y124 z124
      obtain ⟨rfl, N124q, e124⟩ := hQ124
      have N124 := Fr.app N117 N124q
      refine own_via (T124.setTop (mkF m 128 #[.val (.long p0), .second, .val (.long p1), .second, .val (.long p2), .second, .val (.long p3), .second, .val (.ref r_56), .val (.ref r_62), .val (.int (0 : Int32)), .val (.int z122)] [(.int (own_f6 z58 z59 z60 z61 z64 z65 z66 z67))])) (fun t k => st124.trans k) ?_
      refine own_via (T124.setTop (mkF m 130 #[.val (.long p0), .second, .val (.long p1), .second, .val (.long p2), .second, .val (.long p3), .second, .val (.ref r_56), .val (.ref r_62), .val (.int (0 : Int32)), .val (.int z122)] [(.int (0 : Int32)), (.int (own_f6 z58 z59 z60 z61 z64 z65 z66 z67))])) (fun t k => XS.iload X124.here hx rfl (hb hby at_128) rfl  k) ?_
      obtain ⟨z125, hz125⟩ : ∃ z : Int32, z = (if (own_f6 z58 z59 z60 z61 z64 z65 z66 z67) = (0 : Int32) then (1 : Int32) else (0 : Int32)) := ⟨_, rfl⟩
      refine own_via (T124.setTop (mkF m 138 #[.val (.long p0), .second, .val (.long p1), .second, .val (.long p2), .second, .val (.long p3), .second, .val (.ref r_56), .val (.ref r_62), .val (.int (0 : Int32)), .val (.int z122)] [(.int z125)])) (fun t k => ?_) ?_
      · skip
        by_cases hj130_126 : (own_f6 z58 z59 z60 z61 z64 z65 z66 z67) = (0 : Int32)
        · refine XS.icmpNo X124.here hx rfl (hb hby at_130) rfl (teq hj130_126).2 (?_ : Steps p.tables e below (T124.setTop (mkF m 133 #[.val (.long p0), .second, .val (.long p1), .second, .val (.long p2), .second, .val (.long p3), .second, .val (.ref r_56), .val (.ref r_62), .val (.int (0 : Int32)), .val (.int z122)] [])) t)
          refine XS.iconst X124.here hx rfl (hb hby at_133) (?_ : Steps p.tables e below (T124.setTop (mkF m 134 #[.val (.long p0), .second, .val (.long p1), .second, .val (.long p2), .second, .val (.long p3), .second, .val (.ref r_56), .val (.ref r_62), .val (.int (0 : Int32)), .val (.int z122)] [(.int (1 : Int32))])) t)
          refine XS.goto X124.here hx rfl (pc0 := 134) (pc' := 138) rfl (hb hby at_134) (by decide) (by decide) (?_ : Steps p.tables e below (T124.setTop (mkF m 138 #[.val (.long p0), .second, .val (.long p1), .second, .val (.long p2), .second, .val (.long p3), .second, .val (.ref r_56), .val (.ref r_62), .val (.int (0 : Int32)), .val (.int z122)] [(.int (1 : Int32))])) t)
          have q_z125 := (hz125.trans (if_pos hj130_126))
          subst q_z125
          exact k
        · refine XS.icmpYes X124.here hx rfl (pc0 := 130) (pc' := 137) rfl (hb hby at_130) rfl (feq hj130_126).2 (by decide) (by decide) (?_ : Steps p.tables e below (T124.setTop (mkF m 137 #[.val (.long p0), .second, .val (.long p1), .second, .val (.long p2), .second, .val (.long p3), .second, .val (.ref r_56), .val (.ref r_62), .val (.int (0 : Int32)), .val (.int z122)] [])) t)
          refine XS.iconst X124.here hx rfl (hb hby at_137) (?_ : Steps p.tables e below (T124.setTop (mkF m 138 #[.val (.long p0), .second, .val (.long p1), .second, .val (.long p2), .second, .val (.long p3), .second, .val (.ref r_56), .val (.ref r_62), .val (.int (0 : Int32)), .val (.int z122)] [(.int (0 : Int32))])) t)
          have q_z125 := (hz125.trans (if_neg hj130_126))
          subst q_z125
          exact k
      refine own_leave X124 Bd.notSynchronized (v := some (.int (nar .boolean z125))) (fun h => by rw [Bd.returns] at h; cases h) (fun fs hr => retN X124 hx (t := .boolean) Bd.returns (by simp) (hb hby at_138) hr) ?_ (by decide) (by decide)
      refine ⟨?_, N124⟩
      rw [hz125, if_pos (by unfold own_f6; rw [if_pos (Decidable.not_not.mp (fun q => hc34_73 ((own_min _ _).mpr q)))])]; rfl
set_option maxRecDepth 65536 in
set_option maxHeartbeats 40000000 in
theorem comes_1 {Post : Tables → Env → Array Value → State → Outcome → State → Prop} (hpost : ∀ tb e args s v u, (limb_1_1.after args s (.returned v) u = true ∧ limb_1_2.after args s (.returned v) u = true ∧ True) → FrameEnd s (.returned v) u (Jvm.fieldLocs frame_1_writes args s ++ Jvm.arrayLocs frame_1_arrays args s ++ Jvm.staticLocs frame_1_statics s) 16 128 → Post tb e args s (.returned v) u) :
    ArmFor flags0 classFile x code maxLocals ret World_1 tables_1 room_1 Calls_1 rest_1 Pre_1 Post := by
  intro l hfl _ _ p e ha hc hk s m args below hf hA hF happ hP
  obtain ⟨hcalls, hrest, hpre⟩ := hP
  obtain ⟨-, -, -, hnamed, -, -, -, hat⟩ := (Spec.applies_iff hf).mp happ
  obtain ⟨hg, hn⟩ := and_e (Cond.before_iff.mp (show (Jvm.Cond.and given_1 narrow_1).before args s = true from hpre))
  obtain ⟨g0, g⟩ := and_e hg
  obtain ⟨ga0, g⟩ := and_e g
  obtain ⟨ga1, g⟩ := and_e g
  obtain ⟨ga2, g⟩ := and_e g
  have ga3 := g
  obtain ⟨w0, w1, w2, w3, rfl⟩ : ∃ w0 w1 w2 w3 : Value, args = #[w0, w1, w2, w3] := by
    have hs : args.size = 4 := by simpa [Cond.value, given_1] using g0
    obtain ⟨L⟩ := args
    match L, hs with
    | [w0, w1, w2, w3], _ => exact ⟨w0, w1, w2, w3, rfl⟩
  have hw := fun d (hd : d ∈ tables_1) => atoms_spec (ws := Jvm.Cond.code x code maxLocals ret :: tables_1) hat d (List.mem_cons_of_mem _ hd)
  have hfit : Fit s := fun {y c} hc i hi => by
    obtain ⟨ha, rfl⟩ := Array.getElem?_eq_some_iff.mp hc
    have q := List.all_eq_true.mp ((Array.all_eq_true_iff_forall_mem.mp hF) _ (Array.getElem_mem ha)) i (List.mem_range.mpr hi)
    simpa [Array.getElem?_eq_getElem hi] using q
  obtain ⟨i0, ei0⟩ := isL_v ga0
  obtain rfl : w0 = (.long i0) := Option.some.inj ei0
  obtain ⟨i1, ei1⟩ := isL_v ga1
  obtain rfl : w1 = (.long i1) := Option.some.inj ei1
  obtain ⟨i2, ei2⟩ := isL_v ga2
  obtain rfl : w2 = (.long i2) := Option.some.inj ei2
  obtain ⟨i3, ei3⟩ := isL_v ga3
  obtain rfl : w3 = (.long i3) := Option.some.inj ei3
  obtain ⟨n, o, h1, h2, h3, _, L, rfl, ⟨rfl, N⟩, hq⟩ := rm0 l s _ hw tables_1 i0 i1 i2 i3 s.heap s.heap.size (Nat.le_refl _)  p e ha hc hk s m _ below hf ((Spec.applies_iff_loose hf).mp happ).1 ⟨rfl, State.Warmed39.refl s, rfl⟩ trivial
  refine ⟨n, _, h1, h2, h3, hpost _ _ _ _ _ _ ⟨Cond.after_iff.mpr rfl, Cond.after_iff.mpr (eq_i res_at (Term.int_eval (1)) rfl), trivial⟩ ⟨hq.1, hq.2.1, (hq.2.2.sift fun y hy => Or.inr (N y hy)).mono (by decide) (by decide)⟩⟩
theorem main_1_1 : Claimed_1_1 := comes_1 fun _ _ _ _ _ _ h hF => ⟨h.1, hF⟩
theorem main_1_2 : Claimed_1_2 := comes_1 fun _ _ _ _ _ _ h hF => ⟨h.2.1, hF⟩
end Jvm.Pilot.@@N@@
namespace Jvm.Pilot.@@N@@
open Jvm Jvm.ClassFile Sem Op Lib Jvm.Free Jvm.Stand Jvm.Pilot.@@N@@.Jvm.D
/-! MADE BY PROGRAM (witnessworld.py) out of the Statement's table words and the real class files: 10 classes; the members and pool entries that the words name. The judged class is class 1, her method 2. -/
namespace start1
open Jvm.ClassFile
def u (s : String) : CpInfo := .utf8 (stringToUtf16 s)
/-- a pool by its gaps: so many unusable entries, then the entry; so many at the end -/
def gap : Nat → List CpInfo → List CpInfo
  | 0, r => r
  | n + 1, r => .unusable :: gap n r
def poolList (es : List (Nat × CpInfo)) (last : Nat) : List CpInfo := es.foldr (fun e r => gap e.1 (e.2 :: r)) (gap last [])
def pool (es : List (Nat × CpInfo)) (last : Nat) : Array CpInfo := ⟨poolList es last⟩
def fileOf (pool : Array CpInfo) (this : Nat) (attrs : Array Attribute := #[]) (ms : Array MethodInfo := #[]) (fl : Nat := 33) (sup : Nat := 0) (ifs : Array Nat := #[]) (fds : Array FieldInfo := #[]) : ClassFile where
  minorVersion := 0
  majorVersion := 65
  constantPool := pool
  accessFlags := fl
  thisClass := this
  superClass := sup
  interfaces := ifs
  fields := fds
  methods := ms
  attributes := attrs
def plain (name : String) (sup : Option ClassId) : Class where
  name := name
  kind := .ordinary
  loader := none
  accessFlags := 33
  super := sup
  interfaces := #[]
  cf := none
  fields := #[]
  methods := #[]
  instanceTypes := #[]
  staticTypes := #[]
  resolved := #[]
  callSites := []
  init := .initialized
  statics := none
  mirror := none

def pool0 : Array CpInfo := pool [(5, u "<init>"), (0, u "()V"), (1, .class_ 10), (1, u "java/lang/Object")] 113

def k0c0 : Code := { maxStack := 0, maxLocals := 1, code := object_method_1_code, exceptionTable := #[], attributes := #[] }
def k0m0 : Method := { name := "<init>", desc := "()V", sig := { parameters := [], returnType := none }, accessFlags := 1, code := some k0c0 }
/-- java/lang/Object -/
def k0 : Class := { plain "java/lang/Object" none with
  accessFlags := 33
  interfaces := #[]
  cf := some (fileOf pool0 8 #[] #[{ accessFlags := 1, nameIndex := 5, descriptorIndex := 6, attributes := #[] }] 33 0 #[] #[])
  fields := #[]
  methods := #[k0m0]
  instanceTypes := #[]
  staticTypes := #[]
  resolved := Array.replicate 124 none
  statics := none }

def pool1 : Array CpInfo := pool [(2, .class_ 4), (1, u "java/lang/Object"), (0, u "<init>"), (0, u "()V"), (0, .class_ 8), (0, u "com/example/rondo/rondo/Rect"), (0, .methodref 10 11), (0, .class_ 12), (0, .nameAndType 13 14), (0, u "java/lang/Math"), (0, u "min"), (0, u "(II)I"), (0, .methodref 10 16), (0, .nameAndType 17 14), (0, u "max"), (0, .methodref 7 19), (0, .nameAndType 5 20), (0, u "(IIII)V"), (0, .methodref 22 23), (0, .class_ 24), (0, .nameAndType 25 26), (0, u "com/example/rondo/rondo/RectContainsPinLaw"), (0, u "make"), (0, u "(JJ)Lcom/example/rondo/rondo/Rect;"), (0, .fieldref 7 28), (0, .nameAndType 29 30), (0, u "left"), (0, u "I"), (0, .fieldref 7 32), (0, .nameAndType 33 30), (0, u "top"), (0, .fieldref 7 35), (0, .nameAndType 36 30), (0, u "right"), (0, .fieldref 7 38), (0, .nameAndType 39 30), (0, u "bottom"), (0, .methodref 7 41), (0, .nameAndType 42 43), (0, u "contains"), (0, u "(Lcom/example/rondo/rondo/Rect;)Z"), (2, u "law"), (0, u "(JJJJ)Z")] 3

def k1m0 : Method := { name := "<init>", desc := "()V", sig := { parameters := [], returnType := none }, accessFlags := 1, code := none }
def k1c1 : Code := { maxStack := 7, maxLocals := 8, code := method_2_code, exceptionTable := #[], attributes := #[] }
def k1m1 : Method := { name := "make", desc := "(JJ)Lcom/example/rondo/rondo/Rect;", sig := { parameters := [.long, .long], returnType := some (.object "com/example/rondo/rondo/Rect") }, accessFlags := 10, code := some k1c1 }
def k1c2 : Code := { maxStack := 4, maxLocals := 12, code := code, exceptionTable := #[], attributes := #[] }
def k1m2 : Method := { name := "law", desc := "(JJJJ)Z", sig := { parameters := [.long, .long, .long, .long], returnType := some .boolean }, accessFlags := 9, code := some k1c2 }
/-- com/example/rondo/rondo/RectContainsPinLaw -/
def k1 : Class := { plain "com/example/rondo/rondo/RectContainsPinLaw" (some 0) with
  accessFlags := 49
  interfaces := #[]
  cf := some (fileOf pool1 22 #[] #[{ accessFlags := 1, nameIndex := 5, descriptorIndex := 6, attributes := #[] }, { accessFlags := 10, nameIndex := 25, descriptorIndex := 26, attributes := #[] }, { accessFlags := 9, nameIndex := 46, descriptorIndex := 47, attributes := #[] }] 49 2 #[] #[])
  fields := #[]
  methods := #[k1m0, k1m1, k1m2]
  instanceTypes := #[]
  staticTypes := #[]
  resolved := Array.replicate 51 none
  statics := none }

def pool2 : Array CpInfo := pool [(1, .methodref 2 3), (0, .class_ 4), (0, .nameAndType 5 6), (0, u "java/lang/Object"), (0, u "<init>"), (0, u "()V"), (3, .class_ 12), (1, u "com/example/rondo/rondo/Rect"), (10, .fieldref 10 24), (0, .nameAndType 25 26), (0, u "left"), (0, u "I"), (0, .fieldref 10 28), (0, .nameAndType 29 26), (0, u "top"), (0, .fieldref 10 31), (0, .nameAndType 32 26), (0, u "right"), (0, .fieldref 10 34), (0, .nameAndType 35 26), (0, u "bottom"), (2, u "contains"), (0, u "(Lcom/example/rondo/rondo/Rect;)Z"), (11, u "(IIII)V")] 34

def k2c0 : Code := { maxStack := 6, maxLocals := 5, code := prog_40_method_1_code, exceptionTable := #[], attributes := #[] }
def k2m0 : Method := { name := "<init>", desc := "(IIII)V", sig := { parameters := [.int, .int, .int, .int], returnType := none }, accessFlags := 1, code := some k2c0 }
def k2c1 : Code := { maxStack := 2, maxLocals := 2, code := prog_40_method_3_code, exceptionTable := #[], attributes := #[] }
def k2m1 : Method := { name := "contains", desc := "(Lcom/example/rondo/rondo/Rect;)Z", sig := { parameters := [(.object "com/example/rondo/rondo/Rect")], returnType := some .boolean }, accessFlags := 1, code := some k2c1 }
/-- com/example/rondo/rondo/Rect -/
def k2 : Class := { plain "com/example/rondo/rondo/Rect" (some 0) with
  accessFlags := 49
  interfaces := #[]
  cf := some (fileOf pool2 10 #[] #[{ accessFlags := 1, nameIndex := 5, descriptorIndex := 51, attributes := #[] }, { accessFlags := 1, nameIndex := 38, descriptorIndex := 39, attributes := #[] }] 49 2 #[] #[{ accessFlags := 17, nameIndex := 25, descriptorIndex := 26, attributes := #[] }, { accessFlags := 17, nameIndex := 29, descriptorIndex := 26, attributes := #[] }, { accessFlags := 17, nameIndex := 32, descriptorIndex := 26, attributes := #[] }, { accessFlags := 17, nameIndex := 35, descriptorIndex := 26, attributes := #[] }])
  fields := #[{ name := "left", type := .int, accessFlags := 17, slot := 0, constantValue := 0 }, { name := "top", type := .int, accessFlags := 17, slot := 1, constantValue := 0 }, { name := "right", type := .int, accessFlags := 17, slot := 2, constantValue := 0 }, { name := "bottom", type := .int, accessFlags := 17, slot := 3, constantValue := 0 }]
  methods := #[k2m0, k2m1]
  instanceTypes := #[.int, .int, .int, .int]
  staticTypes := #[]
  resolved := Array.replicate 86 none
  statics := none }

def pool3 : Array CpInfo := pool [(1, .class_ 2), (0, u "java/lang/Math"), (1, .class_ 6), (1, u "java/lang/Object"), (0, u "<init>"), (0, u "()V"), (89, .class_ 100), (1, u "java/lang/Math$RandomNumberGeneratorHolder"), (71, u "negativeZeroFloatBits"), (0, u "J"), (2, u "negativeZeroDoubleBits"), (21, u "max"), (2, u "min"), (43, u "$assertionsDisabled"), (0, u "Z"), (88, u "(II)I"), (2, u "twoToTheDoubleScaleDown"), (0, u "D"), (4, u "twoToTheDoubleScaleUp"), (9, u "E"), (3, u "PI"), (2, u "TAU"), (2, u "DEGREES_TO_RADIANS"), (0, u "RADIANS_TO_DEGREES")] 94

def k3m0 : Method := { name := "<init>", desc := "()V", sig := { parameters := [], returnType := none }, accessFlags := 2, code := none }
def k3c1 : Code := { maxStack := 2, maxLocals := 2, code := jdk_29_method_65_code, exceptionTable := #[], attributes := #[] }
def k3m1 : Method := { name := "max", desc := "(II)I", sig := { parameters := [.int, .int], returnType := some .int }, accessFlags := 9, code := some k3c1 }
def k3c2 : Code := { maxStack := 2, maxLocals := 2, code := jdk_29_method_69_code, exceptionTable := #[], attributes := #[] }
def k3m2 : Method := { name := "min", desc := "(II)I", sig := { parameters := [.int, .int], returnType := some .int }, accessFlags := 9, code := some k3c2 }
/-- java/lang/Math -/
def k3 : Class := { plain "java/lang/Math" (some 0) with
  accessFlags := 49
  interfaces := #[]
  cf := some (fileOf pool3 1 #[.nestMembers #[98]] #[{ accessFlags := 2, nameIndex := 7, descriptorIndex := 8, attributes := #[] }, { accessFlags := 9, nameIndex := 198, descriptorIndex := 335, attributes := #[] }, { accessFlags := 9, nameIndex := 201, descriptorIndex := 335, attributes := #[] }] 49 4 #[] #[{ accessFlags := 25, nameIndex := 354, descriptorIndex := 339, attributes := #[] }, { accessFlags := 25, nameIndex := 358, descriptorIndex := 339, attributes := #[] }, { accessFlags := 25, nameIndex := 361, descriptorIndex := 339, attributes := #[] }, { accessFlags := 26, nameIndex := 364, descriptorIndex := 339, attributes := #[] }, { accessFlags := 26, nameIndex := 365, descriptorIndex := 339, attributes := #[] }, { accessFlags := 26, nameIndex := 172, descriptorIndex := 173, attributes := #[] }, { accessFlags := 26, nameIndex := 176, descriptorIndex := 173, attributes := #[] }, { accessFlags := 8, nameIndex := 344, descriptorIndex := 339, attributes := #[] }, { accessFlags := 8, nameIndex := 338, descriptorIndex := 339, attributes := #[] }, { accessFlags := 4120, nameIndex := 245, descriptorIndex := 246, attributes := #[] }])
  fields := #[{ name := "E", type := .double, accessFlags := 25, slot := 0, constantValue := 0 }, { name := "PI", type := .double, accessFlags := 25, slot := 1, constantValue := 0 }, { name := "TAU", type := .double, accessFlags := 25, slot := 2, constantValue := 0 }, { name := "DEGREES_TO_RADIANS", type := .double, accessFlags := 26, slot := 3, constantValue := 0 }, { name := "RADIANS_TO_DEGREES", type := .double, accessFlags := 26, slot := 4, constantValue := 0 }, { name := "negativeZeroFloatBits", type := .long, accessFlags := 26, slot := 5, constantValue := 0 }, { name := "negativeZeroDoubleBits", type := .long, accessFlags := 26, slot := 6, constantValue := 0 }, { name := "twoToTheDoubleScaleUp", type := .double, accessFlags := 8, slot := 7, constantValue := 0 }, { name := "twoToTheDoubleScaleDown", type := .double, accessFlags := 8, slot := 8, constantValue := 0 }, { name := "$assertionsDisabled", type := .boolean, accessFlags := 4120, slot := 9, constantValue := 0 }]
  methods := #[k3m0, k3m1, k3m2]
  instanceTypes := #[]
  staticTypes := #[.double, .double, .double, .double, .double, .long, .long, .double, .double, .boolean]
  resolved := Array.replicate 460 none
  statics := none }

def pool4 : Array CpInfo := pool [(1, u "java/lang/Cloneable"), (0, .class_ 1), (0, u "java/lang/Object"), (0, .class_ 3)] 3

/-- java/lang/Cloneable -/
def k4 : Class := { plain "java/lang/Cloneable" (some 0) with
  accessFlags := 1537
  interfaces := #[]
  cf := some (fileOf pool4 2 #[] #[] 1537 4 #[] #[])
  fields := #[]
  methods := #[]
  instanceTypes := #[]
  staticTypes := #[]
  resolved := Array.replicate 8 none
  statics := none }

def pool5 : Array CpInfo := pool [(1, u "java/io/Serializable"), (0, .class_ 1), (0, u "java/lang/Object"), (0, .class_ 3)] 3

/-- java/io/Serializable -/
def k5 : Class := { plain "java/io/Serializable" (some 0) with
  accessFlags := 1537
  interfaces := #[]
  cf := some (fileOf pool5 2 #[] #[] 1537 4 #[] #[])
  fields := #[]
  methods := #[]
  instanceTypes := #[]
  staticTypes := #[]
  resolved := Array.replicate 8 none
  statics := none }

/-- the primitive byte -/
def k6 : Class := { plain "byte" none with kind := .primitive 'B', accessFlags := 0x411 }
/-- [B -/
def k7 : Class := { plain "[B" (some 0) with kind := .array 6 .byte, interfaces := #[4, 5], accessFlags := 1041 }

/-- the primitive int -/
def k8 : Class := { plain "int" none with kind := .primitive 'I', accessFlags := 0x411 }
/-- [I -/
def k9 : Class := { plain "[I" (some 0) with kind := .array 8 .int, interfaces := #[4, 5], accessFlags := 1041 }

def heap : Heap := #[]
def classes : Array Class := #[k0, k1, k2, k3, k4, k5, k6, k7, k8, k9]
def interned : List (Array UInt16 × Addr) := []
def slotsUsed : Nat := 0
def theMethod : MethodId := ⟨1, 2⟩
def args0 : Array Value := #[.long 5, .long 7, .long 3, .long 9]
def aboutOver (below : List Frame) : State where
  vm := { classes := classes, interned := interned.toArray }
  heap := heap
  slotsUsed := slotsUsed
  threads := #[{ frames := .invoking theMethod args0 :: below }]
def below0 : List Frame := [.native { method := ⟨0, 0⟩, args := #[] }]
def about1 : State := aboutOver below0
def p0 : Program := .bare "" "" ""
def e0 : Env := launch0.env 0 0 0
theorem w_frames : about1.frames = Frame.invoking theMethod args0 :: below0 := rfl
set_option maxRecDepth 65536 in
theorem w_args : argsFit about1.vm theMethod args0 = true := by decide +kernel
set_option maxRecDepth 65536 in
theorem w_heap : heapFits about1 = true := by decide +kernel
set_option maxRecDepth 65536 in
theorem w_runnable : about1.curStatus? = some .runnable := by decide +kernel
set_option maxRecDepth 65536 in
theorem w_alone : about1.alone = true := by decide +kernel
set_option maxRecDepth 65536 in
theorem w_named : about1.methodNamed? x = some theMethod := by decide +kernel
set_option maxRecDepth 65536 in
theorem w_hears : about1.hears theMethod below0 = true := by decide +kernel
set_option maxRecDepth 65536 in
theorem w_ripe : about1.ripe theMethod args0 below0 = true := by decide +kernel
theorem w_running : about1.status = .running := rfl
set_option maxRecDepth 65536 in
theorem w_room : about1.hasRoom e0.platform room_1 = true :=
  launch0.hasRoom_least _ room_1 (by decide +kernel) (by decide +kernel) (by decide +kernel) (by decide +kernel) (by decide +kernel) (by decide +kernel)
theorem allAtoms_all (ts : List Jvm.Cond) (a : Array Jvm.Value) (st : Jvm.State) : (allAtoms ts).before a st = ts.all (fun c => c.before a st) := by
  induction ts with
  | nil => rfl
  | cons c t ih =>
    show (Jvm.Cond.and c (allAtoms t)).before a st = _
    rw [Jvm.Cond.before_and, ih, List.all_cons]
def words1 : List Jvm.Cond := Jvm.Cond.code x code maxLocals ret :: tables_1
/-- a 'code' word, met by the world's own term for the bytes: nothing is compared byte by byte -/
theorem code_word {y : MethodName} {bytes : ByteArray} {mx : Nat} {rt : Option FieldType} {a : Array Value} {s : State} {m : MethodId} {meth : Method} {c : Code} (h1 : s.methodNamed? y = some m) (h2 : s.vm.method? m = some meth) (h3 : meth.code = some c) (h4 : c.code = bytes)
    (h5 : (c.maxLocals == mx && c.exceptionTable.isEmpty && decide (c.maxStack ≤ mostOperands) && decide (meth.sig.returnType = rt) && !meth.locks && decide (parseMethodDescriptor y.desc = some meth.sig)) = true) : (Jvm.Cond.code y bytes mx rt).before a s = true := by
  simp only [Bool.and_eq_true, beq_iff_eq, Bool.not_eq_true', decide_eq_true_eq] at h5
  obtain ⟨⟨⟨⟨⟨g1, g2⟩, g3⟩, g4⟩, g5⟩, g6⟩ := h5
  simp [Cond.before, Cond.holds, Cond.value, h1, h2, h3, h4, g1, g2, g3, g4, g5, g6]
def isCode : Jvm.Cond → Bool
  | .code _ _ _ _ => true
  | _ => false
theorem all_split {L : List Jvm.Cond} {P : Jvm.Cond → Bool} (h1 : L.all (fun c => isCode c || P c) = true) (h2 : ∀ c ∈ L.filter isCode, P c = true) : L.all P = true := by
  refine List.all_eq_true.mpr fun c hc => ?_
  have h := List.all_eq_true.mp h1 c hc
  rcases Bool.eq_false_or_eq_true (isCode c) with hi | hi
  · exact h2 c (List.mem_filter.mpr ⟨hc, hi⟩)
  · simpa [hi] using h
set_option maxRecDepth 65536 in
theorem w_c0 : (Jvm.Cond.code x code maxLocals ret).before args0 about1 = true := code_word (m := ⟨1, 2⟩) (meth := k1m2) (c := k1c2) (by decide +kernel) rfl rfl rfl (by decide +kernel)
set_option maxRecDepth 65536 in
theorem w_c1 : (Jvm.Cond.code ({ cls := "com/example/rondo/rondo/RectContainsPinLaw", name := "make", desc := "(JJ)Lcom/example/rondo/rondo/Rect;" } : Jvm.MethodName) method_2_code (8 : Nat) (Option.some (Jvm.ClassFile.FieldType.object "com/example/rondo/rondo/Rect"))).before args0 about1 = true := code_word (m := ⟨1, 1⟩) (meth := k1m1) (c := k1c1) (by decide +kernel) rfl rfl rfl (by decide +kernel)
set_option maxRecDepth 65536 in
theorem w_c2 : (Jvm.Cond.code ({ cls := "java/lang/Math", name := "min", desc := "(II)I" } : Jvm.MethodName) jdk_29_method_69_code (2 : Nat) (Option.some Jvm.ClassFile.FieldType.int)).before args0 about1 = true := code_word (m := ⟨3, 2⟩) (meth := k3m2) (c := k3c2) (by decide +kernel) rfl rfl rfl (by decide +kernel)
set_option maxRecDepth 65536 in
theorem w_c3 : (Jvm.Cond.code ({ cls := "java/lang/Math", name := "max", desc := "(II)I" } : Jvm.MethodName) jdk_29_method_65_code (2 : Nat) (Option.some Jvm.ClassFile.FieldType.int)).before args0 about1 = true := code_word (m := ⟨3, 1⟩) (meth := k3m1) (c := k3c1) (by decide +kernel) rfl rfl rfl (by decide +kernel)
set_option maxRecDepth 65536 in
theorem w_c4 : (Jvm.Cond.code ({ cls := "com/example/rondo/rondo/Rect", name := "<init>", desc := "(IIII)V" } : Jvm.MethodName) prog_40_method_1_code (5 : Nat) (Option.none : Option Jvm.ClassFile.FieldType)).before args0 about1 = true := code_word (m := ⟨2, 0⟩) (meth := k2m0) (c := k2c0) (by decide +kernel) rfl rfl rfl (by decide +kernel)
set_option maxRecDepth 65536 in
theorem w_c5 : (Jvm.Cond.code ({ cls := "java/lang/Object", name := "<init>", desc := "()V" } : Jvm.MethodName) object_method_1_code (1 : Nat) (Option.none : Option Jvm.ClassFile.FieldType)).before args0 about1 = true := code_word (m := ⟨0, 0⟩) (meth := k0m0) (c := k0c0) (by decide +kernel) rfl rfl rfl (by decide +kernel)
set_option maxRecDepth 65536 in
theorem w_c6 : (Jvm.Cond.code ({ cls := "com/example/rondo/rondo/Rect", name := "contains", desc := "(Lcom/example/rondo/rondo/Rect;)Z" } : Jvm.MethodName) prog_40_method_3_code (2 : Nat) (Option.some Jvm.ClassFile.FieldType.boolean)).before args0 about1 = true := code_word (m := ⟨2, 1⟩) (meth := k2m1) (c := k2c1) (by decide +kernel) rfl rfl rfl (by decide +kernel)
def codes1 : List Jvm.Cond := [Jvm.Cond.code x code maxLocals ret, Jvm.Cond.code ({ cls := "com/example/rondo/rondo/RectContainsPinLaw", name := "make", desc := "(JJ)Lcom/example/rondo/rondo/Rect;" } : Jvm.MethodName) method_2_code (8 : Nat) (Option.some (Jvm.ClassFile.FieldType.object "com/example/rondo/rondo/Rect")), Jvm.Cond.code ({ cls := "java/lang/Math", name := "min", desc := "(II)I" } : Jvm.MethodName) jdk_29_method_69_code (2 : Nat) (Option.some Jvm.ClassFile.FieldType.int), Jvm.Cond.code ({ cls := "java/lang/Math", name := "max", desc := "(II)I" } : Jvm.MethodName) jdk_29_method_65_code (2 : Nat) (Option.some Jvm.ClassFile.FieldType.int), Jvm.Cond.code ({ cls := "com/example/rondo/rondo/Rect", name := "<init>", desc := "(IIII)V" } : Jvm.MethodName) prog_40_method_1_code (5 : Nat) (Option.none : Option Jvm.ClassFile.FieldType), Jvm.Cond.code ({ cls := "java/lang/Object", name := "<init>", desc := "()V" } : Jvm.MethodName) object_method_1_code (1 : Nat) (Option.none : Option Jvm.ClassFile.FieldType), Jvm.Cond.code ({ cls := "com/example/rondo/rondo/Rect", name := "contains", desc := "(Lcom/example/rondo/rondo/Rect;)Z" } : Jvm.MethodName) prog_40_method_3_code (2 : Nat) (Option.some Jvm.ClassFile.FieldType.boolean)]
set_option maxRecDepth 65536 in
theorem codes_eq : words1.filter isCode = codes1 := rfl
theorem w_codes : ∀ c ∈ words1.filter isCode, c.before args0 about1 = true := by
  rw [codes_eq]
  intro c hc
  simp only [codes1, List.mem_cons, List.not_mem_nil, or_false] at hc
  rcases hc with rfl | rfl | rfl | rfl | rfl | rfl | rfl
  · exact w_c0
  · exact w_c1
  · exact w_c2
  · exact w_c3
  · exact w_c4
  · exact w_c5
  · exact w_c6
set_option maxRecDepth 65536 in
theorem w_t1 : (words1.take 24).all (fun c => isCode c || c.before args0 about1) = true := by decide +kernel
set_option maxRecDepth 65536 in
theorem w_t2 : (words1.drop 24).all (fun c => isCode c || c.before args0 about1) = true := by decide +kernel
theorem w_tables : (allAtoms (Jvm.Cond.code x code maxLocals ret :: tables_1)).before args0 about1 = true := by
  rw [allAtoms_all]
  show words1.all (fun c => c.before args0 about1) = true
  refine all_split ?_ w_codes
  rw [← List.take_append_drop 24 words1, List.all_append, w_t1, w_t2]
  rfl
set_option maxRecDepth 65536 in
theorem w_case : (Jvm.Cond.and given_1 narrow_1).before args0 about1 = true := by decide +kernel
theorem w_applies : (headSpec (Jvm.Cond.code x code maxLocals ret :: tables_1) room_1).applies x e0.platform about1 = true :=
  (Spec.applies_iff w_frames).mpr ⟨w_running, w_runnable, w_alone, w_named, w_hears, w_ripe, w_room, w_tables⟩
theorem atStart : AtStart classFile x code maxLocals ret World_1 tables_1 room_1 Calls_1 rest_1 Pre_1 launch0 p0 e0 about1 theMethod args0 below0 :=
  ⟨lists_1, trivial, launch0.admits_env _ _ _, launch0.least_env, fairChoices_fair.cas, fairChoices_fair.clock, w_frames, w_args, w_heap, w_applies, trivial, trivial, w_case⟩
end start1
theorem witness_1 : WitnessClaimed_1 := ⟨start1.p0, start1.e0, start1.about1, start1.theMethod, start1.args0, start1.below0, start1.atStart⟩
end Jvm.Pilot.@@N@@
