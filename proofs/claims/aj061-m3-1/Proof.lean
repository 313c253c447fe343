import JvmDerived
import JvmDerived.Pilot.@@N@@Statement
import JvmDerived.Pilot.@@N@@Code
set_option linter.unusedVariables false
set_option linter.unusedSimpArgs false
namespace Jvm.RoadKit
open Sem ClassFile Op Lib Jvm.Stand Jvm.Free Jvm.LawKit
section New
variable {p : Program} {l : Launch} {e : Env} {R : Room} {s : State} {m : MethodId} {args : Array Value} {below : List Frame} {meth : Method} {c : Code} {T : State} {locs : List Loc} {cells slots : Nat}
theorem retI (X : Stand p l e R s m args below meth c T locs cells slots) (hx : p.tables.exec = Jvm.exec) {pc : Nat} {Ls : Array Slot} {z : Int32} {rest : List Value} (hret : meth.sig.returnType = some .int) (hd : decode c.code pc = .ok (.ireturn, 1)) {fs : List Frame}
    (hl : ∀ (f : JFrame) (acts : List Action), f.method = m → f.locked = none → f.entered = [] → (doReturn e (T.setTop f) acts (some (.int z))).1 = T.setFrames fs) : Steps p.tables e below (T.setTop (mkF m pc Ls (.int z :: rest))) (T.setFrames fs) :=
  retOut X hx hret rfl (Or.inl ⟨rfl, Or.inl rfl, _, rfl⟩) hd hl
end New
end Jvm.RoadKit
namespace Jvm.Pilot.@@N@@
open Jvm Jvm.ClassFile Sem Op Lib Jvm.Free Jvm.Stand Jvm.LawKit Jvm.RoadKit Bundle Jvm.Pilot.@@N@@.Jvm.D
/-! own_Goes: from A the run comes to a state of which P holds -/
def own_Goes (p : Program) (e : Env) (below : List Frame) (P : State → Prop) (A : State) : Prop := ∃ B, Steps p.tables e below A B ∧ P B
def own_Fin (s : State) (below : List Frame) (QQ : Option Value → Heap → List Loc → Prop) (C N : Nat) (B : State) : Prop := ∃ v L, B.status = .running ∧ Ended B below (.returned v) ∧ QQ v B.heap L ∧ FrameEnd s (.returned v) B L C N
theorem own_via {p : Program} {e : Env} {below : List Frame} {P : State → Prop} {A : State} (B : State) (h : ∀ t, Steps p.tables e below B t → Steps p.tables e below A t) (k : own_Goes p e below P B) : own_Goes p e below P A := by
  obtain ⟨t, h1, h2⟩ := k
  exact ⟨t, h t h1, h2⟩
theorem own_body {p : Program} {e : Env} {below : List Frame} {s s₁ : State} {QQ : Option Value → Heap → List Loc → Prop} {C N ml : Nat} {m : MethodId} {args : Array Value} {F : JFrame} (hF : entryFrame m args ml = F) (k : own_Goes p e below (own_Fin s below QQ C N) (s₁.setTop F)) :
    ∃ s₂ o, Steps p.tables e below (s₁.setTop (entryFrame m args ml)) s₂ ∧ s₂.status = .running ∧ Ended s₂ below o ∧ (∃ v L, o = .returned v ∧ QQ v s₂.heap L ∧ FrameEnd s o s₂ L C N) := by
  obtain ⟨B, h1, v, L, h2, h3, h4, h5⟩ := k
  exact ⟨B, .returned v, hF ▸ h1, h2, h3, v, L, rfl, h4, h5⟩
theorem own_leave {p : Program} {l : Launch} {e : Env} {R : Room} {s : State} {m : MethodId} {args : Array Value} {below : List Frame} {meth : Method} {c : Code} {T : State} {locs : List Loc} {cells slots : Nat} {QQ : Option Value → Heap → List Loc → Prop} {C N : Nat}
    (X : Stand p l e R s m args below meth c T locs cells slots) (hlocks : meth.locks = false) {v : Option Value} (hv : meth.sig.returnType = none → v = none) {F : JFrame}
    (hstep : ∀ fs, (∀ (f : JFrame) (acts : List Action), f.method = m → f.locked = none → f.entered = [] → (doReturn e (T.setTop f) acts v).1 = T.setFrames fs) → Steps p.tables e below (T.setTop F) (T.setFrames fs))
    (hq : QQ v T.heap locs) (hc : cells ≤ C) (hn : slots ≤ N) : own_Goes p e below (own_Fin s below QQ C N) (T.setTop F) := by
  obtain ⟨fs, hr, hrun, hended, hW, hsame⟩ := X.leave hv hlocks
  exact ⟨_, hstep fs hr, v, locs, hrun, hended, hq, ⟨_, rfl⟩, hW, hsame.mono hc hn⟩
/-- what a body that writes nothing leaves -/
def own_Q (r : Option Value) (h0 : Heap) (n0 : Nat) (v : Option Value) (h : Heap) (L : List Loc) : Prop := v = r ∧ Fr n0 L ∧ h = h0
def own_f1 (p0 : Int64) (p1 : Int64) : Int64 := (if (0 : Int64) < p1 then (if ((9223372036854775807 : Int64) - p1) < p0 then (9223372036854775807 : Int64) else (if p1 < (0 : Int64) then (if p0 < ((-9223372036854775808 : Int64) - p1) then (-9223372036854775808 : Int64) else (p0 + p1)) else (p0 + p1))) else (if p1 < (0 : Int64) then (if p0 < ((-9223372036854775808 : Int64) - p1) then (-9223372036854775808 : Int64) else (p0 + p1)) else (p0 + p1)))
theorem d1_0 : decode prog_44_method_12_code 0 = .ok (.lload_n 2, 1) := by decide +kernel
theorem d1_1 : decode prog_44_method_12_code 1 = .ok (.lconst 0, 1) := by decide +kernel
theorem d1_2 : decode prog_44_method_12_code 2 = .ok (.lcmp, 1) := by decide +kernel
theorem d1_3 : decode prog_44_method_12_code 3 = .ok (.ifCond .le 17, 3) := by decide +kernel
theorem d1_6 : decode prog_44_method_12_code 6 = .ok (.lload_n 0, 1) := by decide +kernel
theorem d1_7 : decode prog_44_method_12_code 7 = .ok (.ldc2_w 47, 3) := by decide +kernel
theorem d1_10 : decode prog_44_method_12_code 10 = .ok (.lload_n 2, 1) := by decide +kernel
theorem d1_11 : decode prog_44_method_12_code 11 = .ok (.lsub, 1) := by decide +kernel
theorem d1_12 : decode prog_44_method_12_code 12 = .ok (.lcmp, 1) := by decide +kernel
theorem d1_13 : decode prog_44_method_12_code 13 = .ok (.ifCond .le 7, 3) := by decide +kernel
theorem d1_16 : decode prog_44_method_12_code 16 = .ok (.ldc2_w 47, 3) := by decide +kernel
theorem d1_19 : decode prog_44_method_12_code 19 = .ok (.lreturn, 1) := by decide +kernel
theorem d1_20 : decode prog_44_method_12_code 20 = .ok (.lload_n 2, 1) := by decide +kernel
theorem d1_21 : decode prog_44_method_12_code 21 = .ok (.lconst 0, 1) := by decide +kernel
theorem d1_22 : decode prog_44_method_12_code 22 = .ok (.lcmp, 1) := by decide +kernel
theorem d1_23 : decode prog_44_method_12_code 23 = .ok (.ifCond .ge 17, 3) := by decide +kernel
theorem d1_26 : decode prog_44_method_12_code 26 = .ok (.lload_n 0, 1) := by decide +kernel
theorem d1_27 : decode prog_44_method_12_code 27 = .ok (.ldc2_w 49, 3) := by decide +kernel
theorem d1_30 : decode prog_44_method_12_code 30 = .ok (.lload_n 2, 1) := by decide +kernel
theorem d1_31 : decode prog_44_method_12_code 31 = .ok (.lsub, 1) := by decide +kernel
theorem d1_32 : decode prog_44_method_12_code 32 = .ok (.lcmp, 1) := by decide +kernel
theorem d1_33 : decode prog_44_method_12_code 33 = .ok (.ifCond .ge 7, 3) := by decide +kernel
theorem d1_36 : decode prog_44_method_12_code 36 = .ok (.ldc2_w 49, 3) := by decide +kernel
theorem d1_39 : decode prog_44_method_12_code 39 = .ok (.lreturn, 1) := by decide +kernel
theorem d1_40 : decode prog_44_method_12_code 40 = .ok (.lload_n 0, 1) := by decide +kernel
theorem d1_41 : decode prog_44_method_12_code 41 = .ok (.lload_n 2, 1) := by decide +kernel
theorem d1_42 : decode prog_44_method_12_code 42 = .ok (.ladd, 1) := by decide +kernel
theorem d1_43 : decode prog_44_method_12_code 43 = .ok (.lreturn, 1) := by decide +kernel
theorem pn_com_example_rondo_rondo_TimeBase : plainName "com/example/rondo/rondo/TimeBase" = true := by first | (simp [plainName, overriddenIn]; done) | decide +kernel
theorem ef_1 (m : MethodId) (p0 : Int64) (p1 : Int64) : entryFrame m #[(.long p0), (.long p1)] 4 = mkF m 0 #[.val (.long p0), .second, .val (.long p1), .second] [] := by first | (simp [entryFrame, mkF, argsToLocals, Value.category]; done) | rfl
set_option maxRecDepth 65536 in
set_option maxHeartbeats 40000000 in
theorem rm1 (l : Launch) (Z : State) (a0 : Array Value) (hw : ∀ d ∈ tables_1, d.before a0 Z = true) (ws : List Jvm.Cond) (p0 : Int64) (p1 : Int64) (h0 : Heap) (n0 : Nat) (Z0 : n0 ≤ h0.size)  :
    MetFree l (⟨"com/example/rondo/rondo/TimeBase", "sumHeld", "(JJ)J"⟩ : MethodName) (head1 (Jvm.Cond.code (⟨"com/example/rondo/rondo/TimeBase", "sumHeld", "(JJ)J"⟩ : MethodName) prog_44_method_12_code 4 (some .long) :: ws) ({ frames := 0, cells := 0, slots := 0, locals := 0 } : Room)) (fun a U => a = #[(.long p0), (.long p1)] ∧ Z.Warmed39 U.vm ∧ U.heap = h0) (fun _ _ _ _ _ => True) (fun _ U o U' => ∃ v L, o = .returned v ∧ (own_Q (some (.long (own_f1 p0 p1))) h0 n0) v U'.heap L ∧ FrameEnd U o U' L ({ frames := 0, cells := 0, slots := 0, locals := 0 } : Room).cells ({ frames := 0, cells := 0, slots := 0, locals := 0 } : Room).slots) := by
  refine MetFree.of_bodySF (plainFor_of_name pn_com_example_rondo_rondo_TimeBase) hisR ?_
  intro p e s m args below meth c s₁ Bd hml0 hP hK
  obtain ⟨rfl, hZ, hh⟩ := hP
  have hx := Bd.exec
  have hby := Bd.bytes
  have hml : c.maxLocals = 4 := hml0
  have hown : s.vm.findClass "com/example/rondo/rondo/TimeBase" = some m.cls := findClass_of_methodNamed Bd.named
  have hnm := (name_of_methodNamed Bd.named Bd.method).1
  have X0 : Stand p l e ({ frames := 0, cells := 0, slots := 0, locals := 0 } : Room) s m #[(.long p0), (.long p1)] below meth c s₁ [] 0 0 := Stand.of_body Bd
  have e0 : s₁.heap = h0 := by rw [← hh, Bd.state]; rfl
  have N0 := Fr.nil n0
  refine own_body (QQ := (own_Q (some (.long (own_f1 p0 p1))) h0 n0)) (ef_1 m p0 p1) ?_
  refine own_via (s₁.setTop (mkF m 1 #[.val (.long p0), .second, .val (.long p1), .second] [(.long p1)])) (fun t k => XS.lloadN X0.here hx rfl (hb hby d1_0) rfl  k) ?_
  refine own_via (s₁.setTop (mkF m 2 #[.val (.long p0), .second, .val (.long p1), .second] [(.long (0 : Int64)), (.long p1)])) (fun t k => XS.lconst X0.here hx rfl (hb hby d1_1) k) ?_
  refine own_via (s₁.setTop (mkF m 3 #[.val (.long p0), .second, .val (.long p1), .second] [(.int (lcmpW p1 (0 : Int64)))])) (fun t k => XS.lcmp X0.here hx rfl (hb hby d1_2) rfl k) ?_
  by_cases hc3_7 : (0 : Int64) < p1
  · refine own_via (s₁.setTop (mkF m 6 #[.val (.long p0), .second, .val (.long p1), .second] [])) (fun t k => XS.ifNo X0.here hx rfl (hb hby d1_3) rfl ((if0 _ _).trans (tlt ((lw_gt p1 (0 : Int64)).mpr hc3_7)).2.2.2) k) ?_
    refine own_via (s₁.setTop (mkF m 7 #[.val (.long p0), .second, .val (.long p1), .second] [(.long p0)])) (fun t k => XS.lloadN X0.here hx rfl (hb hby d1_6) rfl  k) ?_
    refine own_via (s₁.setTop (mkF m 10 #[.val (.long p0), .second, .val (.long p1), .second] [(.long (9223372036854775807 : Int64)), (.long p0)])) (fun t k => X0.ldc2Long hx hown (mvT hZ (hw _ (List.mem_of_getElem? (i := 4) rfl))) (g := (mkF m 7 #[.val (.long p0), .second, .val (.long p1), .second] [(.long p0)])) rfl (hb hby d1_7) _ k) ?_
    refine own_via (s₁.setTop (mkF m 11 #[.val (.long p0), .second, .val (.long p1), .second] [(.long p1), (.long (9223372036854775807 : Int64)), (.long p0)])) (fun t k => XS.lloadN X0.here hx rfl (hb hby d1_10) rfl  k) ?_
    refine own_via (s₁.setTop (mkF m 12 #[.val (.long p0), .second, .val (.long p1), .second] [(.long ((9223372036854775807 : Int64) - p1)), (.long p0)])) (fun t k => XS.lsub X0.here hx rfl (hb hby d1_11) rfl k) ?_
    refine own_via (s₁.setTop (mkF m 13 #[.val (.long p0), .second, .val (.long p1), .second] [(.int (lcmpW p0 ((9223372036854775807 : Int64) - p1)))])) (fun t k => XS.lcmp X0.here hx rfl (hb hby d1_12) rfl k) ?_
    by_cases hc13_8 : ((9223372036854775807 : Int64) - p1) < p0
    · refine own_via (s₁.setTop (mkF m 16 #[.val (.long p0), .second, .val (.long p1), .second] [])) (fun t k => XS.ifNo X0.here hx rfl (hb hby d1_13) rfl ((if0 _ _).trans (tlt ((lw_gt p0 ((9223372036854775807 : Int64) - p1)).mpr hc13_8)).2.2.2) k) ?_
      refine own_via (s₁.setTop (mkF m 19 #[.val (.long p0), .second, .val (.long p1), .second] [(.long (9223372036854775807 : Int64))])) (fun t k => X0.ldc2Long hx hown (mvT hZ (hw _ (List.mem_of_getElem? (i := 4) rfl))) (g := (mkF m 16 #[.val (.long p0), .second, .val (.long p1), .second] [])) rfl (hb hby d1_16) _ k) ?_
      refine own_leave X0 Bd.notSynchronized (v := some (.long (9223372036854775807 : Int64))) (fun h => by rw [Bd.returns] at h; cases h) (fun fs hr => retOut X0 hx Bd.returns rfl (Or.inr (Or.inl ⟨rfl, rfl, _, rfl⟩)) (hb hby d1_19) hr) ?_ (by decide) (by decide)
      refine ⟨?_, N0, e0⟩
      show some (Value.long _) = some (Value.long _); unfold own_f1; rw [if_pos hc3_7, if_pos hc13_8]
    · refine own_via (s₁.setTop (mkF m 20 #[.val (.long p0), .second, .val (.long p1), .second] [])) (fun t k => XS.ifYes X0.here hx rfl (pc0 := 13) (pc' := 20) rfl (hb hby d1_13) rfl ((if0 _ _).trans (flt (fun q => hc13_8 ((lw_gt p0 ((9223372036854775807 : Int64) - p1)).mp q))).2.2.2) (by decide) (by decide) k) ?_
      refine own_via (s₁.setTop (mkF m 21 #[.val (.long p0), .second, .val (.long p1), .second] [(.long p1)])) (fun t k => XS.lloadN X0.here hx rfl (hb hby d1_20) rfl  k) ?_
      refine own_via (s₁.setTop (mkF m 22 #[.val (.long p0), .second, .val (.long p1), .second] [(.long (0 : Int64)), (.long p1)])) (fun t k => XS.lconst X0.here hx rfl (hb hby d1_21) k) ?_
      refine own_via (s₁.setTop (mkF m 23 #[.val (.long p0), .second, .val (.long p1), .second] [(.int (lcmpW p1 (0 : Int64)))])) (fun t k => XS.lcmp X0.here hx rfl (hb hby d1_22) rfl k) ?_
      by_cases hc23_9 : p1 < (0 : Int64)
      · refine own_via (s₁.setTop (mkF m 26 #[.val (.long p0), .second, .val (.long p1), .second] [])) (fun t k => XS.ifNo X0.here hx rfl (hb hby d1_23) rfl ((if0 _ _).trans (tlt ((lw_lt p1 (0 : Int64)).mpr hc23_9)).2.1) k) ?_
        refine own_via (s₁.setTop (mkF m 27 #[.val (.long p0), .second, .val (.long p1), .second] [(.long p0)])) (fun t k => XS.lloadN X0.here hx rfl (hb hby d1_26) rfl  k) ?_
        refine own_via (s₁.setTop (mkF m 30 #[.val (.long p0), .second, .val (.long p1), .second] [(.long (-9223372036854775808 : Int64)), (.long p0)])) (fun t k => X0.ldc2Long hx hown (mvT hZ (hw _ (List.mem_of_getElem? (i := 5) rfl))) (g := (mkF m 27 #[.val (.long p0), .second, .val (.long p1), .second] [(.long p0)])) rfl (hb hby d1_27) _ k) ?_
        refine own_via (s₁.setTop (mkF m 31 #[.val (.long p0), .second, .val (.long p1), .second] [(.long p1), (.long (-9223372036854775808 : Int64)), (.long p0)])) (fun t k => XS.lloadN X0.here hx rfl (hb hby d1_30) rfl  k) ?_
        refine own_via (s₁.setTop (mkF m 32 #[.val (.long p0), .second, .val (.long p1), .second] [(.long ((-9223372036854775808 : Int64) - p1)), (.long p0)])) (fun t k => XS.lsub X0.here hx rfl (hb hby d1_31) rfl k) ?_
        refine own_via (s₁.setTop (mkF m 33 #[.val (.long p0), .second, .val (.long p1), .second] [(.int (lcmpW p0 ((-9223372036854775808 : Int64) - p1)))])) (fun t k => XS.lcmp X0.here hx rfl (hb hby d1_32) rfl k) ?_
        by_cases hc33_10 : p0 < ((-9223372036854775808 : Int64) - p1)
        · refine own_via (s₁.setTop (mkF m 36 #[.val (.long p0), .second, .val (.long p1), .second] [])) (fun t k => XS.ifNo X0.here hx rfl (hb hby d1_33) rfl ((if0 _ _).trans (tlt ((lw_lt p0 ((-9223372036854775808 : Int64) - p1)).mpr hc33_10)).2.1) k) ?_
          refine own_via (s₁.setTop (mkF m 39 #[.val (.long p0), .second, .val (.long p1), .second] [(.long (-9223372036854775808 : Int64))])) (fun t k => X0.ldc2Long hx hown (mvT hZ (hw _ (List.mem_of_getElem? (i := 5) rfl))) (g := (mkF m 36 #[.val (.long p0), .second, .val (.long p1), .second] [])) rfl (hb hby d1_36) _ k) ?_
          refine own_leave X0 Bd.notSynchronized (v := some (.long (-9223372036854775808 : Int64))) (fun h => by rw [Bd.returns] at h; cases h) (fun fs hr => retOut X0 hx Bd.returns rfl (Or.inr (Or.inl ⟨rfl, rfl, _, rfl⟩)) (hb hby d1_39) hr) ?_ (by decide) (by decide)
          refine ⟨?_, N0, e0⟩
          show some (Value.long _) = some (Value.long _); unfold own_f1; rw [if_pos hc3_7, if_neg hc13_8, if_pos hc23_9, if_pos hc33_10]
        · refine own_via (s₁.setTop (mkF m 40 #[.val (.long p0), .second, .val (.long p1), .second] [])) (fun t k => XS.ifYes X0.here hx rfl (pc0 := 33) (pc' := 40) rfl (hb hby d1_33) rfl ((if0 _ _).trans (flt (fun q => hc33_10 ((lw_lt p0 ((-9223372036854775808 : Int64) - p1)).mp q))).2.1) (by decide) (by decide) k) ?_
          refine own_via (s₁.setTop (mkF m 41 #[.val (.long p0), .second, .val (.long p1), .second] [(.long p0)])) (fun t k => XS.lloadN X0.here hx rfl (hb hby d1_40) rfl  k) ?_
          refine own_via (s₁.setTop (mkF m 42 #[.val (.long p0), .second, .val (.long p1), .second] [(.long p1), (.long p0)])) (fun t k => XS.lloadN X0.here hx rfl (hb hby d1_41) rfl  k) ?_
          refine own_via (s₁.setTop (mkF m 43 #[.val (.long p0), .second, .val (.long p1), .second] [(.long (p0 + p1))])) (fun t k => XS.ladd X0.here hx rfl (hb hby d1_42) rfl k) ?_
          refine own_leave X0 Bd.notSynchronized (v := some (.long (p0 + p1))) (fun h => by rw [Bd.returns] at h; cases h) (fun fs hr => retOut X0 hx Bd.returns rfl (Or.inr (Or.inl ⟨rfl, rfl, _, rfl⟩)) (hb hby d1_43) hr) ?_ (by decide) (by decide)
          refine ⟨?_, N0, e0⟩
          show some (Value.long _) = some (Value.long _); unfold own_f1; rw [if_pos hc3_7, if_neg hc13_8, if_pos hc23_9, if_neg hc33_10]
      · refine own_via (s₁.setTop (mkF m 40 #[.val (.long p0), .second, .val (.long p1), .second] [])) (fun t k => XS.ifYes X0.here hx rfl (pc0 := 23) (pc' := 40) rfl (hb hby d1_23) rfl ((if0 _ _).trans (flt (fun q => hc23_9 ((lw_lt p1 (0 : Int64)).mp q))).2.1) (by decide) (by decide) k) ?_
        refine own_via (s₁.setTop (mkF m 41 #[.val (.long p0), .second, .val (.long p1), .second] [(.long p0)])) (fun t k => XS.lloadN X0.here hx rfl (hb hby d1_40) rfl  k) ?_
        refine own_via (s₁.setTop (mkF m 42 #[.val (.long p0), .second, .val (.long p1), .second] [(.long p1), (.long p0)])) (fun t k => XS.lloadN X0.here hx rfl (hb hby d1_41) rfl  k) ?_
        refine own_via (s₁.setTop (mkF m 43 #[.val (.long p0), .second, .val (.long p1), .second] [(.long (p0 + p1))])) (fun t k => XS.ladd X0.here hx rfl (hb hby d1_42) rfl k) ?_
        refine own_leave X0 Bd.notSynchronized (v := some (.long (p0 + p1))) (fun h => by rw [Bd.returns] at h; cases h) (fun fs hr => retOut X0 hx Bd.returns rfl (Or.inr (Or.inl ⟨rfl, rfl, _, rfl⟩)) (hb hby d1_43) hr) ?_ (by decide) (by decide)
        refine ⟨?_, N0, e0⟩
        show some (Value.long _) = some (Value.long _); unfold own_f1; rw [if_pos hc3_7, if_neg hc13_8, if_neg hc23_9]
  · refine own_via (s₁.setTop (mkF m 20 #[.val (.long p0), .second, .val (.long p1), .second] [])) (fun t k => XS.ifYes X0.here hx rfl (pc0 := 3) (pc' := 20) rfl (hb hby d1_3) rfl ((if0 _ _).trans (flt (fun q => hc3_7 ((lw_gt p1 (0 : Int64)).mp q))).2.2.2) (by decide) (by decide) k) ?_
    refine own_via (s₁.setTop (mkF m 21 #[.val (.long p0), .second, .val (.long p1), .second] [(.long p1)])) (fun t k => XS.lloadN X0.here hx rfl (hb hby d1_20) rfl  k) ?_
    refine own_via (s₁.setTop (mkF m 22 #[.val (.long p0), .second, .val (.long p1), .second] [(.long (0 : Int64)), (.long p1)])) (fun t k => XS.lconst X0.here hx rfl (hb hby d1_21) k) ?_
    refine own_via (s₁.setTop (mkF m 23 #[.val (.long p0), .second, .val (.long p1), .second] [(.int (lcmpW p1 (0 : Int64)))])) (fun t k => XS.lcmp X0.here hx rfl (hb hby d1_22) rfl k) ?_
    by_cases hc23_11 : p1 < (0 : Int64)
    · refine own_via (s₁.setTop (mkF m 26 #[.val (.long p0), .second, .val (.long p1), .second] [])) (fun t k => XS.ifNo X0.here hx rfl (hb hby d1_23) rfl ((if0 _ _).trans (tlt ((lw_lt p1 (0 : Int64)).mpr hc23_11)).2.1) k) ?_
      refine own_via (s₁.setTop (mkF m 27 #[.val (.long p0), .second, .val (.long p1), .second] [(.long p0)])) (fun t k => XS.lloadN X0.here hx rfl (hb hby d1_26) rfl  k) ?_
      refine own_via (s₁.setTop (mkF m 30 #[.val (.long p0), .second, .val (.long p1), .second] [(.long (-9223372036854775808 : Int64)), (.long p0)])) (fun t k => X0.ldc2Long hx hown (mvT hZ (hw _ (List.mem_of_getElem? (i := 5) rfl))) (g := (mkF m 27 #[.val (.long p0), .second, .val (.long p1), .second] [(.long p0)])) rfl (hb hby d1_27) _ k) ?_
      refine own_via (s₁.setTop (mkF m 31 #[.val (.long p0), .second, .val (.long p1), .second] [(.long p1), (.long (-9223372036854775808 : Int64)), (.long p0)])) (fun t k => XS.lloadN X0.here hx rfl (hb hby d1_30) rfl  k) ?_
      refine own_via (s₁.setTop (mkF m 32 #[.val (.long p0), .second, .val (.long p1), .second] [(.long ((-9223372036854775808 : Int64) - p1)), (.long p0)])) (fun t k => XS.lsub X0.here hx rfl (hb hby d1_31) rfl k) ?_
      refine own_via (s₁.setTop (mkF m 33 #[.val (.long p0), .second, .val (.long p1), .second] [(.int (lcmpW p0 ((-9223372036854775808 : Int64) - p1)))])) (fun t k => XS.lcmp X0.here hx rfl (hb hby d1_32) rfl k) ?_
      by_cases hc33_12 : p0 < ((-9223372036854775808 : Int64) - p1)
      · refine own_via (s₁.setTop (mkF m 36 #[.val (.long p0), .second, .val (.long p1), .second] [])) (fun t k => XS.ifNo X0.here hx rfl (hb hby d1_33) rfl ((if0 _ _).trans (tlt ((lw_lt p0 ((-9223372036854775808 : Int64) - p1)).mpr hc33_12)).2.1) k) ?_
        refine own_via (s₁.setTop (mkF m 39 #[.val (.long p0), .second, .val (.long p1), .second] [(.long (-9223372036854775808 : Int64))])) (fun t k => X0.ldc2Long hx hown (mvT hZ (hw _ (List.mem_of_getElem? (i := 5) rfl))) (g := (mkF m 36 #[.val (.long p0), .second, .val (.long p1), .second] [])) rfl (hb hby d1_36) _ k) ?_
        refine own_leave X0 Bd.notSynchronized (v := some (.long (-9223372036854775808 : Int64))) (fun h => by rw [Bd.returns] at h; cases h) (fun fs hr => retOut X0 hx Bd.returns rfl (Or.inr (Or.inl ⟨rfl, rfl, _, rfl⟩)) (hb hby d1_39) hr) ?_ (by decide) (by decide)
        refine ⟨?_, N0, e0⟩
        show some (Value.long _) = some (Value.long _); unfold own_f1; rw [if_neg hc3_7, if_pos hc23_11, if_pos hc33_12]
      · refine own_via (s₁.setTop (mkF m 40 #[.val (.long p0), .second, .val (.long p1), .second] [])) (fun t k => XS.ifYes X0.here hx rfl (pc0 := 33) (pc' := 40) rfl (hb hby d1_33) rfl ((if0 _ _).trans (flt (fun q => hc33_12 ((lw_lt p0 ((-9223372036854775808 : Int64) - p1)).mp q))).2.1) (by decide) (by decide) k) ?_
        refine own_via (s₁.setTop (mkF m 41 #[.val (.long p0), .second, .val (.long p1), .second] [(.long p0)])) (fun t k => XS.lloadN X0.here hx rfl (hb hby d1_40) rfl  k) ?_
        refine own_via (s₁.setTop (mkF m 42 #[.val (.long p0), .second, .val (.long p1), .second] [(.long p1), (.long p0)])) (fun t k => XS.lloadN X0.here hx rfl (hb hby d1_41) rfl  k) ?_
        refine own_via (s₁.setTop (mkF m 43 #[.val (.long p0), .second, .val (.long p1), .second] [(.long (p0 + p1))])) (fun t k => XS.ladd X0.here hx rfl (hb hby d1_42) rfl k) ?_
        refine own_leave X0 Bd.notSynchronized (v := some (.long (p0 + p1))) (fun h => by rw [Bd.returns] at h; cases h) (fun fs hr => retOut X0 hx Bd.returns rfl (Or.inr (Or.inl ⟨rfl, rfl, _, rfl⟩)) (hb hby d1_43) hr) ?_ (by decide) (by decide)
        refine ⟨?_, N0, e0⟩
        show some (Value.long _) = some (Value.long _); unfold own_f1; rw [if_neg hc3_7, if_pos hc23_11, if_neg hc33_12]
    · refine own_via (s₁.setTop (mkF m 40 #[.val (.long p0), .second, .val (.long p1), .second] [])) (fun t k => XS.ifYes X0.here hx rfl (pc0 := 23) (pc' := 40) rfl (hb hby d1_23) rfl ((if0 _ _).trans (flt (fun q => hc23_11 ((lw_lt p1 (0 : Int64)).mp q))).2.1) (by decide) (by decide) k) ?_
      refine own_via (s₁.setTop (mkF m 41 #[.val (.long p0), .second, .val (.long p1), .second] [(.long p0)])) (fun t k => XS.lloadN X0.here hx rfl (hb hby d1_40) rfl  k) ?_
      refine own_via (s₁.setTop (mkF m 42 #[.val (.long p0), .second, .val (.long p1), .second] [(.long p1), (.long p0)])) (fun t k => XS.lloadN X0.here hx rfl (hb hby d1_41) rfl  k) ?_
      refine own_via (s₁.setTop (mkF m 43 #[.val (.long p0), .second, .val (.long p1), .second] [(.long (p0 + p1))])) (fun t k => XS.ladd X0.here hx rfl (hb hby d1_42) rfl k) ?_
      refine own_leave X0 Bd.notSynchronized (v := some (.long (p0 + p1))) (fun h => by rw [Bd.returns] at h; cases h) (fun fs hr => retOut X0 hx Bd.returns rfl (Or.inr (Or.inl ⟨rfl, rfl, _, rfl⟩)) (hb hby d1_43) hr) ?_ (by decide) (by decide)
      refine ⟨?_, N0, e0⟩
      show some (Value.long _) = some (Value.long _); unfold own_f1; rw [if_neg hc3_7, if_neg hc23_11]
theorem own_law (a b : Int64) : own_f1 a b = if (if ((a ^^^ (a + b)) &&& (b ^^^ (a + b))) < (0 : Int64) then (1 : Int32) else (0 : Int32)) = (0 : Int32) then (a + b) else (if a < (0 : Int64) then (-9223372036854775808 : Int64) else (9223372036854775807 : Int64)) := by
  have r1 := rng64 a; have r2 := rng64 b
  have h1 := c_ladd a b
  have r3 := rng64 (a + b)
  have h2 := c_lsub (9223372036854775807 : Int64) b
  have r4 := rng64 ((9223372036854775807 : Int64) - b)
  have h3 := c_lsub (-9223372036854775808 : Int64) b
  have r5 := rng64 ((-9223372036854775808 : Int64) - b)
  have h4 := c_xorSL a (a + b)
  have h5 := c_xorSL b (a + b)
  have h6 := c_andSL (a ^^^ (a + b)) (b ^^^ (a + b))
  have e0 : (0 : Int64).toInt = 0 := rfl
  have e1 : (9223372036854775807 : Int64).toInt = 9223372036854775807 := rfl
  have e2 : (-9223372036854775808 : Int64).toInt = -9223372036854775808 := rfl
  unfold own_f1
  simp only [Int64.lt_iff_toInt_lt, e0, e1, e2] at *
  generalize hx : a ^^^ (a + b) = x at *
  generalize hy : b ^^^ (a + b) = y at *
  generalize hz : (x &&& y) = z at *
  generalize hs : a + b = s at *
  have k : ∀ u v : Int64, u.toInt = v.toInt → u = v := fun u v h => Int64.toInt_inj.mp h
  by_cases hP : z.toInt < 0
  · rw [if_pos hP]
    rw [if_neg (by decide : ¬ (1 : Int32) = 0)]
    repeat' split
    all_goals first | rfl | (exfalso; omega)
  · rw [if_neg hP, if_pos rfl]
    repeat' split
    all_goals first | rfl | (exfalso; omega)
def own_Q0 (n0 : Nat) (v : Option Value) (h : Heap) (L : List Loc) : Prop := v = some (.int 1) ∧ Fr n0 L
theorem pd_0 : parseMethodDescriptor "(JJ)J" = some ⟨[.long, .long], some .long⟩ := by decide +kernel
theorem pn_com_example_rondo_rondo_TimeBaseSumHeldPinLaw : plainName "com/example/rondo/rondo/TimeBaseSumHeldPinLaw" = true := by first | (simp [plainName, overriddenIn]; done) | decide +kernel
theorem ef_0 (m : MethodId) (p0 : Int64) (p1 : Int64) : entryFrame m #[(.long p0), (.long p1)] maxLocals = mkF m 0 #[.val (.long p0), .second, .val (.long p1), .second, .unset, .unset, .unset, .unset, .unset, .unset, .unset] [] := by first | (simp [entryFrame, mkF, argsToLocals, Value.category, maxLocals]; done) | rfl
set_option maxRecDepth 65536 in
set_option maxHeartbeats 40000000 in
theorem rm0 (l : Launch) (Z : State) (a0 : Array Value) (hw : ∀ d ∈ tables_1, d.before a0 Z = true) (ws : List Jvm.Cond) (p0 : Int64) (p1 : Int64) (h0 : Heap) (n0 : Nat) (Z0 : n0 ≤ h0.size)  :
    MetFree l x (head1 (Jvm.Cond.code x code maxLocals ret :: ws) room_1) (fun a U => a = #[(.long p0), (.long p1)] ∧ Z.Warmed39 U.vm ∧ U.heap = h0) (fun _ _ _ _ _ => True) (fun _ U o U' => ∃ v L, o = .returned v ∧ (own_Q0 n0) v U'.heap L ∧ FrameEnd U o U' L room_1.cells room_1.slots) := by
  refine MetFree.of_bodySF (plainFor_of_name pn_com_example_rondo_rondo_TimeBaseSumHeldPinLaw) hisR ?_
  intro p e s m args below meth c s₁ Bd hml0 hP hK
  obtain ⟨rfl, hZ, hh⟩ := hP
  have hx := Bd.exec
  have hby := Bd.bytes
  have hml : c.maxLocals = 11 := hml0
  have hown : s.vm.findClass "com/example/rondo/rondo/TimeBaseSumHeldPinLaw" = some m.cls := findClass_of_methodNamed Bd.named
  have hnm := (name_of_methodNamed Bd.named Bd.method).1
  have X0 : Stand p l e room_1 s m #[(.long p0), (.long p1)] below meth c s₁ [] 0 0 := Stand.of_body Bd
  have e0 : s₁.heap = h0 := by rw [← hh, Bd.state]; rfl
  have N0 := Fr.nil n0
  refine own_body (QQ := (own_Q0 n0)) (ef_0 m p0 p1) ?_
  refine own_via (s₁.setTop (mkF m 1 #[.val (.long p0), .second, .val (.long p1), .second, .unset, .unset, .unset, .unset, .unset, .unset, .unset] [(.long p0)])) (fun t k => XS.lloadN X0.here hx rfl (hb hby at_0) rfl  k) ?_
  refine own_via (s₁.setTop (mkF m 2 #[.val (.long p0), .second, .val (.long p1), .second, .unset, .unset, .unset, .unset, .unset, .unset, .unset] [(.long p1), (.long p0)])) (fun t k => XS.lloadN X0.here hx rfl (hb hby at_1) rfl  k) ?_
  obtain ⟨_, _, ⟨T13, L13, k13, n13⟩, -, X13, ⟨Lc13, hQ13, l13, y13, z13⟩, st13⟩ := Jvm.LawKit.callS X0 hx (y := (⟨"com/example/rondo/rondo/TimeBase", "sumHeld", "(JJ)J"⟩ : MethodName)) hown (mvT hZ (hw _ (List.mem_of_getElem? (i := 0) rfl))) (mvT hZ (hw _ (List.mem_of_getElem? (i := 1) rfl))) (mvT hZ (hw _ (List.mem_of_getElem? (i := 2) rfl))) (mvT hZ (hw _ (List.mem_of_getElem? (i := 3) rfl))) (by decide) (backOf (W := 0) (rm1 l Z a0 hw [] p0 p1 h0 n0 Z0) hZ (hw _ (List.mem_of_getElem? (i := 3) rfl)) (hw _ (List.mem_of_getElem? (i := 2) rfl)) (by decide) (by decide)) (g := (mkF m 2 #[.val (.long p0), .second, .val (.long p1), .second, .unset, .unset, .unset, .unset, .unset, .unset, .unset] [(.long p1), (.long p0)])) rfl (by rw [hml]; rfl) (argsL := [(.long p0), (.long p1)]) (rest := []) (lenOf pd_0 rfl) rfl (by show 2 * 0 + _ ≤ _; exact Nat.le_of_eq rfl) (hb hby at_2) (fun _ _ => ⟨rfl, e0, (by decide : 0 + 0 ≤ _), (by decide : 0 + 0 ≤ _)⟩)
  dsimp only [Pt.U, Pt.locs, Pt.cells, Pt.slots] at X13 l13 y13 z13 st13 hQ13
  subst l13 y13 z13
  obtain ⟨rfl, N13q, e13⟩ := hQ13
  have N13 := Fr.app N0 N13q
  refine own_via (T13.setTop (mkF m 5 #[.val (.long p0), .second, .val (.long p1), .second, .unset, .unset, .unset, .unset, .unset, .unset, .unset] [(.long (own_f1 p0 p1))])) (fun t k => st13 t k) ?_
  obtain ⟨z14, hz14⟩ : ∃ z : Int64, z = (own_f1 p0 p1) := ⟨_, rfl⟩
  refine own_via (T13.setTop (mkF m 7 #[.val (.long p0), .second, .val (.long p1), .second, .val (.long z14), .second, .unset, .unset, .unset, .unset, .unset] [])) (fun t k => XS.lstore X13.here hx rfl (hb hby at_5) rfl (l' := #[.val (.long p0), .second, .val (.long p1), .second, .val (.long z14), .second, .unset, .unset, .unset, .unset, .unset]) (by rw [hz14]; rfl) k) ?_
  refine own_via (T13.setTop (mkF m 8 #[.val (.long p0), .second, .val (.long p1), .second, .val (.long z14), .second, .unset, .unset, .unset, .unset, .unset] [(.long p0)])) (fun t k => XS.lloadN X13.here hx rfl (hb hby at_7) rfl  k) ?_
  refine own_via (T13.setTop (mkF m 9 #[.val (.long p0), .second, .val (.long p1), .second, .val (.long z14), .second, .unset, .unset, .unset, .unset, .unset] [(.long p1), (.long p0)])) (fun t k => XS.lloadN X13.here hx rfl (hb hby at_8) rfl  k) ?_
  refine own_via (T13.setTop (mkF m 10 #[.val (.long p0), .second, .val (.long p1), .second, .val (.long z14), .second, .unset, .unset, .unset, .unset, .unset] [(.long (p0 + p1))])) (fun t k => XS.ladd X13.here hx rfl (hb hby at_9) rfl k) ?_
  obtain ⟨z15, hz15⟩ : ∃ z : Int64, z = (p0 + p1) := ⟨_, rfl⟩
  refine own_via (T13.setTop (mkF m 12 #[.val (.long p0), .second, .val (.long p1), .second, .val (.long z14), .second, .val (.long z15), .second, .unset, .unset, .unset] [])) (fun t k => XS.lstore X13.here hx rfl (hb hby at_10) rfl (l' := #[.val (.long p0), .second, .val (.long p1), .second, .val (.long z14), .second, .val (.long z15), .second, .unset, .unset, .unset]) (by rw [hz15]; rfl) k) ?_
  refine own_via (T13.setTop (mkF m 13 #[.val (.long p0), .second, .val (.long p1), .second, .val (.long z14), .second, .val (.long z15), .second, .unset, .unset, .unset] [(.long p0)])) (fun t k => XS.lloadN X13.here hx rfl (hb hby at_12) rfl  k) ?_
  refine own_via (T13.setTop (mkF m 15 #[.val (.long p0), .second, .val (.long p1), .second, .val (.long z14), .second, .val (.long z15), .second, .unset, .unset, .unset] [(.long z15), (.long p0)])) (fun t k => XS.lload X13.here hx rfl (hb hby at_13) rfl  k) ?_
  refine own_via (T13.setTop (mkF m 16 #[.val (.long p0), .second, .val (.long p1), .second, .val (.long z14), .second, .val (.long z15), .second, .unset, .unset, .unset] [(.long (p0 ^^^ z15))])) (fun t k => XS.lxor X13.here hx rfl (hb hby at_15) rfl k) ?_
  refine own_via (T13.setTop (mkF m 17 #[.val (.long p0), .second, .val (.long p1), .second, .val (.long z14), .second, .val (.long z15), .second, .unset, .unset, .unset] [(.long p1), (.long (p0 ^^^ z15))])) (fun t k => XS.lloadN X13.here hx rfl (hb hby at_16) rfl  k) ?_
  refine own_via (T13.setTop (mkF m 19 #[.val (.long p0), .second, .val (.long p1), .second, .val (.long z14), .second, .val (.long z15), .second, .unset, .unset, .unset] [(.long z15), (.long p1), (.long (p0 ^^^ z15))])) (fun t k => XS.lload X13.here hx rfl (hb hby at_17) rfl  k) ?_
  refine own_via (T13.setTop (mkF m 20 #[.val (.long p0), .second, .val (.long p1), .second, .val (.long z14), .second, .val (.long z15), .second, .unset, .unset, .unset] [(.long (p1 ^^^ z15)), (.long (p0 ^^^ z15))])) (fun t k => XS.lxor X13.here hx rfl (hb hby at_19) rfl k) ?_
  refine own_via (T13.setTop (mkF m 21 #[.val (.long p0), .second, .val (.long p1), .second, .val (.long z14), .second, .val (.long z15), .second, .unset, .unset, .unset] [(.long ((p0 ^^^ z15) &&& (p1 ^^^ z15)))])) (fun t k => XS.land X13.here hx rfl (hb hby at_20) rfl k) ?_
  refine own_via (T13.setTop (mkF m 22 #[.val (.long p0), .second, .val (.long p1), .second, .val (.long z14), .second, .val (.long z15), .second, .unset, .unset, .unset] [(.long (0 : Int64)), (.long ((p0 ^^^ z15) &&& (p1 ^^^ z15)))])) (fun t k => XS.lconst X13.here hx rfl (hb hby at_21) k) ?_
  refine own_via (T13.setTop (mkF m 23 #[.val (.long p0), .second, .val (.long p1), .second, .val (.long z14), .second, .val (.long z15), .second, .unset, .unset, .unset] [(.int (lcmpW ((p0 ^^^ z15) &&& (p1 ^^^ z15)) (0 : Int64)))])) (fun t k => XS.lcmp X13.here hx rfl (hb hby at_22) rfl k) ?_
  obtain ⟨z16, hz16⟩ : ∃ z : Int32, z = (if ((p0 ^^^ z15) &&& (p1 ^^^ z15)) < (0 : Int64) then (1 : Int32) else (0 : Int32)) := ⟨_, rfl⟩
  refine own_via (T13.setTop (mkF m 31 #[.val (.long p0), .second, .val (.long p1), .second, .val (.long z14), .second, .val (.long z15), .second, .unset, .unset, .unset] [(.int z16)])) (fun t k => ?_) ?_
  · skip
    by_cases hj23_17 : ((p0 ^^^ z15) &&& (p1 ^^^ z15)) < (0 : Int64)
    · refine XS.ifNo X13.here hx rfl (hb hby at_23) rfl ((if0 _ _).trans (tlt ((lw_lt ((p0 ^^^ z15) &&& (p1 ^^^ z15)) (0 : Int64)).mpr hj23_17)).2.1) (?_ : Steps p.tables e below (T13.setTop (mkF m 26 #[.val (.long p0), .second, .val (.long p1), .second, .val (.long z14), .second, .val (.long z15), .second, .unset, .unset, .unset] [])) t)
      refine XS.iconst X13.here hx rfl (hb hby at_26) (?_ : Steps p.tables e below (T13.setTop (mkF m 27 #[.val (.long p0), .second, .val (.long p1), .second, .val (.long z14), .second, .val (.long z15), .second, .unset, .unset, .unset] [(.int (1 : Int32))])) t)
      refine XS.goto X13.here hx rfl (pc0 := 27) (pc' := 31) rfl (hb hby at_27) (by decide) (by decide) (?_ : Steps p.tables e below (T13.setTop (mkF m 31 #[.val (.long p0), .second, .val (.long p1), .second, .val (.long z14), .second, .val (.long z15), .second, .unset, .unset, .unset] [(.int (1 : Int32))])) t)
      have q_z16 := (hz16.trans (if_pos hj23_17))
      subst q_z16
      exact k
    · refine XS.ifYes X13.here hx rfl (pc0 := 23) (pc' := 30) rfl (hb hby at_23) rfl ((if0 _ _).trans (flt (fun q => hj23_17 ((lw_lt ((p0 ^^^ z15) &&& (p1 ^^^ z15)) (0 : Int64)).mp q))).2.1) (by decide) (by decide) (?_ : Steps p.tables e below (T13.setTop (mkF m 30 #[.val (.long p0), .second, .val (.long p1), .second, .val (.long z14), .second, .val (.long z15), .second, .unset, .unset, .unset] [])) t)
      refine XS.iconst X13.here hx rfl (hb hby at_30) (?_ : Steps p.tables e below (T13.setTop (mkF m 31 #[.val (.long p0), .second, .val (.long p1), .second, .val (.long z14), .second, .val (.long z15), .second, .unset, .unset, .unset] [(.int (0 : Int32))])) t)
      have q_z16 := (hz16.trans (if_neg hj23_17))
      subst q_z16
      exact k
  refine own_via (T13.setTop (mkF m 33 #[.val (.long p0), .second, .val (.long p1), .second, .val (.long z14), .second, .val (.long z15), .second, .val (.int z16), .unset, .unset] [])) (fun t k => XS.istore X13.here hx rfl (hb hby at_31) rfl (l' := #[.val (.long p0), .second, .val (.long p1), .second, .val (.long z14), .second, .val (.long z15), .second, .val (.int z16), .unset, .unset]) rfl k) ?_
  refine own_via (T13.setTop (mkF m 35 #[.val (.long p0), .second, .val (.long p1), .second, .val (.long z14), .second, .val (.long z15), .second, .val (.int z16), .unset, .unset] [(.int z16)])) (fun t k => XS.iload X13.here hx rfl (hb hby at_33) rfl  k) ?_
  obtain ⟨z18, hz18⟩ : ∃ z : Int64, z = (if z16 = (0 : Int32) then z15 else (if p0 < (0 : Int64) then (-9223372036854775808 : Int64) else (9223372036854775807 : Int64))) := ⟨_, rfl⟩
  refine own_via (T13.setTop (mkF m 64 #[.val (.long p0), .second, .val (.long p1), .second, .val (.long z14), .second, .val (.long z15), .second, .val (.int z16), .val (.long z18), .second] [])) (fun t k => ?_) ?_
  · skip
    by_cases hj35_19 : z16 = (0 : Int32)
    · refine XS.ifYes X13.here hx rfl (pc0 := 35) (pc' := 60) rfl (hb hby at_35) rfl ((if0 _ _).trans (teq hj35_19).1) (by decide) (by decide) (?_ : Steps p.tables e below (T13.setTop (mkF m 60 #[.val (.long p0), .second, .val (.long p1), .second, .val (.long z14), .second, .val (.long z15), .second, .val (.int z16), .unset, .unset] [])) t)
      refine XS.lload X13.here hx rfl (hb hby at_60) rfl  (?_ : Steps p.tables e below (T13.setTop (mkF m 62 #[.val (.long p0), .second, .val (.long p1), .second, .val (.long z14), .second, .val (.long z15), .second, .val (.int z16), .unset, .unset] [(.long z15)])) t)
      refine XS.lstore X13.here hx rfl (hb hby at_62) rfl (l' := #[.val (.long p0), .second, .val (.long p1), .second, .val (.long z14), .second, .val (.long z15), .second, .val (.int z16), .val (.long z15), .second]) rfl (?_ : Steps p.tables e below (T13.setTop (mkF m 64 #[.val (.long p0), .second, .val (.long p1), .second, .val (.long z14), .second, .val (.long z15), .second, .val (.int z16), .val (.long z15), .second] [])) t)
      have q_z18 := (hz18.trans (if_pos hj35_19))
      subst q_z18
      exact k
    · refine XS.ifNo X13.here hx rfl (hb hby at_35) rfl ((if0 _ _).trans (feq hj35_19).1) (?_ : Steps p.tables e below (T13.setTop (mkF m 38 #[.val (.long p0), .second, .val (.long p1), .second, .val (.long z14), .second, .val (.long z15), .second, .val (.int z16), .unset, .unset] [])) t)
      refine XS.lloadN X13.here hx rfl (hb hby at_38) rfl  (?_ : Steps p.tables e below (T13.setTop (mkF m 39 #[.val (.long p0), .second, .val (.long p1), .second, .val (.long z14), .second, .val (.long z15), .second, .val (.int z16), .unset, .unset] [(.long p0)])) t)
      refine XS.lconst X13.here hx rfl (hb hby at_39) (?_ : Steps p.tables e below (T13.setTop (mkF m 40 #[.val (.long p0), .second, .val (.long p1), .second, .val (.long z14), .second, .val (.long z15), .second, .val (.int z16), .unset, .unset] [(.long (0 : Int64)), (.long p0)])) t)
      refine XS.lcmp X13.here hx rfl (hb hby at_40) rfl (?_ : Steps p.tables e below (T13.setTop (mkF m 41 #[.val (.long p0), .second, .val (.long p1), .second, .val (.long z14), .second, .val (.long z15), .second, .val (.int z16), .unset, .unset] [(.int (lcmpW p0 (0 : Int64)))])) t)
      by_cases hj41_20 : p0 < (0 : Int64)
      · refine XS.ifNo X13.here hx rfl (hb hby at_41) rfl ((if0 _ _).trans (tlt ((lw_lt p0 (0 : Int64)).mpr hj41_20)).2.1) (?_ : Steps p.tables e below (T13.setTop (mkF m 44 #[.val (.long p0), .second, .val (.long p1), .second, .val (.long z14), .second, .val (.long z15), .second, .val (.int z16), .unset, .unset] [])) t)
        refine X13.ldc2Long hx hown (mvT hZ (hw _ (List.mem_of_getElem? (i := 7) rfl))) (g := (mkF m 44 #[.val (.long p0), .second, .val (.long p1), .second, .val (.long z14), .second, .val (.long z15), .second, .val (.int z16), .unset, .unset] [])) rfl (hb hby at_44) _ (?_ : Steps p.tables e below (T13.setTop (mkF m 47 #[.val (.long p0), .second, .val (.long p1), .second, .val (.long z14), .second, .val (.long z15), .second, .val (.int z16), .unset, .unset] [(.long (-9223372036854775808 : Int64))])) t)
        refine XS.lstore X13.here hx rfl (hb hby at_47) rfl (l' := #[.val (.long p0), .second, .val (.long p1), .second, .val (.long z14), .second, .val (.long z15), .second, .val (.int z16), .val (.long (-9223372036854775808 : Int64)), .second]) rfl (?_ : Steps p.tables e below (T13.setTop (mkF m 49 #[.val (.long p0), .second, .val (.long p1), .second, .val (.long z14), .second, .val (.long z15), .second, .val (.int z16), .val (.long (-9223372036854775808 : Int64)), .second] [])) t)
        refine XS.goto X13.here hx rfl (pc0 := 49) (pc' := 64) rfl (hb hby at_49) (by decide) (by decide) (?_ : Steps p.tables e below (T13.setTop (mkF m 64 #[.val (.long p0), .second, .val (.long p1), .second, .val (.long z14), .second, .val (.long z15), .second, .val (.int z16), .val (.long (-9223372036854775808 : Int64)), .second] [])) t)
        have q_z18 := ((hz18.trans (if_neg hj35_19)).trans (if_pos hj41_20))
        subst q_z18
        exact k
      · refine XS.ifYes X13.here hx rfl (pc0 := 41) (pc' := 52) rfl (hb hby at_41) rfl ((if0 _ _).trans (flt (fun q => hj41_20 ((lw_lt p0 (0 : Int64)).mp q))).2.1) (by decide) (by decide) (?_ : Steps p.tables e below (T13.setTop (mkF m 52 #[.val (.long p0), .second, .val (.long p1), .second, .val (.long z14), .second, .val (.long z15), .second, .val (.int z16), .unset, .unset] [])) t)
        refine X13.ldc2Long hx hown (mvT hZ (hw _ (List.mem_of_getElem? (i := 6) rfl))) (g := (mkF m 52 #[.val (.long p0), .second, .val (.long p1), .second, .val (.long z14), .second, .val (.long z15), .second, .val (.int z16), .unset, .unset] [])) rfl (hb hby at_52) _ (?_ : Steps p.tables e below (T13.setTop (mkF m 55 #[.val (.long p0), .second, .val (.long p1), .second, .val (.long z14), .second, .val (.long z15), .second, .val (.int z16), .unset, .unset] [(.long (9223372036854775807 : Int64))])) t)
        refine XS.lstore X13.here hx rfl (hb hby at_55) rfl (l' := #[.val (.long p0), .second, .val (.long p1), .second, .val (.long z14), .second, .val (.long z15), .second, .val (.int z16), .val (.long (9223372036854775807 : Int64)), .second]) rfl (?_ : Steps p.tables e below (T13.setTop (mkF m 57 #[.val (.long p0), .second, .val (.long p1), .second, .val (.long z14), .second, .val (.long z15), .second, .val (.int z16), .val (.long (9223372036854775807 : Int64)), .second] [])) t)
        refine XS.goto X13.here hx rfl (pc0 := 57) (pc' := 64) rfl (hb hby at_57) (by decide) (by decide) (?_ : Steps p.tables e below (T13.setTop (mkF m 64 #[.val (.long p0), .second, .val (.long p1), .second, .val (.long z14), .second, .val (.long z15), .second, .val (.int z16), .val (.long (9223372036854775807 : Int64)), .second] [])) t)
        have q_z18 := ((hz18.trans (if_neg hj35_19)).trans (if_neg hj41_20))
        subst q_z18
        exact k
  refine own_via (T13.setTop (mkF m 66 #[.val (.long p0), .second, .val (.long p1), .second, .val (.long z14), .second, .val (.long z15), .second, .val (.int z16), .val (.long z18), .second] [(.long z14)])) (fun t k => XS.lload X13.here hx rfl (hb hby at_64) rfl  k) ?_
  refine own_via (T13.setTop (mkF m 68 #[.val (.long p0), .second, .val (.long p1), .second, .val (.long z14), .second, .val (.long z15), .second, .val (.int z16), .val (.long z18), .second] [(.long z18), (.long z14)])) (fun t k => XS.lload X13.here hx rfl (hb hby at_66) rfl  k) ?_
  refine own_via (T13.setTop (mkF m 69 #[.val (.long p0), .second, .val (.long p1), .second, .val (.long z14), .second, .val (.long z15), .second, .val (.int z16), .val (.long z18), .second] [(.int (lcmpW z14 z18))])) (fun t k => XS.lcmp X13.here hx rfl (hb hby at_68) rfl k) ?_
  obtain ⟨z21, hz21⟩ : ∃ z : Int32, z = (if z14 = z18 then (1 : Int32) else (0 : Int32)) := ⟨_, rfl⟩
  refine own_via (T13.setTop (mkF m 77 #[.val (.long p0), .second, .val (.long p1), .second, .val (.long z14), .second, .val (.long z15), .second, .val (.int z16), .val (.long z18), .second] [(.int z21)])) (fun t k => ?_) ?_
  · skip
    by_cases hj69_22 : z14 = z18
    · refine XS.ifNo X13.here hx rfl (hb hby at_69) rfl ((if0 _ _).trans (teq ((lw_eq z14 z18).mpr hj69_22)).2) (?_ : Steps p.tables e below (T13.setTop (mkF m 72 #[.val (.long p0), .second, .val (.long p1), .second, .val (.long z14), .second, .val (.long z15), .second, .val (.int z16), .val (.long z18), .second] [])) t)
      refine XS.iconst X13.here hx rfl (hb hby at_72) (?_ : Steps p.tables e below (T13.setTop (mkF m 73 #[.val (.long p0), .second, .val (.long p1), .second, .val (.long z14), .second, .val (.long z15), .second, .val (.int z16), .val (.long z18), .second] [(.int (1 : Int32))])) t)
      refine XS.goto X13.here hx rfl (pc0 := 73) (pc' := 77) rfl (hb hby at_73) (by decide) (by decide) (?_ : Steps p.tables e below (T13.setTop (mkF m 77 #[.val (.long p0), .second, .val (.long p1), .second, .val (.long z14), .second, .val (.long z15), .second, .val (.int z16), .val (.long z18), .second] [(.int (1 : Int32))])) t)
      have q_z21 := (hz21.trans (if_pos hj69_22))
      subst q_z21
      exact k
    · refine XS.ifYes X13.here hx rfl (pc0 := 69) (pc' := 76) rfl (hb hby at_69) rfl ((if0 _ _).trans (feq (fun q => hj69_22 ((lw_eq z14 z18).mp q))).2) (by decide) (by decide) (?_ : Steps p.tables e below (T13.setTop (mkF m 76 #[.val (.long p0), .second, .val (.long p1), .second, .val (.long z14), .second, .val (.long z15), .second, .val (.int z16), .val (.long z18), .second] [])) t)
      refine XS.iconst X13.here hx rfl (hb hby at_76) (?_ : Steps p.tables e below (T13.setTop (mkF m 77 #[.val (.long p0), .second, .val (.long p1), .second, .val (.long z14), .second, .val (.long z15), .second, .val (.int z16), .val (.long z18), .second] [(.int (0 : Int32))])) t)
      have q_z21 := (hz21.trans (if_neg hj69_22))
      subst q_z21
      exact k
  refine own_leave X13 Bd.notSynchronized (v := some (.int (nar .boolean z21))) (fun h => by rw [Bd.returns] at h; cases h) (fun fs hr => retN X13 hx (t := .boolean) Bd.returns (by simp) (hb hby at_77) hr) ?_ (by decide) (by decide)
  refine ⟨?_, N13⟩
  subst hz14 hz15 hz16 hz18
  rw [hz21, if_pos (own_law p0 p1)]; rfl
set_option maxRecDepth 65536 in
set_option maxHeartbeats 40000000 in
theorem comes_1 {Post : Tables → Env → Array Value → State → Outcome → State → Prop} (hpost : ∀ tb e args s v u, (limb_1_1.after args s (.returned v) u = true ∧ limb_1_2.after args s (.returned v) u = true ∧ True) → FrameEnd s (.returned v) u (Jvm.fieldLocs frame_1_writes args s ++ Jvm.arrayLocs frame_1_arrays args s ++ Jvm.staticLocs frame_1_statics s) 0 0 → Post tb e args s (.returned v) u) :
    ArmFor flags0 classFile x code maxLocals ret World_1 tables_1 room_1 Calls_1 rest_1 Pre_1 Post := by
  intro l hfl _ _ p e ha hc hk s m args below hf hA hF happ hP
  obtain ⟨hcalls, hrest, hpre⟩ := hP
  obtain ⟨-, -, -, hnamed, -, -, -, hat⟩ := (Spec.applies_iff hf).mp happ
  obtain ⟨hg, hn⟩ := and_e (Cond.before_iff.mp (show (Jvm.Cond.and given_1 narrow_1).before args s = true from hpre))
  obtain ⟨g0, g⟩ := and_e hg
  obtain ⟨ga0, g⟩ := and_e g
  have ga1 := g
  obtain ⟨w0, w1, rfl⟩ : ∃ w0 w1 : Value, args = #[w0, w1] := by
    have hs : args.size = 2 := by simpa [Cond.value, given_1] using g0
    obtain ⟨L⟩ := args
    match L, hs with
    | [w0, w1], _ => exact ⟨w0, w1, rfl⟩
  have hw := fun d (hd : d ∈ tables_1) => atoms_spec (ws := Jvm.Cond.code x code maxLocals ret :: tables_1) hat d (List.mem_cons_of_mem _ hd)
  have hfit : Fit s := fun {y c} hc i hi => by
    obtain ⟨ha, rfl⟩ := Array.getElem?_eq_some_iff.mp hc
    have q := List.all_eq_true.mp ((Array.all_eq_true_iff_forall_mem.mp hF) _ (Array.getElem_mem ha)) i (List.mem_range.mpr hi)
    simpa [Array.getElem?_eq_getElem hi] using q
  obtain ⟨i0, ei0⟩ := isL_v ga0
  obtain rfl : w0 = (.long i0) := Option.some.inj ei0
  obtain ⟨i1, ei1⟩ := isL_v ga1
  obtain rfl : w1 = (.long i1) := Option.some.inj ei1
  obtain ⟨n, o, h1, h2, h3, _, L, rfl, ⟨rfl, N⟩, hq⟩ := rm0 l s _ hw tables_1 i0 i1 s.heap s.heap.size (Nat.le_refl _)  p e ha hc hk s m _ below hf ((Spec.applies_iff_loose hf).mp happ).1 ⟨rfl, State.Warmed39.refl s, rfl⟩ trivial
  refine ⟨n, _, h1, h2, h3, hpost _ _ _ _ _ _ ⟨Cond.after_iff.mpr rfl, Cond.after_iff.mpr (eq_i res_at (Term.int_eval (1)) rfl), trivial⟩ ⟨hq.1, hq.2.1, (hq.2.2.sift fun y hy => Or.inr (N y hy)).mono (by decide) (by decide)⟩⟩
theorem main_1_1 : Claimed_1_1 := comes_1 fun _ _ _ _ _ _ h hF => ⟨h.1, hF⟩
theorem main_1_2 : Claimed_1_2 := comes_1 fun _ _ _ _ _ _ h hF => ⟨h.2.1, hF⟩
end Jvm.Pilot.@@N@@
namespace Jvm.Pilot.@@N@@
open Jvm Jvm.ClassFile Sem Op Lib Jvm.Free Jvm.Stand Jvm.Pilot.@@N@@.Jvm.D
/-! MADE BY PROGRAM (witnessworld.py) out of the Statement's table words and the real class files: 9 classes; the members and pool entries that the words name. The judged class is class 1, her method 1. -/
namespace start1
open Jvm.ClassFile
def u (s : String) : CpInfo := .utf8 (stringToUtf16 s)
/-- a pool by its gaps: so many unusable entries, then the entry; so many at the end -/
def gap : Nat → List CpInfo → List CpInfo
  | 0, r => r
  | n + 1, r => .unusable :: gap n r
def poolList (es : List (Nat × CpInfo)) (last : Nat) : List CpInfo := es.foldr (fun e r => gap e.1 (e.2 :: r)) (gap last [])
def pool (es : List (Nat × CpInfo)) (last : Nat) : Array CpInfo := ⟨poolList es last⟩
def fileOf (pool : Array CpInfo) (this : Nat) (attrs : Array Attribute := #[]) (ms : Array MethodInfo := #[]) (fl : Nat := 33) (sup : Nat := 0) (ifs : Array Nat := #[]) (fds : Array FieldInfo := #[]) : ClassFile where
  minorVersion := 0
  majorVersion := 65
  constantPool := pool
  accessFlags := fl
  thisClass := this
  superClass := sup
  interfaces := ifs
  fields := fds
  methods := ms
  attributes := attrs
def plain (name : String) (sup : Option ClassId) : Class where
  name := name
  kind := .ordinary
  loader := none
  accessFlags := 33
  super := sup
  interfaces := #[]
  cf := none
  fields := #[]
  methods := #[]
  instanceTypes := #[]
  staticTypes := #[]
  resolved := #[]
  callSites := []
  init := .initialized
  statics := none
  mirror := none

def pool0 : Array CpInfo := pool [(5, u "<init>"), (0, u "()V"), (1, .class_ 10), (1, u "java/lang/Object")] 113

def k0m0 : Method := { name := "<init>", desc := "()V", sig := { parameters := [], returnType := none }, accessFlags := 1, code := none }
/-- java/lang/Object -/
def k0 : Class := { plain "java/lang/Object" none with
  accessFlags := 33
  interfaces := #[]
  cf := some (fileOf pool0 8 #[] #[{ accessFlags := 1, nameIndex := 5, descriptorIndex := 6, attributes := #[] }] 33 0 #[] #[])
  fields := #[]
  methods := #[k0m0]
  instanceTypes := #[]
  staticTypes := #[]
  resolved := Array.replicate 124 none
  statics := none }

def pool1 : Array CpInfo := pool [(2, .class_ 4), (1, u "java/lang/Object"), (0, u "<init>"), (0, u "()V"), (0, .methodref 8 9), (0, .class_ 10), (0, .nameAndType 11 12), (0, u "com/example/rondo/rondo/TimeBase"), (0, u "sumHeld"), (0, u "(JJ)J"), (2, .long 9223372036854775808), (1, .long 9223372036854775807), (1, .class_ 20), (0, u "com/example/rondo/rondo/TimeBaseSumHeldPinLaw"), (2, u "law"), (0, u "(JJ)Z")] 3

def k1m0 : Method := { name := "<init>", desc := "()V", sig := { parameters := [], returnType := none }, accessFlags := 2, code := none }
def k1c1 : Code := { maxStack := 6, maxLocals := 11, code := code, exceptionTable := #[], attributes := #[] }
def k1m1 : Method := { name := "law", desc := "(JJ)Z", sig := { parameters := [.long, .long], returnType := some .boolean }, accessFlags := 9, code := some k1c1 }
/-- com/example/rondo/rondo/TimeBaseSumHeldPinLaw -/
def k1 : Class := { plain "com/example/rondo/rondo/TimeBaseSumHeldPinLaw" (some 0) with
  accessFlags := 49
  interfaces := #[]
  cf := some (fileOf pool1 19 #[] #[{ accessFlags := 2, nameIndex := 5, descriptorIndex := 6, attributes := #[] }, { accessFlags := 9, nameIndex := 23, descriptorIndex := 24, attributes := #[] }] 49 2 #[] #[])
  fields := #[]
  methods := #[k1m0, k1m1]
  instanceTypes := #[]
  staticTypes := #[]
  resolved := Array.replicate 28 none
  statics := none }

def pool2 : Array CpInfo := pool [(2, .class_ 4), (1, u "java/lang/Object"), (0, u "<init>"), (0, u "()V"), (2, .class_ 10), (0, u "com/example/rondo/rondo/TimeBase$Nanoseconds"), (3, .class_ 15), (0, u "com/example/rondo/rondo/TimeBase$Readings"), (10, .class_ 28), (1, u "com/example/rondo/rondo/TimeBase"), (11, u "sumHeld"), (0, u "(JJ)J"), (5, .long 9223372036854775807), (1, .long 9223372036854775808), (1, u "NANOS_PER_MILLI"), (0, u "J")] 21

def k2m0 : Method := { name := "<init>", desc := "()V", sig := { parameters := [], returnType := none }, accessFlags := 2, code := none }
def k2c1 : Code := { maxStack := 6, maxLocals := 4, code := prog_44_method_12_code, exceptionTable := #[], attributes := #[] }
def k2m1 : Method := { name := "sumHeld", desc := "(JJ)J", sig := { parameters := [.long, .long], returnType := some .long }, accessFlags := 8, code := some k2c1 }
/-- com/example/rondo/rondo/TimeBase -/
def k2 : Class := { plain "com/example/rondo/rondo/TimeBase" (some 0) with
  accessFlags := 1056
  interfaces := #[]
  cf := some (fileOf pool2 26 #[.nestMembers #[14, 9]] #[{ accessFlags := 2, nameIndex := 5, descriptorIndex := 6, attributes := #[] }, { accessFlags := 8, nameIndex := 40, descriptorIndex := 41, attributes := #[] }] 1056 2 #[] #[{ accessFlags := 26, nameIndex := 51, descriptorIndex := 52, attributes := #[] }])
  fields := #[{ name := "NANOS_PER_MILLI", type := .long, accessFlags := 26, slot := 0, constantValue := 0 }]
  methods := #[k2m0, k2m1]
  instanceTypes := #[]
  staticTypes := #[.long]
  resolved := Array.replicate 74 none
  statics := none }

def pool3 : Array CpInfo := pool [(1, u "java/lang/Cloneable"), (0, .class_ 1), (0, u "java/lang/Object"), (0, .class_ 3)] 3

/-- java/lang/Cloneable -/
def k3 : Class := { plain "java/lang/Cloneable" (some 0) with
  accessFlags := 1537
  interfaces := #[]
  cf := some (fileOf pool3 2 #[] #[] 1537 4 #[] #[])
  fields := #[]
  methods := #[]
  instanceTypes := #[]
  staticTypes := #[]
  resolved := Array.replicate 8 none
  statics := none }

def pool4 : Array CpInfo := pool [(1, u "java/io/Serializable"), (0, .class_ 1), (0, u "java/lang/Object"), (0, .class_ 3)] 3

/-- java/io/Serializable -/
def k4 : Class := { plain "java/io/Serializable" (some 0) with
  accessFlags := 1537
  interfaces := #[]
  cf := some (fileOf pool4 2 #[] #[] 1537 4 #[] #[])
  fields := #[]
  methods := #[]
  instanceTypes := #[]
  staticTypes := #[]
  resolved := Array.replicate 8 none
  statics := none }

/-- the primitive byte -/
def k5 : Class := { plain "byte" none with kind := .primitive 'B', accessFlags := 0x411 }
/-- [B -/
def k6 : Class := { plain "[B" (some 0) with kind := .array 5 .byte, interfaces := #[3, 4], accessFlags := 1041 }

/-- the primitive int -/
def k7 : Class := { plain "int" none with kind := .primitive 'I', accessFlags := 0x411 }
/-- [I -/
def k8 : Class := { plain "[I" (some 0) with kind := .array 7 .int, interfaces := #[3, 4], accessFlags := 1041 }

def heap : Heap := #[]
def classes : Array Class := #[k0, k1, k2, k3, k4, k5, k6, k7, k8]
def interned : List (Array UInt16 × Addr) := []
def slotsUsed : Nat := 0
def theMethod : MethodId := ⟨1, 1⟩
def args0 : Array Value := #[.long 5, .long 7]
def aboutOver (below : List Frame) : State where
  vm := { classes := classes, interned := interned.toArray }
  heap := heap
  slotsUsed := slotsUsed
  threads := #[{ frames := .invoking theMethod args0 :: below }]
def below0 : List Frame := [.native { method := ⟨0, 0⟩, args := #[] }]
def about1 : State := aboutOver below0
def p0 : Program := .bare "" "" ""
def e0 : Env := launch0.env 0 0 0
theorem w_frames : about1.frames = Frame.invoking theMethod args0 :: below0 := rfl
set_option maxRecDepth 65536 in
theorem w_args : argsFit about1.vm theMethod args0 = true := by decide +kernel
set_option maxRecDepth 65536 in
theorem w_heap : heapFits about1 = true := by decide +kernel
set_option maxRecDepth 65536 in
theorem w_runnable : about1.curStatus? = some .runnable := by decide +kernel
set_option maxRecDepth 65536 in
theorem w_alone : about1.alone = true := by decide +kernel
set_option maxRecDepth 65536 in
theorem w_named : about1.methodNamed? x = some theMethod := by decide +kernel
set_option maxRecDepth 65536 in
theorem w_hears : about1.hears theMethod below0 = true := by decide +kernel
set_option maxRecDepth 65536 in
theorem w_ripe : about1.ripe theMethod args0 below0 = true := by decide +kernel
theorem w_running : about1.status = .running := rfl
set_option maxRecDepth 65536 in
theorem w_room : about1.hasRoom e0.platform room_1 = true :=
  launch0.hasRoom_least _ room_1 (by decide +kernel) (by decide +kernel) (by decide +kernel) (by decide +kernel) (by decide +kernel) (by decide +kernel)
theorem allAtoms_all (ts : List Jvm.Cond) (a : Array Jvm.Value) (st : Jvm.State) : (allAtoms ts).before a st = ts.all (fun c => c.before a st) := by
  induction ts with
  | nil => rfl
  | cons c t ih =>
    show (Jvm.Cond.and c (allAtoms t)).before a st = _
    rw [Jvm.Cond.before_and, ih, List.all_cons]
def words1 : List Jvm.Cond := Jvm.Cond.code x code maxLocals ret :: tables_1
/-- a 'code' word, met by the world's own term for the bytes: nothing is compared byte by byte -/
theorem code_word {y : MethodName} {bytes : ByteArray} {mx : Nat} {rt : Option FieldType} {a : Array Value} {s : State} {m : MethodId} {meth : Method} {c : Code} (h1 : s.methodNamed? y = some m) (h2 : s.vm.method? m = some meth) (h3 : meth.code = some c) (h4 : c.code = bytes)
    (h5 : (c.maxLocals == mx && c.exceptionTable.isEmpty && decide (c.maxStack ≤ mostOperands) && decide (meth.sig.returnType = rt) && !meth.locks && decide (parseMethodDescriptor y.desc = some meth.sig)) = true) : (Jvm.Cond.code y bytes mx rt).before a s = true := by
  simp only [Bool.and_eq_true, beq_iff_eq, Bool.not_eq_true', decide_eq_true_eq] at h5
  obtain ⟨⟨⟨⟨⟨g1, g2⟩, g3⟩, g4⟩, g5⟩, g6⟩ := h5
  simp [Cond.before, Cond.holds, Cond.value, h1, h2, h3, h4, g1, g2, g3, g4, g5, g6]
def isCode : Jvm.Cond → Bool
  | .code _ _ _ _ => true
  | _ => false
theorem all_split {L : List Jvm.Cond} {P : Jvm.Cond → Bool} (h1 : L.all (fun c => isCode c || P c) = true) (h2 : ∀ c ∈ L.filter isCode, P c = true) : L.all P = true := by
  refine List.all_eq_true.mpr fun c hc => ?_
  have h := List.all_eq_true.mp h1 c hc
  rcases Bool.eq_false_or_eq_true (isCode c) with hi | hi
  · exact h2 c (List.mem_filter.mpr ⟨hc, hi⟩)
  · simpa [hi] using h
set_option maxRecDepth 65536 in
theorem w_c0 : (Jvm.Cond.code x code maxLocals ret).before args0 about1 = true := code_word (m := ⟨1, 1⟩) (meth := k1m1) (c := k1c1) (by decide +kernel) rfl rfl rfl (by decide +kernel)
set_option maxRecDepth 65536 in
theorem w_c1 : (Jvm.Cond.code ({ cls := "com/example/rondo/rondo/TimeBase", name := "sumHeld", desc := "(JJ)J" } : Jvm.MethodName) prog_44_method_12_code (4 : Nat) (Option.some Jvm.ClassFile.FieldType.long)).before args0 about1 = true := code_word (m := ⟨2, 1⟩) (meth := k2m1) (c := k2c1) (by decide +kernel) rfl rfl rfl (by decide +kernel)
def codes1 : List Jvm.Cond := [Jvm.Cond.code x code maxLocals ret, Jvm.Cond.code ({ cls := "com/example/rondo/rondo/TimeBase", name := "sumHeld", desc := "(JJ)J" } : Jvm.MethodName) prog_44_method_12_code (4 : Nat) (Option.some Jvm.ClassFile.FieldType.long)]
set_option maxRecDepth 65536 in
theorem codes_eq : words1.filter isCode = codes1 := rfl
theorem w_codes : ∀ c ∈ words1.filter isCode, c.before args0 about1 = true := by
  rw [codes_eq]
  intro c hc
  simp only [codes1, List.mem_cons, List.not_mem_nil, or_false] at hc
  rcases hc with rfl | rfl
  · exact w_c0
  · exact w_c1
set_option maxRecDepth 65536 in
theorem w_t1 : words1.all (fun c => isCode c || c.before args0 about1) = true := by decide +kernel
theorem w_tables : (allAtoms (Jvm.Cond.code x code maxLocals ret :: tables_1)).before args0 about1 = true := by
  rw [allAtoms_all]
  show words1.all (fun c => c.before args0 about1) = true
  refine all_split ?_ w_codes
  rw [w_t1]
set_option maxRecDepth 65536 in
theorem w_case : (Jvm.Cond.and given_1 narrow_1).before args0 about1 = true := by decide +kernel
theorem w_applies : (headSpec (Jvm.Cond.code x code maxLocals ret :: tables_1) room_1).applies x e0.platform about1 = true :=
  (Spec.applies_iff w_frames).mpr ⟨w_running, w_runnable, w_alone, w_named, w_hears, w_ripe, w_room, w_tables⟩
theorem atStart : AtStart classFile x code maxLocals ret World_1 tables_1 room_1 Calls_1 rest_1 Pre_1 launch0 p0 e0 about1 theMethod args0 below0 :=
  ⟨lists_1, trivial, launch0.admits_env _ _ _, launch0.least_env, fairChoices_fair.cas, fairChoices_fair.clock, w_frames, w_args, w_heap, w_applies, trivial, trivial, w_case⟩
end start1
theorem witness_1 : WitnessClaimed_1 := ⟨start1.p0, start1.e0, start1.about1, start1.theMethod, start1.args0, start1.below0, start1.atStart⟩
end Jvm.Pilot.@@N@@
