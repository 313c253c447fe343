import JvmDerived
import JvmDerived.Pilot.@@N@@Statement
import JvmDerived.Pilot.@@N@@Code
set_option linter.unusedVariables false
set_option linter.unusedSimpArgs false
namespace Jvm.RoadKit
open Sem ClassFile Op Lib Jvm.Stand Jvm.Free Jvm.LawKit
section New
variable {p : Program} {l : Launch} {e : Env} {R : Room} {s : State} {m : MethodId} {args : Array Value} {below : List Frame} {meth : Method} {c : Code} {T : State} {locs : List Loc} {cells slots : Nat}
theorem retI (X : Stand p l e R s m args below meth c T locs cells slots) (hx : p.tables.exec = Jvm.exec) {pc : Nat} {Ls : Array Slot} {z : Int32} {rest : List Value} (hret : meth.sig.returnType = some .int) (hd : decode c.code pc = .ok (.ireturn, 1)) {fs : List Frame}
    (hl : ∀ (f : JFrame) (acts : List Action), f.method = m → f.locked = none → f.entered = [] → (doReturn e (T.setTop f) acts (some (.int z))).1 = T.setFrames fs) : Steps p.tables e below (T.setTop (mkF m pc Ls (.int z :: rest))) (T.setFrames fs) :=
  retOut X hx hret rfl (Or.inl ⟨rfl, Or.inl rfl, _, rfl⟩) hd hl
end New
end Jvm.RoadKit
namespace Jvm.Pilot.@@N@@
open Jvm Jvm.ClassFile Sem Op Lib Jvm.Free Jvm.Stand Jvm.LawKit Jvm.RoadKit Bundle Jvm.Pilot.@@N@@.Jvm.D
/-! own_Goes: from A the run comes to a state of which P holds -/
def own_Goes (p : Program) (e : Env) (below : List Frame) (P : State → Prop) (A : State) : Prop := ∃ B, Steps p.tables e below A B ∧ P B
def own_Fin (s : State) (below : List Frame) (QQ : Option Value → Heap → List Loc → Prop) (C N : Nat) (B : State) : Prop := ∃ v L, B.status = .running ∧ Ended B below (.returned v) ∧ QQ v B.heap L ∧ FrameEnd s (.returned v) B L C N
theorem own_via {p : Program} {e : Env} {below : List Frame} {P : State → Prop} {A : State} (B : State) (h : ∀ t, Steps p.tables e below B t → Steps p.tables e below A t) (k : own_Goes p e below P B) : own_Goes p e below P A := by
  obtain ⟨t, h1, h2⟩ := k
  exact ⟨t, h t h1, h2⟩
theorem own_body {p : Program} {e : Env} {below : List Frame} {s s₁ : State} {QQ : Option Value → Heap → List Loc → Prop} {C N ml : Nat} {m : MethodId} {args : Array Value} {F : JFrame} (hF : entryFrame m args ml = F) (k : own_Goes p e below (own_Fin s below QQ C N) (s₁.setTop F)) :
    ∃ s₂ o, Steps p.tables e below (s₁.setTop (entryFrame m args ml)) s₂ ∧ s₂.status = .running ∧ Ended s₂ below o ∧ (∃ v L, o = .returned v ∧ QQ v s₂.heap L ∧ FrameEnd s o s₂ L C N) := by
  obtain ⟨B, h1, v, L, h2, h3, h4, h5⟩ := k
  exact ⟨B, .returned v, hF ▸ h1, h2, h3, v, L, rfl, h4, h5⟩
theorem own_leave {p : Program} {l : Launch} {e : Env} {R : Room} {s : State} {m : MethodId} {args : Array Value} {below : List Frame} {meth : Method} {c : Code} {T : State} {locs : List Loc} {cells slots : Nat} {QQ : Option Value → Heap → List Loc → Prop} {C N : Nat}
    (X : Stand p l e R s m args below meth c T locs cells slots) (hlocks : meth.locks = false) {v : Option Value} (hv : meth.sig.returnType = none → v = none) {F : JFrame}
    (hstep : ∀ fs, (∀ (f : JFrame) (acts : List Action), f.method = m → f.locked = none → f.entered = [] → (doReturn e (T.setTop f) acts v).1 = T.setFrames fs) → Steps p.tables e below (T.setTop F) (T.setFrames fs))
    (hq : QQ v T.heap locs) (hc : cells ≤ C) (hn : slots ≤ N) : own_Goes p e below (own_Fin s below QQ C N) (T.setTop F) := by
  obtain ⟨fs, hr, hrun, hended, hW, hsame⟩ := X.leave hv hlocks
  exact ⟨_, hstep fs hr, v, locs, hrun, hended, hq, ⟨_, rfl⟩, hW, hsame.mono hc hn⟩
/-- what a body that writes nothing leaves -/
def own_Q (r : Option Value) (h0 : Heap) (n0 : Nat) (v : Option Value) (h : Heap) (L : List Loc) : Prop := v = r ∧ Fr n0 L ∧ h = h0
def own_f1 (p0 : Int64) (p1 : Int32) : Int64 := (if (p1 &&& (3 : Int32)) = (1 : Int32) then ((9223372036854775807 : Int64) - (p0 &&& (255 : Int64))) else (if (p1 &&& (3 : Int32)) = (2 : Int32) then ((-9223372036854775808 : Int64) + (p0 &&& (255 : Int64))) else (if (p1 &&& (3 : Int32)) = (3 : Int32) then ((p0 &&& (511 : Int64)) - (256 : Int64)) else p0)))
theorem d1_0 : decode method_2_code 0 = .ok (.iload_n 2, 1) := by decide +kernel
theorem d1_1 : decode method_2_code 1 = .ok (.iconst 3, 1) := by decide +kernel
theorem d1_2 : decode method_2_code 2 = .ok (.iand, 1) := by decide +kernel
theorem d1_3 : decode method_2_code 3 = .ok (.istore_n 3, 1) := by decide +kernel
theorem d1_4 : decode method_2_code 4 = .ok (.iload_n 3, 1) := by decide +kernel
theorem d1_5 : decode method_2_code 5 = .ok (.iconst 1, 1) := by decide +kernel
theorem d1_6 : decode method_2_code 6 = .ok (.if_icmp .ne 13, 3) := by decide +kernel
theorem d1_9 : decode method_2_code 9 = .ok (.ldc2_w 9, 3) := by decide +kernel
theorem d1_12 : decode method_2_code 12 = .ok (.lload_n 0, 1) := by decide +kernel
theorem d1_13 : decode method_2_code 13 = .ok (.ldc2_w 11, 3) := by decide +kernel
theorem d1_16 : decode method_2_code 16 = .ok (.land, 1) := by decide +kernel
theorem d1_17 : decode method_2_code 17 = .ok (.lsub, 1) := by decide +kernel
theorem d1_18 : decode method_2_code 18 = .ok (.lreturn, 1) := by decide +kernel
theorem d1_19 : decode method_2_code 19 = .ok (.iload_n 3, 1) := by decide +kernel
theorem d1_20 : decode method_2_code 20 = .ok (.iconst 2, 1) := by decide +kernel
theorem d1_21 : decode method_2_code 21 = .ok (.if_icmp .ne 13, 3) := by decide +kernel
theorem d1_24 : decode method_2_code 24 = .ok (.ldc2_w 13, 3) := by decide +kernel
theorem d1_27 : decode method_2_code 27 = .ok (.lload_n 0, 1) := by decide +kernel
theorem d1_28 : decode method_2_code 28 = .ok (.ldc2_w 11, 3) := by decide +kernel
theorem d1_31 : decode method_2_code 31 = .ok (.land, 1) := by decide +kernel
theorem d1_32 : decode method_2_code 32 = .ok (.ladd, 1) := by decide +kernel
theorem d1_33 : decode method_2_code 33 = .ok (.lreturn, 1) := by decide +kernel
theorem d1_34 : decode method_2_code 34 = .ok (.iload_n 3, 1) := by decide +kernel
theorem d1_35 : decode method_2_code 35 = .ok (.iconst 3, 1) := by decide +kernel
theorem d1_36 : decode method_2_code 36 = .ok (.if_icmp .ne 13, 3) := by decide +kernel
theorem d1_39 : decode method_2_code 39 = .ok (.lload_n 0, 1) := by decide +kernel
theorem d1_40 : decode method_2_code 40 = .ok (.ldc2_w 15, 3) := by decide +kernel
theorem d1_43 : decode method_2_code 43 = .ok (.land, 1) := by decide +kernel
theorem d1_44 : decode method_2_code 44 = .ok (.ldc2_w 17, 3) := by decide +kernel
theorem d1_47 : decode method_2_code 47 = .ok (.lsub, 1) := by decide +kernel
theorem d1_48 : decode method_2_code 48 = .ok (.lreturn, 1) := by decide +kernel
theorem d1_49 : decode method_2_code 49 = .ok (.lload_n 0, 1) := by decide +kernel
theorem d1_50 : decode method_2_code 50 = .ok (.lreturn, 1) := by decide +kernel
theorem pn_com_example_denary_denary_arith_LongArithmeticAddPinLaw : plainName "com/example/denary/denary/arith/LongArithmeticAddPinLaw" = true := by first | (simp [plainName, overriddenIn]; done) | decide +kernel
theorem ef_1 (m : MethodId) (p0 : Int64) (p1 : Int32) : entryFrame m #[(.long p0), (.int p1)] 4 = mkF m 0 #[.val (.long p0), .second, .val (.int p1), .unset] [] := by first | (simp [entryFrame, mkF, argsToLocals, Value.category]; done) | rfl
set_option maxRecDepth 65536 in
set_option maxHeartbeats 40000000 in
theorem rm1 (l : Launch) (Z : State) (a0 : Array Value) (hw : ∀ d ∈ tables_1, d.before a0 Z = true) (ws : List Jvm.Cond) (p0 : Int64) (p1 : Int32) (h0 : Heap) (n0 : Nat) (Z0 : n0 ≤ h0.size)  :
    MetFree l (⟨"com/example/denary/denary/arith/LongArithmeticAddPinLaw", "pick", "(JI)J"⟩ : MethodName) (head1 (Jvm.Cond.code (⟨"com/example/denary/denary/arith/LongArithmeticAddPinLaw", "pick", "(JI)J"⟩ : MethodName) method_2_code 4 (some .long) :: ws) ({ frames := 0, cells := 0, slots := 0, locals := 0 } : Room)) (fun a U => a = #[(.long p0), (.int p1)] ∧ Z.Warmed39 U.vm ∧ U.heap = h0) (fun _ _ _ _ _ => True) (fun _ U o U' => ∃ v L, o = .returned v ∧ (own_Q (some (.long (own_f1 p0 p1))) h0 n0) v U'.heap L ∧ FrameEnd U o U' L ({ frames := 0, cells := 0, slots := 0, locals := 0 } : Room).cells ({ frames := 0, cells := 0, slots := 0, locals := 0 } : Room).slots) := by
  refine MetFree.of_bodySF (plainFor_of_name pn_com_example_denary_denary_arith_LongArithmeticAddPinLaw) hisR ?_
  intro p e s m args below meth c s₁ Bd hml0 hP hK
  obtain ⟨rfl, hZ, hh⟩ := hP
  have hx := Bd.exec
  have hby := Bd.bytes
  have hml : c.maxLocals = 4 := hml0
  have hown : s.vm.findClass "com/example/denary/denary/arith/LongArithmeticAddPinLaw" = some m.cls := findClass_of_methodNamed Bd.named
  have hnm := (name_of_methodNamed Bd.named Bd.method).1
  have X0 : Stand p l e ({ frames := 0, cells := 0, slots := 0, locals := 0 } : Room) s m #[(.long p0), (.int p1)] below meth c s₁ [] 0 0 := Stand.of_body Bd
  have e0 : s₁.heap = h0 := by rw [← hh, Bd.state]; rfl
  have N0 := Fr.nil n0
  refine own_body (QQ := (own_Q (some (.long (own_f1 p0 p1))) h0 n0)) (ef_1 m p0 p1) ?_
  refine own_via (s₁.setTop (mkF m 1 #[.val (.long p0), .second, .val (.int p1), .unset] [(.int p1)])) (fun t k => XS.iloadN X0.here hx rfl (hb hby d1_0) rfl  k) ?_
  refine own_via (s₁.setTop (mkF m 2 #[.val (.long p0), .second, .val (.int p1), .unset] [(.int (3 : Int32)), (.int p1)])) (fun t k => XS.iconst X0.here hx rfl (hb hby d1_1) k) ?_
  refine own_via (s₁.setTop (mkF m 3 #[.val (.long p0), .second, .val (.int p1), .unset] [(.int (p1 &&& (3 : Int32)))])) (fun t k => XS.iand X0.here hx rfl (hb hby d1_2) rfl k) ?_
  refine own_via (s₁.setTop (mkF m 4 #[.val (.long p0), .second, .val (.int p1), .val (.int (p1 &&& (3 : Int32)))] [])) (fun t k => XS.istoreN X0.here hx rfl (hb hby d1_3) rfl (l' := #[.val (.long p0), .second, .val (.int p1), .val (.int (p1 &&& (3 : Int32)))]) rfl k) ?_
  refine own_via (s₁.setTop (mkF m 5 #[.val (.long p0), .second, .val (.int p1), .val (.int (p1 &&& (3 : Int32)))] [(.int (p1 &&& (3 : Int32)))])) (fun t k => XS.iloadN X0.here hx rfl (hb hby d1_4) rfl  k) ?_
  refine own_via (s₁.setTop (mkF m 6 #[.val (.long p0), .second, .val (.int p1), .val (.int (p1 &&& (3 : Int32)))] [(.int (1 : Int32)), (.int (p1 &&& (3 : Int32)))])) (fun t k => XS.iconst X0.here hx rfl (hb hby d1_5) k) ?_
  by_cases hc6_4 : (p1 &&& (3 : Int32)) = (1 : Int32)
  · refine own_via (s₁.setTop (mkF m 9 #[.val (.long p0), .second, .val (.int p1), .val (.int (p1 &&& (3 : Int32)))] [])) (fun t k => XS.icmpNo X0.here hx rfl (hb hby d1_6) rfl (teq hc6_4).2 k) ?_
    refine own_via (s₁.setTop (mkF m 12 #[.val (.long p0), .second, .val (.int p1), .val (.int (p1 &&& (3 : Int32)))] [(.long (9223372036854775807 : Int64))])) (fun t k => X0.ldc2Long hx hown (mvT hZ (hw _ (List.mem_of_getElem? (i := 13) rfl))) (g := (mkF m 9 #[.val (.long p0), .second, .val (.int p1), .val (.int (p1 &&& (3 : Int32)))] [])) rfl (hb hby d1_9) _ k) ?_
    refine own_via (s₁.setTop (mkF m 13 #[.val (.long p0), .second, .val (.int p1), .val (.int (p1 &&& (3 : Int32)))] [(.long p0), (.long (9223372036854775807 : Int64))])) (fun t k => XS.lloadN X0.here hx rfl (hb hby d1_12) rfl  k) ?_
    refine own_via (s₁.setTop (mkF m 16 #[.val (.long p0), .second, .val (.int p1), .val (.int (p1 &&& (3 : Int32)))] [(.long (255 : Int64)), (.long p0), (.long (9223372036854775807 : Int64))])) (fun t k => X0.ldc2Long hx hown (mvT hZ (hw _ (List.mem_of_getElem? (i := 16) rfl))) (g := (mkF m 13 #[.val (.long p0), .second, .val (.int p1), .val (.int (p1 &&& (3 : Int32)))] [(.long p0), (.long (9223372036854775807 : Int64))])) rfl (hb hby d1_13) _ k) ?_
    refine own_via (s₁.setTop (mkF m 17 #[.val (.long p0), .second, .val (.int p1), .val (.int (p1 &&& (3 : Int32)))] [(.long (p0 &&& (255 : Int64))), (.long (9223372036854775807 : Int64))])) (fun t k => XS.land X0.here hx rfl (hb hby d1_16) rfl k) ?_
    refine own_via (s₁.setTop (mkF m 18 #[.val (.long p0), .second, .val (.int p1), .val (.int (p1 &&& (3 : Int32)))] [(.long ((9223372036854775807 : Int64) - (p0 &&& (255 : Int64))))])) (fun t k => XS.lsub X0.here hx rfl (hb hby d1_17) rfl k) ?_
    refine own_leave X0 Bd.notSynchronized (v := some (.long ((9223372036854775807 : Int64) - (p0 &&& (255 : Int64))))) (fun h => by rw [Bd.returns] at h; cases h) (fun fs hr => retOut X0 hx Bd.returns rfl (Or.inr (Or.inl ⟨rfl, rfl, _, rfl⟩)) (hb hby d1_18) hr) ?_ (by decide) (by decide)
    refine ⟨?_, N0, e0⟩
    show some (Value.long _) = some (Value.long _); unfold own_f1; rw [if_pos hc6_4]
  · refine own_via (s₁.setTop (mkF m 19 #[.val (.long p0), .second, .val (.int p1), .val (.int (p1 &&& (3 : Int32)))] [])) (fun t k => XS.icmpYes X0.here hx rfl (pc0 := 6) (pc' := 19) rfl (hb hby d1_6) rfl (feq hc6_4).2 (by decide) (by decide) k) ?_
    refine own_via (s₁.setTop (mkF m 20 #[.val (.long p0), .second, .val (.int p1), .val (.int (p1 &&& (3 : Int32)))] [(.int (p1 &&& (3 : Int32)))])) (fun t k => XS.iloadN X0.here hx rfl (hb hby d1_19) rfl  k) ?_
    refine own_via (s₁.setTop (mkF m 21 #[.val (.long p0), .second, .val (.int p1), .val (.int (p1 &&& (3 : Int32)))] [(.int (2 : Int32)), (.int (p1 &&& (3 : Int32)))])) (fun t k => XS.iconst X0.here hx rfl (hb hby d1_20) k) ?_
    by_cases hc21_5 : (p1 &&& (3 : Int32)) = (2 : Int32)
    · refine own_via (s₁.setTop (mkF m 24 #[.val (.long p0), .second, .val (.int p1), .val (.int (p1 &&& (3 : Int32)))] [])) (fun t k => XS.icmpNo X0.here hx rfl (hb hby d1_21) rfl (teq hc21_5).2 k) ?_
      refine own_via (s₁.setTop (mkF m 27 #[.val (.long p0), .second, .val (.int p1), .val (.int (p1 &&& (3 : Int32)))] [(.long (-9223372036854775808 : Int64))])) (fun t k => X0.ldc2Long hx hown (mvT hZ (hw _ (List.mem_of_getElem? (i := 12) rfl))) (g := (mkF m 24 #[.val (.long p0), .second, .val (.int p1), .val (.int (p1 &&& (3 : Int32)))] [])) rfl (hb hby d1_24) _ k) ?_
      refine own_via (s₁.setTop (mkF m 28 #[.val (.long p0), .second, .val (.int p1), .val (.int (p1 &&& (3 : Int32)))] [(.long p0), (.long (-9223372036854775808 : Int64))])) (fun t k => XS.lloadN X0.here hx rfl (hb hby d1_27) rfl  k) ?_
      refine own_via (s₁.setTop (mkF m 31 #[.val (.long p0), .second, .val (.int p1), .val (.int (p1 &&& (3 : Int32)))] [(.long (255 : Int64)), (.long p0), (.long (-9223372036854775808 : Int64))])) (fun t k => X0.ldc2Long hx hown (mvT hZ (hw _ (List.mem_of_getElem? (i := 16) rfl))) (g := (mkF m 28 #[.val (.long p0), .second, .val (.int p1), .val (.int (p1 &&& (3 : Int32)))] [(.long p0), (.long (-9223372036854775808 : Int64))])) rfl (hb hby d1_28) _ k) ?_
      refine own_via (s₁.setTop (mkF m 32 #[.val (.long p0), .second, .val (.int p1), .val (.int (p1 &&& (3 : Int32)))] [(.long (p0 &&& (255 : Int64))), (.long (-9223372036854775808 : Int64))])) (fun t k => XS.land X0.here hx rfl (hb hby d1_31) rfl k) ?_
      refine own_via (s₁.setTop (mkF m 33 #[.val (.long p0), .second, .val (.int p1), .val (.int (p1 &&& (3 : Int32)))] [(.long ((-9223372036854775808 : Int64) + (p0 &&& (255 : Int64))))])) (fun t k => XS.ladd X0.here hx rfl (hb hby d1_32) rfl k) ?_
      refine own_leave X0 Bd.notSynchronized (v := some (.long ((-9223372036854775808 : Int64) + (p0 &&& (255 : Int64))))) (fun h => by rw [Bd.returns] at h; cases h) (fun fs hr => retOut X0 hx Bd.returns rfl (Or.inr (Or.inl ⟨rfl, rfl, _, rfl⟩)) (hb hby d1_33) hr) ?_ (by decide) (by decide)
      refine ⟨?_, N0, e0⟩
      show some (Value.long _) = some (Value.long _); unfold own_f1; rw [if_neg hc6_4, if_pos hc21_5]
    · refine own_via (s₁.setTop (mkF m 34 #[.val (.long p0), .second, .val (.int p1), .val (.int (p1 &&& (3 : Int32)))] [])) (fun t k => XS.icmpYes X0.here hx rfl (pc0 := 21) (pc' := 34) rfl (hb hby d1_21) rfl (feq hc21_5).2 (by decide) (by decide) k) ?_
      refine own_via (s₁.setTop (mkF m 35 #[.val (.long p0), .second, .val (.int p1), .val (.int (p1 &&& (3 : Int32)))] [(.int (p1 &&& (3 : Int32)))])) (fun t k => XS.iloadN X0.here hx rfl (hb hby d1_34) rfl  k) ?_
      refine own_via (s₁.setTop (mkF m 36 #[.val (.long p0), .second, .val (.int p1), .val (.int (p1 &&& (3 : Int32)))] [(.int (3 : Int32)), (.int (p1 &&& (3 : Int32)))])) (fun t k => XS.iconst X0.here hx rfl (hb hby d1_35) k) ?_
      by_cases hc36_6 : (p1 &&& (3 : Int32)) = (3 : Int32)
      · refine own_via (s₁.setTop (mkF m 39 #[.val (.long p0), .second, .val (.int p1), .val (.int (p1 &&& (3 : Int32)))] [])) (fun t k => XS.icmpNo X0.here hx rfl (hb hby d1_36) rfl (teq hc36_6).2 k) ?_
        refine own_via (s₁.setTop (mkF m 40 #[.val (.long p0), .second, .val (.int p1), .val (.int (p1 &&& (3 : Int32)))] [(.long p0)])) (fun t k => XS.lloadN X0.here hx rfl (hb hby d1_39) rfl  k) ?_
        refine own_via (s₁.setTop (mkF m 43 #[.val (.long p0), .second, .val (.int p1), .val (.int (p1 &&& (3 : Int32)))] [(.long (511 : Int64)), (.long p0)])) (fun t k => X0.ldc2Long hx hown (mvT hZ (hw _ (List.mem_of_getElem? (i := 14) rfl))) (g := (mkF m 40 #[.val (.long p0), .second, .val (.int p1), .val (.int (p1 &&& (3 : Int32)))] [(.long p0)])) rfl (hb hby d1_40) _ k) ?_
        refine own_via (s₁.setTop (mkF m 44 #[.val (.long p0), .second, .val (.int p1), .val (.int (p1 &&& (3 : Int32)))] [(.long (p0 &&& (511 : Int64)))])) (fun t k => XS.land X0.here hx rfl (hb hby d1_43) rfl k) ?_
        refine own_via (s₁.setTop (mkF m 47 #[.val (.long p0), .second, .val (.int p1), .val (.int (p1 &&& (3 : Int32)))] [(.long (256 : Int64)), (.long (p0 &&& (511 : Int64)))])) (fun t k => X0.ldc2Long hx hown (mvT hZ (hw _ (List.mem_of_getElem? (i := 15) rfl))) (g := (mkF m 44 #[.val (.long p0), .second, .val (.int p1), .val (.int (p1 &&& (3 : Int32)))] [(.long (p0 &&& (511 : Int64)))])) rfl (hb hby d1_44) _ k) ?_
        refine own_via (s₁.setTop (mkF m 48 #[.val (.long p0), .second, .val (.int p1), .val (.int (p1 &&& (3 : Int32)))] [(.long ((p0 &&& (511 : Int64)) - (256 : Int64)))])) (fun t k => XS.lsub X0.here hx rfl (hb hby d1_47) rfl k) ?_
        refine own_leave X0 Bd.notSynchronized (v := some (.long ((p0 &&& (511 : Int64)) - (256 : Int64)))) (fun h => by rw [Bd.returns] at h; cases h) (fun fs hr => retOut X0 hx Bd.returns rfl (Or.inr (Or.inl ⟨rfl, rfl, _, rfl⟩)) (hb hby d1_48) hr) ?_ (by decide) (by decide)
        refine ⟨?_, N0, e0⟩
        show some (Value.long _) = some (Value.long _); unfold own_f1; rw [if_neg hc6_4, if_neg hc21_5, if_pos hc36_6]
      · refine own_via (s₁.setTop (mkF m 49 #[.val (.long p0), .second, .val (.int p1), .val (.int (p1 &&& (3 : Int32)))] [])) (fun t k => XS.icmpYes X0.here hx rfl (pc0 := 36) (pc' := 49) rfl (hb hby d1_36) rfl (feq hc36_6).2 (by decide) (by decide) k) ?_
        refine own_via (s₁.setTop (mkF m 50 #[.val (.long p0), .second, .val (.int p1), .val (.int (p1 &&& (3 : Int32)))] [(.long p0)])) (fun t k => XS.lloadN X0.here hx rfl (hb hby d1_49) rfl  k) ?_
        refine own_leave X0 Bd.notSynchronized (v := some (.long p0)) (fun h => by rw [Bd.returns] at h; cases h) (fun fs hr => retOut X0 hx Bd.returns rfl (Or.inr (Or.inl ⟨rfl, rfl, _, rfl⟩)) (hb hby d1_50) hr) ?_ (by decide) (by decide)
        refine ⟨?_, N0, e0⟩
        show some (Value.long _) = some (Value.long _); unfold own_f1; rw [if_neg hc6_4, if_neg hc21_5, if_neg hc36_6]
def own_f2 (p0 : Int64) (p1 : Int64) : Int64 := (if ((p0 ^^^ (p0 + p1)) &&& (p1 ^^^ (p0 + p1))) < (0 : Int64) then (-9223372036854775808 : Int64) else (if p0 = (-9223372036854775808 : Int64) then (-9223372036854775808 : Int64) else (if p1 = (-9223372036854775808 : Int64) then (-9223372036854775808 : Int64) else (p0 + p1))))
theorem d2_0 : decode prog_9_method_2_code 0 = .ok (.lload_n 0, 1) := by decide +kernel
theorem d2_1 : decode prog_9_method_2_code 1 = .ok (.lload_n 2, 1) := by decide +kernel
theorem d2_2 : decode prog_9_method_2_code 2 = .ok (.ladd, 1) := by decide +kernel
theorem d2_3 : decode prog_9_method_2_code 3 = .ok (.lstore 4, 2) := by decide +kernel
theorem d2_5 : decode prog_9_method_2_code 5 = .ok (.lload_n 0, 1) := by decide +kernel
theorem d2_6 : decode prog_9_method_2_code 6 = .ok (.lload 4, 2) := by decide +kernel
theorem d2_8 : decode prog_9_method_2_code 8 = .ok (.lxor, 1) := by decide +kernel
theorem d2_9 : decode prog_9_method_2_code 9 = .ok (.lload_n 2, 1) := by decide +kernel
theorem d2_10 : decode prog_9_method_2_code 10 = .ok (.lload 4, 2) := by decide +kernel
theorem d2_12 : decode prog_9_method_2_code 12 = .ok (.lxor, 1) := by decide +kernel
theorem d2_13 : decode prog_9_method_2_code 13 = .ok (.land, 1) := by decide +kernel
theorem d2_14 : decode prog_9_method_2_code 14 = .ok (.lconst 0, 1) := by decide +kernel
theorem d2_15 : decode prog_9_method_2_code 15 = .ok (.lcmp, 1) := by decide +kernel
theorem d2_16 : decode prog_9_method_2_code 16 = .ok (.ifCond .ge 7, 3) := by decide +kernel
theorem d2_19 : decode prog_9_method_2_code 19 = .ok (.iconst 1, 1) := by decide +kernel
theorem d2_20 : decode prog_9_method_2_code 20 = .ok (.goto 4, 3) := by decide +kernel
theorem d2_23 : decode prog_9_method_2_code 23 = .ok (.iconst 0, 1) := by decide +kernel
theorem d2_24 : decode prog_9_method_2_code 24 = .ok (.istore 6, 2) := by decide +kernel
theorem d2_26 : decode prog_9_method_2_code 26 = .ok (.iload 6, 2) := by decide +kernel
theorem d2_28 : decode prog_9_method_2_code 28 = .ok (.ifCond .ne 19, 3) := by decide +kernel
theorem d2_31 : decode prog_9_method_2_code 31 = .ok (.lload_n 0, 1) := by decide +kernel
theorem d2_32 : decode prog_9_method_2_code 32 = .ok (.ldc2_w 11, 3) := by decide +kernel
theorem d2_35 : decode prog_9_method_2_code 35 = .ok (.lcmp, 1) := by decide +kernel
theorem d2_36 : decode prog_9_method_2_code 36 = .ok (.ifCond .eq 11, 3) := by decide +kernel
theorem d2_39 : decode prog_9_method_2_code 39 = .ok (.lload_n 2, 1) := by decide +kernel
theorem d2_40 : decode prog_9_method_2_code 40 = .ok (.ldc2_w 11, 3) := by decide +kernel
theorem d2_43 : decode prog_9_method_2_code 43 = .ok (.lcmp, 1) := by decide +kernel
theorem d2_44 : decode prog_9_method_2_code 44 = .ok (.ifCond .ne 9, 3) := by decide +kernel
theorem d2_47 : decode prog_9_method_2_code 47 = .ok (.ldc2_w 11, 3) := by decide +kernel
theorem d2_50 : decode prog_9_method_2_code 50 = .ok (.goto 5, 3) := by decide +kernel
theorem d2_53 : decode prog_9_method_2_code 53 = .ok (.lload 4, 2) := by decide +kernel
theorem d2_55 : decode prog_9_method_2_code 55 = .ok (.lreturn, 1) := by decide +kernel
theorem pn_com_example_denary_denary_arith_LongArithmetic : plainName "com/example/denary/denary/arith/LongArithmetic" = true := by first | (simp [plainName, overriddenIn]; done) | decide +kernel
theorem ef_2 (m : MethodId) (p0 : Int64) (p1 : Int64) : entryFrame m #[(.long p0), (.long p1)] 7 = mkF m 0 #[.val (.long p0), .second, .val (.long p1), .second, .unset, .unset, .unset] [] := by first | (simp [entryFrame, mkF, argsToLocals, Value.category]; done) | rfl
set_option maxRecDepth 65536 in
set_option maxHeartbeats 40000000 in
theorem rm2 (l : Launch) (Z : State) (a0 : Array Value) (hw : ∀ d ∈ tables_1, d.before a0 Z = true) (ws : List Jvm.Cond) (p0 : Int64) (p1 : Int64) (h0 : Heap) (n0 : Nat) (Z0 : n0 ≤ h0.size)  :
    MetFree l (⟨"com/example/denary/denary/arith/LongArithmetic", "add", "(JJ)J"⟩ : MethodName) (head1 (Jvm.Cond.code (⟨"com/example/denary/denary/arith/LongArithmetic", "add", "(JJ)J"⟩ : MethodName) prog_9_method_2_code 7 (some .long) :: ws) ({ frames := 0, cells := 0, slots := 0, locals := 0 } : Room)) (fun a U => a = #[(.long p0), (.long p1)] ∧ Z.Warmed39 U.vm ∧ U.heap = h0) (fun _ _ _ _ _ => True) (fun _ U o U' => ∃ v L, o = .returned v ∧ (own_Q (some (.long (own_f2 p0 p1))) h0 n0) v U'.heap L ∧ FrameEnd U o U' L ({ frames := 0, cells := 0, slots := 0, locals := 0 } : Room).cells ({ frames := 0, cells := 0, slots := 0, locals := 0 } : Room).slots) := by
  refine MetFree.of_bodySF (plainFor_of_name pn_com_example_denary_denary_arith_LongArithmetic) hisR ?_
  intro p e s m args below meth c s₁ Bd hml0 hP hK
  obtain ⟨rfl, hZ, hh⟩ := hP
  have hx := Bd.exec
  have hby := Bd.bytes
  have hml : c.maxLocals = 7 := hml0
  have hown : s.vm.findClass "com/example/denary/denary/arith/LongArithmetic" = some m.cls := findClass_of_methodNamed Bd.named
  have hnm := (name_of_methodNamed Bd.named Bd.method).1
  have X0 : Stand p l e ({ frames := 0, cells := 0, slots := 0, locals := 0 } : Room) s m #[(.long p0), (.long p1)] below meth c s₁ [] 0 0 := Stand.of_body Bd
  have e0 : s₁.heap = h0 := by rw [← hh, Bd.state]; rfl
  have N0 := Fr.nil n0
  refine own_body (QQ := (own_Q (some (.long (own_f2 p0 p1))) h0 n0)) (ef_2 m p0 p1) ?_
  refine own_via (s₁.setTop (mkF m 1 #[.val (.long p0), .second, .val (.long p1), .second, .unset, .unset, .unset] [(.long p0)])) (fun t k => XS.lloadN X0.here hx rfl (hb hby d2_0) rfl  k) ?_
  refine own_via (s₁.setTop (mkF m 2 #[.val (.long p0), .second, .val (.long p1), .second, .unset, .unset, .unset] [(.long p1), (.long p0)])) (fun t k => XS.lloadN X0.here hx rfl (hb hby d2_1) rfl  k) ?_
  refine own_via (s₁.setTop (mkF m 3 #[.val (.long p0), .second, .val (.long p1), .second, .unset, .unset, .unset] [(.long (p0 + p1))])) (fun t k => XS.ladd X0.here hx rfl (hb hby d2_2) rfl k) ?_
  refine own_via (s₁.setTop (mkF m 5 #[.val (.long p0), .second, .val (.long p1), .second, .val (.long (p0 + p1)), .second, .unset] [])) (fun t k => XS.lstore X0.here hx rfl (hb hby d2_3) rfl (l' := #[.val (.long p0), .second, .val (.long p1), .second, .val (.long (p0 + p1)), .second, .unset]) rfl k) ?_
  refine own_via (s₁.setTop (mkF m 6 #[.val (.long p0), .second, .val (.long p1), .second, .val (.long (p0 + p1)), .second, .unset] [(.long p0)])) (fun t k => XS.lloadN X0.here hx rfl (hb hby d2_5) rfl  k) ?_
  refine own_via (s₁.setTop (mkF m 8 #[.val (.long p0), .second, .val (.long p1), .second, .val (.long (p0 + p1)), .second, .unset] [(.long (p0 + p1)), (.long p0)])) (fun t k => XS.lload X0.here hx rfl (hb hby d2_6) rfl  k) ?_
  refine own_via (s₁.setTop (mkF m 9 #[.val (.long p0), .second, .val (.long p1), .second, .val (.long (p0 + p1)), .second, .unset] [(.long (p0 ^^^ (p0 + p1)))])) (fun t k => XS.lxor X0.here hx rfl (hb hby d2_8) rfl k) ?_
  refine own_via (s₁.setTop (mkF m 10 #[.val (.long p0), .second, .val (.long p1), .second, .val (.long (p0 + p1)), .second, .unset] [(.long p1), (.long (p0 ^^^ (p0 + p1)))])) (fun t k => XS.lloadN X0.here hx rfl (hb hby d2_9) rfl  k) ?_
  refine own_via (s₁.setTop (mkF m 12 #[.val (.long p0), .second, .val (.long p1), .second, .val (.long (p0 + p1)), .second, .unset] [(.long (p0 + p1)), (.long p1), (.long (p0 ^^^ (p0 + p1)))])) (fun t k => XS.lload X0.here hx rfl (hb hby d2_10) rfl  k) ?_
  refine own_via (s₁.setTop (mkF m 13 #[.val (.long p0), .second, .val (.long p1), .second, .val (.long (p0 + p1)), .second, .unset] [(.long (p1 ^^^ (p0 + p1))), (.long (p0 ^^^ (p0 + p1)))])) (fun t k => XS.lxor X0.here hx rfl (hb hby d2_12) rfl k) ?_
  refine own_via (s₁.setTop (mkF m 14 #[.val (.long p0), .second, .val (.long p1), .second, .val (.long (p0 + p1)), .second, .unset] [(.long ((p0 ^^^ (p0 + p1)) &&& (p1 ^^^ (p0 + p1))))])) (fun t k => XS.land X0.here hx rfl (hb hby d2_13) rfl k) ?_
  refine own_via (s₁.setTop (mkF m 15 #[.val (.long p0), .second, .val (.long p1), .second, .val (.long (p0 + p1)), .second, .unset] [(.long (0 : Int64)), (.long ((p0 ^^^ (p0 + p1)) &&& (p1 ^^^ (p0 + p1))))])) (fun t k => XS.lconst X0.here hx rfl (hb hby d2_14) k) ?_
  refine own_via (s₁.setTop (mkF m 16 #[.val (.long p0), .second, .val (.long p1), .second, .val (.long (p0 + p1)), .second, .unset] [(.int (lcmpW ((p0 ^^^ (p0 + p1)) &&& (p1 ^^^ (p0 + p1))) (0 : Int64)))])) (fun t k => XS.lcmp X0.here hx rfl (hb hby d2_15) rfl k) ?_
  by_cases hc16_10 : ((p0 ^^^ (p0 + p1)) &&& (p1 ^^^ (p0 + p1))) < (0 : Int64)
  · refine own_via (s₁.setTop (mkF m 19 #[.val (.long p0), .second, .val (.long p1), .second, .val (.long (p0 + p1)), .second, .unset] [])) (fun t k => XS.ifNo X0.here hx rfl (hb hby d2_16) rfl ((if0 _ _).trans (tlt ((lw_lt ((p0 ^^^ (p0 + p1)) &&& (p1 ^^^ (p0 + p1))) (0 : Int64)).mpr hc16_10)).2.1) k) ?_
    refine own_via (s₁.setTop (mkF m 20 #[.val (.long p0), .second, .val (.long p1), .second, .val (.long (p0 + p1)), .second, .unset] [(.int (1 : Int32))])) (fun t k => XS.iconst X0.here hx rfl (hb hby d2_19) k) ?_
    refine own_via (s₁.setTop (mkF m 24 #[.val (.long p0), .second, .val (.long p1), .second, .val (.long (p0 + p1)), .second, .unset] [(.int (1 : Int32))])) (fun t k => XS.goto X0.here hx rfl (pc0 := 20) (pc' := 24) rfl (hb hby d2_20) (by decide) (by decide) k) ?_
    refine own_via (s₁.setTop (mkF m 26 #[.val (.long p0), .second, .val (.long p1), .second, .val (.long (p0 + p1)), .second, .val (.int (1 : Int32))] [])) (fun t k => XS.istore X0.here hx rfl (hb hby d2_24) rfl (l' := #[.val (.long p0), .second, .val (.long p1), .second, .val (.long (p0 + p1)), .second, .val (.int (1 : Int32))]) rfl k) ?_
    refine own_via (s₁.setTop (mkF m 28 #[.val (.long p0), .second, .val (.long p1), .second, .val (.long (p0 + p1)), .second, .val (.int (1 : Int32))] [(.int (1 : Int32))])) (fun t k => XS.iload X0.here hx rfl (hb hby d2_26) rfl  k) ?_
    refine own_via (s₁.setTop (mkF m 47 #[.val (.long p0), .second, .val (.long p1), .second, .val (.long (p0 + p1)), .second, .val (.int (1 : Int32))] [])) (fun t k => XS.ifYes X0.here hx rfl (pc0 := 28) (pc' := 47) rfl (hb hby d2_28) rfl ((if0 _ _).trans (feq (by decide)).2) (by decide) (by decide) k) ?_
    refine own_via (s₁.setTop (mkF m 50 #[.val (.long p0), .second, .val (.long p1), .second, .val (.long (p0 + p1)), .second, .val (.int (1 : Int32))] [(.long (-9223372036854775808 : Int64))])) (fun t k => X0.ldc2Long hx hown (mvT hZ (hw _ (List.mem_of_getElem? (i := 8) rfl))) (g := (mkF m 47 #[.val (.long p0), .second, .val (.long p1), .second, .val (.long (p0 + p1)), .second, .val (.int (1 : Int32))] [])) rfl (hb hby d2_47) _ k) ?_
    refine own_via (s₁.setTop (mkF m 55 #[.val (.long p0), .second, .val (.long p1), .second, .val (.long (p0 + p1)), .second, .val (.int (1 : Int32))] [(.long (-9223372036854775808 : Int64))])) (fun t k => XS.goto X0.here hx rfl (pc0 := 50) (pc' := 55) rfl (hb hby d2_50) (by decide) (by decide) k) ?_
    refine own_leave X0 Bd.notSynchronized (v := some (.long (-9223372036854775808 : Int64))) (fun h => by rw [Bd.returns] at h; cases h) (fun fs hr => retOut X0 hx Bd.returns rfl (Or.inr (Or.inl ⟨rfl, rfl, _, rfl⟩)) (hb hby d2_55) hr) ?_ (by decide) (by decide)
    refine ⟨?_, N0, e0⟩
    show some (Value.long _) = some (Value.long _); unfold own_f2; rw [if_pos hc16_10]
  · refine own_via (s₁.setTop (mkF m 23 #[.val (.long p0), .second, .val (.long p1), .second, .val (.long (p0 + p1)), .second, .unset] [])) (fun t k => XS.ifYes X0.here hx rfl (pc0 := 16) (pc' := 23) rfl (hb hby d2_16) rfl ((if0 _ _).trans (flt (fun q => hc16_10 ((lw_lt ((p0 ^^^ (p0 + p1)) &&& (p1 ^^^ (p0 + p1))) (0 : Int64)).mp q))).2.1) (by decide) (by decide) k) ?_
    refine own_via (s₁.setTop (mkF m 24 #[.val (.long p0), .second, .val (.long p1), .second, .val (.long (p0 + p1)), .second, .unset] [(.int (0 : Int32))])) (fun t k => XS.iconst X0.here hx rfl (hb hby d2_23) k) ?_
    refine own_via (s₁.setTop (mkF m 26 #[.val (.long p0), .second, .val (.long p1), .second, .val (.long (p0 + p1)), .second, .val (.int (0 : Int32))] [])) (fun t k => XS.istore X0.here hx rfl (hb hby d2_24) rfl (l' := #[.val (.long p0), .second, .val (.long p1), .second, .val (.long (p0 + p1)), .second, .val (.int (0 : Int32))]) rfl k) ?_
    refine own_via (s₁.setTop (mkF m 28 #[.val (.long p0), .second, .val (.long p1), .second, .val (.long (p0 + p1)), .second, .val (.int (0 : Int32))] [(.int (0 : Int32))])) (fun t k => XS.iload X0.here hx rfl (hb hby d2_26) rfl  k) ?_
    refine own_via (s₁.setTop (mkF m 31 #[.val (.long p0), .second, .val (.long p1), .second, .val (.long (p0 + p1)), .second, .val (.int (0 : Int32))] [])) (fun t k => XS.ifNo X0.here hx rfl (hb hby d2_28) rfl ((if0 _ _).trans (teq (by decide)).2) k) ?_
    refine own_via (s₁.setTop (mkF m 32 #[.val (.long p0), .second, .val (.long p1), .second, .val (.long (p0 + p1)), .second, .val (.int (0 : Int32))] [(.long p0)])) (fun t k => XS.lloadN X0.here hx rfl (hb hby d2_31) rfl  k) ?_
    refine own_via (s₁.setTop (mkF m 35 #[.val (.long p0), .second, .val (.long p1), .second, .val (.long (p0 + p1)), .second, .val (.int (0 : Int32))] [(.long (-9223372036854775808 : Int64)), (.long p0)])) (fun t k => X0.ldc2Long hx hown (mvT hZ (hw _ (List.mem_of_getElem? (i := 8) rfl))) (g := (mkF m 32 #[.val (.long p0), .second, .val (.long p1), .second, .val (.long (p0 + p1)), .second, .val (.int (0 : Int32))] [(.long p0)])) rfl (hb hby d2_32) _ k) ?_
    refine own_via (s₁.setTop (mkF m 36 #[.val (.long p0), .second, .val (.long p1), .second, .val (.long (p0 + p1)), .second, .val (.int (0 : Int32))] [(.int (lcmpW p0 (-9223372036854775808 : Int64)))])) (fun t k => XS.lcmp X0.here hx rfl (hb hby d2_35) rfl k) ?_
    by_cases hc36_11 : p0 = (-9223372036854775808 : Int64)
    · refine own_via (s₁.setTop (mkF m 47 #[.val (.long p0), .second, .val (.long p1), .second, .val (.long (p0 + p1)), .second, .val (.int (0 : Int32))] [])) (fun t k => XS.ifYes X0.here hx rfl (pc0 := 36) (pc' := 47) rfl (hb hby d2_36) rfl ((if0 _ _).trans (teq ((lw_eq p0 (-9223372036854775808 : Int64)).mpr hc36_11)).1) (by decide) (by decide) k) ?_
      refine own_via (s₁.setTop (mkF m 50 #[.val (.long p0), .second, .val (.long p1), .second, .val (.long (p0 + p1)), .second, .val (.int (0 : Int32))] [(.long (-9223372036854775808 : Int64))])) (fun t k => X0.ldc2Long hx hown (mvT hZ (hw _ (List.mem_of_getElem? (i := 8) rfl))) (g := (mkF m 47 #[.val (.long p0), .second, .val (.long p1), .second, .val (.long (p0 + p1)), .second, .val (.int (0 : Int32))] [])) rfl (hb hby d2_47) _ k) ?_
      refine own_via (s₁.setTop (mkF m 55 #[.val (.long p0), .second, .val (.long p1), .second, .val (.long (p0 + p1)), .second, .val (.int (0 : Int32))] [(.long (-9223372036854775808 : Int64))])) (fun t k => XS.goto X0.here hx rfl (pc0 := 50) (pc' := 55) rfl (hb hby d2_50) (by decide) (by decide) k) ?_
      refine own_leave X0 Bd.notSynchronized (v := some (.long (-9223372036854775808 : Int64))) (fun h => by rw [Bd.returns] at h; cases h) (fun fs hr => retOut X0 hx Bd.returns rfl (Or.inr (Or.inl ⟨rfl, rfl, _, rfl⟩)) (hb hby d2_55) hr) ?_ (by decide) (by decide)
      refine ⟨?_, N0, e0⟩
      show some (Value.long _) = some (Value.long _); unfold own_f2; rw [if_neg hc16_10, if_pos hc36_11]
    · refine own_via (s₁.setTop (mkF m 39 #[.val (.long p0), .second, .val (.long p1), .second, .val (.long (p0 + p1)), .second, .val (.int (0 : Int32))] [])) (fun t k => XS.ifNo X0.here hx rfl (hb hby d2_36) rfl ((if0 _ _).trans (feq (fun q => hc36_11 ((lw_eq p0 (-9223372036854775808 : Int64)).mp q))).1) k) ?_
      refine own_via (s₁.setTop (mkF m 40 #[.val (.long p0), .second, .val (.long p1), .second, .val (.long (p0 + p1)), .second, .val (.int (0 : Int32))] [(.long p1)])) (fun t k => XS.lloadN X0.here hx rfl (hb hby d2_39) rfl  k) ?_
      refine own_via (s₁.setTop (mkF m 43 #[.val (.long p0), .second, .val (.long p1), .second, .val (.long (p0 + p1)), .second, .val (.int (0 : Int32))] [(.long (-9223372036854775808 : Int64)), (.long p1)])) (fun t k => X0.ldc2Long hx hown (mvT hZ (hw _ (List.mem_of_getElem? (i := 8) rfl))) (g := (mkF m 40 #[.val (.long p0), .second, .val (.long p1), .second, .val (.long (p0 + p1)), .second, .val (.int (0 : Int32))] [(.long p1)])) rfl (hb hby d2_40) _ k) ?_
      refine own_via (s₁.setTop (mkF m 44 #[.val (.long p0), .second, .val (.long p1), .second, .val (.long (p0 + p1)), .second, .val (.int (0 : Int32))] [(.int (lcmpW p1 (-9223372036854775808 : Int64)))])) (fun t k => XS.lcmp X0.here hx rfl (hb hby d2_43) rfl k) ?_
      by_cases hc44_12 : p1 = (-9223372036854775808 : Int64)
      · refine own_via (s₁.setTop (mkF m 47 #[.val (.long p0), .second, .val (.long p1), .second, .val (.long (p0 + p1)), .second, .val (.int (0 : Int32))] [])) (fun t k => XS.ifNo X0.here hx rfl (hb hby d2_44) rfl ((if0 _ _).trans (teq ((lw_eq p1 (-9223372036854775808 : Int64)).mpr hc44_12)).2) k) ?_
        refine own_via (s₁.setTop (mkF m 50 #[.val (.long p0), .second, .val (.long p1), .second, .val (.long (p0 + p1)), .second, .val (.int (0 : Int32))] [(.long (-9223372036854775808 : Int64))])) (fun t k => X0.ldc2Long hx hown (mvT hZ (hw _ (List.mem_of_getElem? (i := 8) rfl))) (g := (mkF m 47 #[.val (.long p0), .second, .val (.long p1), .second, .val (.long (p0 + p1)), .second, .val (.int (0 : Int32))] [])) rfl (hb hby d2_47) _ k) ?_
        refine own_via (s₁.setTop (mkF m 55 #[.val (.long p0), .second, .val (.long p1), .second, .val (.long (p0 + p1)), .second, .val (.int (0 : Int32))] [(.long (-9223372036854775808 : Int64))])) (fun t k => XS.goto X0.here hx rfl (pc0 := 50) (pc' := 55) rfl (hb hby d2_50) (by decide) (by decide) k) ?_
        refine own_leave X0 Bd.notSynchronized (v := some (.long (-9223372036854775808 : Int64))) (fun h => by rw [Bd.returns] at h; cases h) (fun fs hr => retOut X0 hx Bd.returns rfl (Or.inr (Or.inl ⟨rfl, rfl, _, rfl⟩)) (hb hby d2_55) hr) ?_ (by decide) (by decide)
        refine ⟨?_, N0, e0⟩
        show some (Value.long _) = some (Value.long _); unfold own_f2; rw [if_neg hc16_10, if_neg hc36_11, if_pos hc44_12]
      · refine own_via (s₁.setTop (mkF m 53 #[.val (.long p0), .second, .val (.long p1), .second, .val (.long (p0 + p1)), .second, .val (.int (0 : Int32))] [])) (fun t k => XS.ifYes X0.here hx rfl (pc0 := 44) (pc' := 53) rfl (hb hby d2_44) rfl ((if0 _ _).trans (feq (fun q => hc44_12 ((lw_eq p1 (-9223372036854775808 : Int64)).mp q))).2) (by decide) (by decide) k) ?_
        refine own_via (s₁.setTop (mkF m 55 #[.val (.long p0), .second, .val (.long p1), .second, .val (.long (p0 + p1)), .second, .val (.int (0 : Int32))] [(.long (p0 + p1))])) (fun t k => XS.lload X0.here hx rfl (hb hby d2_53) rfl  k) ?_
        refine own_leave X0 Bd.notSynchronized (v := some (.long (p0 + p1))) (fun h => by rw [Bd.returns] at h; cases h) (fun fs hr => retOut X0 hx Bd.returns rfl (Or.inr (Or.inl ⟨rfl, rfl, _, rfl⟩)) (hb hby d2_55) hr) ?_ (by decide) (by decide)
        refine ⟨?_, N0, e0⟩
        show some (Value.long _) = some (Value.long _); unfold own_f2; rw [if_neg hc16_10, if_neg hc36_11, if_neg hc44_12]
def own_f3 (p0 : Int64) (p1 : Int64) : Int64 := (if p0 = (-9223372036854775808 : Int64) then (-9223372036854775808 : Int64) else (if p1 = (-9223372036854775808 : Int64) then (-9223372036854775808 : Int64) else (if (0 : Int64) < p1 then (if ((9223372036854775807 : Int64) - p1) < p0 then (-9223372036854775808 : Int64) else (if p1 < (0 : Int64) then (if p0 < (((-9223372036854775808 : Int64) + (1 : Int64)) - p1) then (-9223372036854775808 : Int64) else (p0 + p1)) else (p0 + p1))) else (if p1 < (0 : Int64) then (if p0 < (((-9223372036854775808 : Int64) + (1 : Int64)) - p1) then (-9223372036854775808 : Int64) else (p0 + p1)) else (p0 + p1)))))
theorem d3_0 : decode method_3_code 0 = .ok (.ldc2_w 13, 3) := by decide +kernel
theorem d3_3 : decode method_3_code 3 = .ok (.lstore 4, 2) := by decide +kernel
theorem d3_5 : decode method_3_code 5 = .ok (.ldc2_w 9, 3) := by decide +kernel
theorem d3_8 : decode method_3_code 8 = .ok (.lstore 6, 2) := by decide +kernel
theorem d3_10 : decode method_3_code 10 = .ok (.lload_n 0, 1) := by decide +kernel
theorem d3_11 : decode method_3_code 11 = .ok (.lload 4, 2) := by decide +kernel
theorem d3_13 : decode method_3_code 13 = .ok (.lcmp, 1) := by decide +kernel
theorem d3_14 : decode method_3_code 14 = .ok (.ifCond .eq 10, 3) := by decide +kernel
theorem d3_17 : decode method_3_code 17 = .ok (.lload_n 2, 1) := by decide +kernel
theorem d3_18 : decode method_3_code 18 = .ok (.lload 4, 2) := by decide +kernel
theorem d3_20 : decode method_3_code 20 = .ok (.lcmp, 1) := by decide +kernel
theorem d3_21 : decode method_3_code 21 = .ok (.ifCond .ne 6, 3) := by decide +kernel
theorem d3_24 : decode method_3_code 24 = .ok (.lload 4, 2) := by decide +kernel
theorem d3_26 : decode method_3_code 26 = .ok (.lreturn, 1) := by decide +kernel
theorem d3_27 : decode method_3_code 27 = .ok (.lload_n 2, 1) := by decide +kernel
theorem d3_28 : decode method_3_code 28 = .ok (.lconst 0, 1) := by decide +kernel
theorem d3_29 : decode method_3_code 29 = .ok (.lcmp, 1) := by decide +kernel
theorem d3_30 : decode method_3_code 30 = .ok (.ifCond .le 15, 3) := by decide +kernel
theorem d3_33 : decode method_3_code 33 = .ok (.lload_n 0, 1) := by decide +kernel
theorem d3_34 : decode method_3_code 34 = .ok (.lload 6, 2) := by decide +kernel
theorem d3_36 : decode method_3_code 36 = .ok (.lload_n 2, 1) := by decide +kernel
theorem d3_37 : decode method_3_code 37 = .ok (.lsub, 1) := by decide +kernel
theorem d3_38 : decode method_3_code 38 = .ok (.lcmp, 1) := by decide +kernel
theorem d3_39 : decode method_3_code 39 = .ok (.ifCond .le 6, 3) := by decide +kernel
theorem d3_42 : decode method_3_code 42 = .ok (.lload 4, 2) := by decide +kernel
theorem d3_44 : decode method_3_code 44 = .ok (.lreturn, 1) := by decide +kernel
theorem d3_45 : decode method_3_code 45 = .ok (.lload_n 2, 1) := by decide +kernel
theorem d3_46 : decode method_3_code 46 = .ok (.lconst 0, 1) := by decide +kernel
theorem d3_47 : decode method_3_code 47 = .ok (.lcmp, 1) := by decide +kernel
theorem d3_48 : decode method_3_code 48 = .ok (.ifCond .ge 17, 3) := by decide +kernel
theorem d3_51 : decode method_3_code 51 = .ok (.lload_n 0, 1) := by decide +kernel
theorem d3_52 : decode method_3_code 52 = .ok (.lload 4, 2) := by decide +kernel
theorem d3_54 : decode method_3_code 54 = .ok (.lconst 1, 1) := by decide +kernel
theorem d3_55 : decode method_3_code 55 = .ok (.ladd, 1) := by decide +kernel
theorem d3_56 : decode method_3_code 56 = .ok (.lload_n 2, 1) := by decide +kernel
theorem d3_57 : decode method_3_code 57 = .ok (.lsub, 1) := by decide +kernel
theorem d3_58 : decode method_3_code 58 = .ok (.lcmp, 1) := by decide +kernel
theorem d3_59 : decode method_3_code 59 = .ok (.ifCond .ge 6, 3) := by decide +kernel
theorem d3_62 : decode method_3_code 62 = .ok (.lload 4, 2) := by decide +kernel
theorem d3_64 : decode method_3_code 64 = .ok (.lreturn, 1) := by decide +kernel
theorem d3_65 : decode method_3_code 65 = .ok (.lload_n 0, 1) := by decide +kernel
theorem d3_66 : decode method_3_code 66 = .ok (.lload_n 2, 1) := by decide +kernel
theorem d3_67 : decode method_3_code 67 = .ok (.ladd, 1) := by decide +kernel
theorem d3_68 : decode method_3_code 68 = .ok (.lreturn, 1) := by decide +kernel
theorem ef_3 (m : MethodId) (p0 : Int64) (p1 : Int64) : entryFrame m #[(.long p0), (.long p1)] 8 = mkF m 0 #[.val (.long p0), .second, .val (.long p1), .second, .unset, .unset, .unset, .unset] [] := by first | (simp [entryFrame, mkF, argsToLocals, Value.category]; done) | rfl
set_option maxRecDepth 65536 in
set_option maxHeartbeats 40000000 in
theorem rm3 (l : Launch) (Z : State) (a0 : Array Value) (hw : ∀ d ∈ tables_1, d.before a0 Z = true) (ws : List Jvm.Cond) (p0 : Int64) (p1 : Int64) (h0 : Heap) (n0 : Nat) (Z0 : n0 ≤ h0.size)  :
    MetFree l (⟨"com/example/denary/denary/arith/LongArithmeticAddPinLaw", "reference", "(JJ)J"⟩ : MethodName) (head1 (Jvm.Cond.code (⟨"com/example/denary/denary/arith/LongArithmeticAddPinLaw", "reference", "(JJ)J"⟩ : MethodName) method_3_code 8 (some .long) :: ws) ({ frames := 0, cells := 0, slots := 0, locals := 0 } : Room)) (fun a U => a = #[(.long p0), (.long p1)] ∧ Z.Warmed39 U.vm ∧ U.heap = h0) (fun _ _ _ _ _ => True) (fun _ U o U' => ∃ v L, o = .returned v ∧ (own_Q (some (.long (own_f3 p0 p1))) h0 n0) v U'.heap L ∧ FrameEnd U o U' L ({ frames := 0, cells := 0, slots := 0, locals := 0 } : Room).cells ({ frames := 0, cells := 0, slots := 0, locals := 0 } : Room).slots) := by
  refine MetFree.of_bodySF (plainFor_of_name pn_com_example_denary_denary_arith_LongArithmeticAddPinLaw) hisR ?_
  intro p e s m args below meth c s₁ Bd hml0 hP hK
  obtain ⟨rfl, hZ, hh⟩ := hP
  have hx := Bd.exec
  have hby := Bd.bytes
  have hml : c.maxLocals = 8 := hml0
  have hown : s.vm.findClass "com/example/denary/denary/arith/LongArithmeticAddPinLaw" = some m.cls := findClass_of_methodNamed Bd.named
  have hnm := (name_of_methodNamed Bd.named Bd.method).1
  have X0 : Stand p l e ({ frames := 0, cells := 0, slots := 0, locals := 0 } : Room) s m #[(.long p0), (.long p1)] below meth c s₁ [] 0 0 := Stand.of_body Bd
  have e0 : s₁.heap = h0 := by rw [← hh, Bd.state]; rfl
  have N0 := Fr.nil n0
  refine own_body (QQ := (own_Q (some (.long (own_f3 p0 p1))) h0 n0)) (ef_3 m p0 p1) ?_
  refine own_via (s₁.setTop (mkF m 3 #[.val (.long p0), .second, .val (.long p1), .second, .unset, .unset, .unset, .unset] [(.long (-9223372036854775808 : Int64))])) (fun t k => X0.ldc2Long hx hown (mvT hZ (hw _ (List.mem_of_getElem? (i := 12) rfl))) (g := (mkF m 0 #[.val (.long p0), .second, .val (.long p1), .second, .unset, .unset, .unset, .unset] [])) rfl (hb hby d3_0) _ k) ?_
  refine own_via (s₁.setTop (mkF m 5 #[.val (.long p0), .second, .val (.long p1), .second, .val (.long (-9223372036854775808 : Int64)), .second, .unset, .unset] [])) (fun t k => XS.lstore X0.here hx rfl (hb hby d3_3) rfl (l' := #[.val (.long p0), .second, .val (.long p1), .second, .val (.long (-9223372036854775808 : Int64)), .second, .unset, .unset]) rfl k) ?_
  refine own_via (s₁.setTop (mkF m 8 #[.val (.long p0), .second, .val (.long p1), .second, .val (.long (-9223372036854775808 : Int64)), .second, .unset, .unset] [(.long (9223372036854775807 : Int64))])) (fun t k => X0.ldc2Long hx hown (mvT hZ (hw _ (List.mem_of_getElem? (i := 13) rfl))) (g := (mkF m 5 #[.val (.long p0), .second, .val (.long p1), .second, .val (.long (-9223372036854775808 : Int64)), .second, .unset, .unset] [])) rfl (hb hby d3_5) _ k) ?_
  refine own_via (s₁.setTop (mkF m 10 #[.val (.long p0), .second, .val (.long p1), .second, .val (.long (-9223372036854775808 : Int64)), .second, .val (.long (9223372036854775807 : Int64)), .second] [])) (fun t k => XS.lstore X0.here hx rfl (hb hby d3_8) rfl (l' := #[.val (.long p0), .second, .val (.long p1), .second, .val (.long (-9223372036854775808 : Int64)), .second, .val (.long (9223372036854775807 : Int64)), .second]) rfl k) ?_
  refine own_via (s₁.setTop (mkF m 11 #[.val (.long p0), .second, .val (.long p1), .second, .val (.long (-9223372036854775808 : Int64)), .second, .val (.long (9223372036854775807 : Int64)), .second] [(.long p0)])) (fun t k => XS.lloadN X0.here hx rfl (hb hby d3_10) rfl  k) ?_
  refine own_via (s₁.setTop (mkF m 13 #[.val (.long p0), .second, .val (.long p1), .second, .val (.long (-9223372036854775808 : Int64)), .second, .val (.long (9223372036854775807 : Int64)), .second] [(.long (-9223372036854775808 : Int64)), (.long p0)])) (fun t k => XS.lload X0.here hx rfl (hb hby d3_11) rfl  k) ?_
  refine own_via (s₁.setTop (mkF m 14 #[.val (.long p0), .second, .val (.long p1), .second, .val (.long (-9223372036854775808 : Int64)), .second, .val (.long (9223372036854775807 : Int64)), .second] [(.int (lcmpW p0 (-9223372036854775808 : Int64)))])) (fun t k => XS.lcmp X0.here hx rfl (hb hby d3_13) rfl k) ?_
  by_cases hc14_21 : p0 = (-9223372036854775808 : Int64)
  · refine own_via (s₁.setTop (mkF m 24 #[.val (.long p0), .second, .val (.long p1), .second, .val (.long (-9223372036854775808 : Int64)), .second, .val (.long (9223372036854775807 : Int64)), .second] [])) (fun t k => XS.ifYes X0.here hx rfl (pc0 := 14) (pc' := 24) rfl (hb hby d3_14) rfl ((if0 _ _).trans (teq ((lw_eq p0 (-9223372036854775808 : Int64)).mpr hc14_21)).1) (by decide) (by decide) k) ?_
    refine own_via (s₁.setTop (mkF m 26 #[.val (.long p0), .second, .val (.long p1), .second, .val (.long (-9223372036854775808 : Int64)), .second, .val (.long (9223372036854775807 : Int64)), .second] [(.long (-9223372036854775808 : Int64))])) (fun t k => XS.lload X0.here hx rfl (hb hby d3_24) rfl  k) ?_
    refine own_leave X0 Bd.notSynchronized (v := some (.long (-9223372036854775808 : Int64))) (fun h => by rw [Bd.returns] at h; cases h) (fun fs hr => retOut X0 hx Bd.returns rfl (Or.inr (Or.inl ⟨rfl, rfl, _, rfl⟩)) (hb hby d3_26) hr) ?_ (by decide) (by decide)
    refine ⟨?_, N0, e0⟩
    show some (Value.long _) = some (Value.long _); unfold own_f3; rw [if_pos hc14_21]
  · refine own_via (s₁.setTop (mkF m 17 #[.val (.long p0), .second, .val (.long p1), .second, .val (.long (-9223372036854775808 : Int64)), .second, .val (.long (9223372036854775807 : Int64)), .second] [])) (fun t k => XS.ifNo X0.here hx rfl (hb hby d3_14) rfl ((if0 _ _).trans (feq (fun q => hc14_21 ((lw_eq p0 (-9223372036854775808 : Int64)).mp q))).1) k) ?_
    refine own_via (s₁.setTop (mkF m 18 #[.val (.long p0), .second, .val (.long p1), .second, .val (.long (-9223372036854775808 : Int64)), .second, .val (.long (9223372036854775807 : Int64)), .second] [(.long p1)])) (fun t k => XS.lloadN X0.here hx rfl (hb hby d3_17) rfl  k) ?_
    refine own_via (s₁.setTop (mkF m 20 #[.val (.long p0), .second, .val (.long p1), .second, .val (.long (-9223372036854775808 : Int64)), .second, .val (.long (9223372036854775807 : Int64)), .second] [(.long (-9223372036854775808 : Int64)), (.long p1)])) (fun t k => XS.lload X0.here hx rfl (hb hby d3_18) rfl  k) ?_
    refine own_via (s₁.setTop (mkF m 21 #[.val (.long p0), .second, .val (.long p1), .second, .val (.long (-9223372036854775808 : Int64)), .second, .val (.long (9223372036854775807 : Int64)), .second] [(.int (lcmpW p1 (-9223372036854775808 : Int64)))])) (fun t k => XS.lcmp X0.here hx rfl (hb hby d3_20) rfl k) ?_
    by_cases hc21_22 : p1 = (-9223372036854775808 : Int64)
    · refine own_via (s₁.setTop (mkF m 24 #[.val (.long p0), .second, .val (.long p1), .second, .val (.long (-9223372036854775808 : Int64)), .second, .val (.long (9223372036854775807 : Int64)), .second] [])) (fun t k => XS.ifNo X0.here hx rfl (hb hby d3_21) rfl ((if0 _ _).trans (teq ((lw_eq p1 (-9223372036854775808 : Int64)).mpr hc21_22)).2) k) ?_
      refine own_via (s₁.setTop (mkF m 26 #[.val (.long p0), .second, .val (.long p1), .second, .val (.long (-9223372036854775808 : Int64)), .second, .val (.long (9223372036854775807 : Int64)), .second] [(.long (-9223372036854775808 : Int64))])) (fun t k => XS.lload X0.here hx rfl (hb hby d3_24) rfl  k) ?_
      refine own_leave X0 Bd.notSynchronized (v := some (.long (-9223372036854775808 : Int64))) (fun h => by rw [Bd.returns] at h; cases h) (fun fs hr => retOut X0 hx Bd.returns rfl (Or.inr (Or.inl ⟨rfl, rfl, _, rfl⟩)) (hb hby d3_26) hr) ?_ (by decide) (by decide)
      refine ⟨?_, N0, e0⟩
      show some (Value.long _) = some (Value.long _); unfold own_f3; rw [if_neg hc14_21, if_pos hc21_22]
    · refine own_via (s₁.setTop (mkF m 27 #[.val (.long p0), .second, .val (.long p1), .second, .val (.long (-9223372036854775808 : Int64)), .second, .val (.long (9223372036854775807 : Int64)), .second] [])) (fun t k => XS.ifYes X0.here hx rfl (pc0 := 21) (pc' := 27) rfl (hb hby d3_21) rfl ((if0 _ _).trans (feq (fun q => hc21_22 ((lw_eq p1 (-9223372036854775808 : Int64)).mp q))).2) (by decide) (by decide) k) ?_
      refine own_via (s₁.setTop (mkF m 28 #[.val (.long p0), .second, .val (.long p1), .second, .val (.long (-9223372036854775808 : Int64)), .second, .val (.long (9223372036854775807 : Int64)), .second] [(.long p1)])) (fun t k => XS.lloadN X0.here hx rfl (hb hby d3_27) rfl  k) ?_
      refine own_via (s₁.setTop (mkF m 29 #[.val (.long p0), .second, .val (.long p1), .second, .val (.long (-9223372036854775808 : Int64)), .second, .val (.long (9223372036854775807 : Int64)), .second] [(.long (0 : Int64)), (.long p1)])) (fun t k => XS.lconst X0.here hx rfl (hb hby d3_28) k) ?_
      refine own_via (s₁.setTop (mkF m 30 #[.val (.long p0), .second, .val (.long p1), .second, .val (.long (-9223372036854775808 : Int64)), .second, .val (.long (9223372036854775807 : Int64)), .second] [(.int (lcmpW p1 (0 : Int64)))])) (fun t k => XS.lcmp X0.here hx rfl (hb hby d3_29) rfl k) ?_
      by_cases hc30_23 : (0 : Int64) < p1
      · refine own_via (s₁.setTop (mkF m 33 #[.val (.long p0), .second, .val (.long p1), .second, .val (.long (-9223372036854775808 : Int64)), .second, .val (.long (9223372036854775807 : Int64)), .second] [])) (fun t k => XS.ifNo X0.here hx rfl (hb hby d3_30) rfl ((if0 _ _).trans (tlt ((lw_gt p1 (0 : Int64)).mpr hc30_23)).2.2.2) k) ?_
        refine own_via (s₁.setTop (mkF m 34 #[.val (.long p0), .second, .val (.long p1), .second, .val (.long (-9223372036854775808 : Int64)), .second, .val (.long (9223372036854775807 : Int64)), .second] [(.long p0)])) (fun t k => XS.lloadN X0.here hx rfl (hb hby d3_33) rfl  k) ?_
        refine own_via (s₁.setTop (mkF m 36 #[.val (.long p0), .second, .val (.long p1), .second, .val (.long (-9223372036854775808 : Int64)), .second, .val (.long (9223372036854775807 : Int64)), .second] [(.long (9223372036854775807 : Int64)), (.long p0)])) (fun t k => XS.lload X0.here hx rfl (hb hby d3_34) rfl  k) ?_
        refine own_via (s₁.setTop (mkF m 37 #[.val (.long p0), .second, .val (.long p1), .second, .val (.long (-9223372036854775808 : Int64)), .second, .val (.long (9223372036854775807 : Int64)), .second] [(.long p1), (.long (9223372036854775807 : Int64)), (.long p0)])) (fun t k => XS.lloadN X0.here hx rfl (hb hby d3_36) rfl  k) ?_
        refine own_via (s₁.setTop (mkF m 38 #[.val (.long p0), .second, .val (.long p1), .second, .val (.long (-9223372036854775808 : Int64)), .second, .val (.long (9223372036854775807 : Int64)), .second] [(.long ((9223372036854775807 : Int64) - p1)), (.long p0)])) (fun t k => XS.lsub X0.here hx rfl (hb hby d3_37) rfl k) ?_
        refine own_via (s₁.setTop (mkF m 39 #[.val (.long p0), .second, .val (.long p1), .second, .val (.long (-9223372036854775808 : Int64)), .second, .val (.long (9223372036854775807 : Int64)), .second] [(.int (lcmpW p0 ((9223372036854775807 : Int64) - p1)))])) (fun t k => XS.lcmp X0.here hx rfl (hb hby d3_38) rfl k) ?_
        by_cases hc39_24 : ((9223372036854775807 : Int64) - p1) < p0
        · refine own_via (s₁.setTop (mkF m 42 #[.val (.long p0), .second, .val (.long p1), .second, .val (.long (-9223372036854775808 : Int64)), .second, .val (.long (9223372036854775807 : Int64)), .second] [])) (fun t k => XS.ifNo X0.here hx rfl (hb hby d3_39) rfl ((if0 _ _).trans (tlt ((lw_gt p0 ((9223372036854775807 : Int64) - p1)).mpr hc39_24)).2.2.2) k) ?_
          refine own_via (s₁.setTop (mkF m 44 #[.val (.long p0), .second, .val (.long p1), .second, .val (.long (-9223372036854775808 : Int64)), .second, .val (.long (9223372036854775807 : Int64)), .second] [(.long (-9223372036854775808 : Int64))])) (fun t k => XS.lload X0.here hx rfl (hb hby d3_42) rfl  k) ?_
          refine own_leave X0 Bd.notSynchronized (v := some (.long (-9223372036854775808 : Int64))) (fun h => by rw [Bd.returns] at h; cases h) (fun fs hr => retOut X0 hx Bd.returns rfl (Or.inr (Or.inl ⟨rfl, rfl, _, rfl⟩)) (hb hby d3_44) hr) ?_ (by decide) (by decide)
          refine ⟨?_, N0, e0⟩
          show some (Value.long _) = some (Value.long _); unfold own_f3; rw [if_neg hc14_21, if_neg hc21_22, if_pos hc30_23, if_pos hc39_24]
        · refine own_via (s₁.setTop (mkF m 45 #[.val (.long p0), .second, .val (.long p1), .second, .val (.long (-9223372036854775808 : Int64)), .second, .val (.long (9223372036854775807 : Int64)), .second] [])) (fun t k => XS.ifYes X0.here hx rfl (pc0 := 39) (pc' := 45) rfl (hb hby d3_39) rfl ((if0 _ _).trans (flt (fun q => hc39_24 ((lw_gt p0 ((9223372036854775807 : Int64) - p1)).mp q))).2.2.2) (by decide) (by decide) k) ?_
          refine own_via (s₁.setTop (mkF m 46 #[.val (.long p0), .second, .val (.long p1), .second, .val (.long (-9223372036854775808 : Int64)), .second, .val (.long (9223372036854775807 : Int64)), .second] [(.long p1)])) (fun t k => XS.lloadN X0.here hx rfl (hb hby d3_45) rfl  k) ?_
          refine own_via (s₁.setTop (mkF m 47 #[.val (.long p0), .second, .val (.long p1), .second, .val (.long (-9223372036854775808 : Int64)), .second, .val (.long (9223372036854775807 : Int64)), .second] [(.long (0 : Int64)), (.long p1)])) (fun t k => XS.lconst X0.here hx rfl (hb hby d3_46) k) ?_
          refine own_via (s₁.setTop (mkF m 48 #[.val (.long p0), .second, .val (.long p1), .second, .val (.long (-9223372036854775808 : Int64)), .second, .val (.long (9223372036854775807 : Int64)), .second] [(.int (lcmpW p1 (0 : Int64)))])) (fun t k => XS.lcmp X0.here hx rfl (hb hby d3_47) rfl k) ?_
          by_cases hc48_25 : p1 < (0 : Int64)
          · refine own_via (s₁.setTop (mkF m 51 #[.val (.long p0), .second, .val (.long p1), .second, .val (.long (-9223372036854775808 : Int64)), .second, .val (.long (9223372036854775807 : Int64)), .second] [])) (fun t k => XS.ifNo X0.here hx rfl (hb hby d3_48) rfl ((if0 _ _).trans (tlt ((lw_lt p1 (0 : Int64)).mpr hc48_25)).2.1) k) ?_
            refine own_via (s₁.setTop (mkF m 52 #[.val (.long p0), .second, .val (.long p1), .second, .val (.long (-9223372036854775808 : Int64)), .second, .val (.long (9223372036854775807 : Int64)), .second] [(.long p0)])) (fun t k => XS.lloadN X0.here hx rfl (hb hby d3_51) rfl  k) ?_
            refine own_via (s₁.setTop (mkF m 54 #[.val (.long p0), .second, .val (.long p1), .second, .val (.long (-9223372036854775808 : Int64)), .second, .val (.long (9223372036854775807 : Int64)), .second] [(.long (-9223372036854775808 : Int64)), (.long p0)])) (fun t k => XS.lload X0.here hx rfl (hb hby d3_52) rfl  k) ?_
            refine own_via (s₁.setTop (mkF m 55 #[.val (.long p0), .second, .val (.long p1), .second, .val (.long (-9223372036854775808 : Int64)), .second, .val (.long (9223372036854775807 : Int64)), .second] [(.long (1 : Int64)), (.long (-9223372036854775808 : Int64)), (.long p0)])) (fun t k => XS.lconst X0.here hx rfl (hb hby d3_54) k) ?_
            refine own_via (s₁.setTop (mkF m 56 #[.val (.long p0), .second, .val (.long p1), .second, .val (.long (-9223372036854775808 : Int64)), .second, .val (.long (9223372036854775807 : Int64)), .second] [(.long ((-9223372036854775808 : Int64) + (1 : Int64))), (.long p0)])) (fun t k => XS.ladd X0.here hx rfl (hb hby d3_55) rfl k) ?_
            refine own_via (s₁.setTop (mkF m 57 #[.val (.long p0), .second, .val (.long p1), .second, .val (.long (-9223372036854775808 : Int64)), .second, .val (.long (9223372036854775807 : Int64)), .second] [(.long p1), (.long ((-9223372036854775808 : Int64) + (1 : Int64))), (.long p0)])) (fun t k => XS.lloadN X0.here hx rfl (hb hby d3_56) rfl  k) ?_
            refine own_via (s₁.setTop (mkF m 58 #[.val (.long p0), .second, .val (.long p1), .second, .val (.long (-9223372036854775808 : Int64)), .second, .val (.long (9223372036854775807 : Int64)), .second] [(.long (((-9223372036854775808 : Int64) + (1 : Int64)) - p1)), (.long p0)])) (fun t k => XS.lsub X0.here hx rfl (hb hby d3_57) rfl k) ?_
            refine own_via (s₁.setTop (mkF m 59 #[.val (.long p0), .second, .val (.long p1), .second, .val (.long (-9223372036854775808 : Int64)), .second, .val (.long (9223372036854775807 : Int64)), .second] [(.int (lcmpW p0 (((-9223372036854775808 : Int64) + (1 : Int64)) - p1)))])) (fun t k => XS.lcmp X0.here hx rfl (hb hby d3_58) rfl k) ?_
            by_cases hc59_26 : p0 < (((-9223372036854775808 : Int64) + (1 : Int64)) - p1)
            · refine own_via (s₁.setTop (mkF m 62 #[.val (.long p0), .second, .val (.long p1), .second, .val (.long (-9223372036854775808 : Int64)), .second, .val (.long (9223372036854775807 : Int64)), .second] [])) (fun t k => XS.ifNo X0.here hx rfl (hb hby d3_59) rfl ((if0 _ _).trans (tlt ((lw_lt p0 (((-9223372036854775808 : Int64) + (1 : Int64)) - p1)).mpr hc59_26)).2.1) k) ?_
              refine own_via (s₁.setTop (mkF m 64 #[.val (.long p0), .second, .val (.long p1), .second, .val (.long (-9223372036854775808 : Int64)), .second, .val (.long (9223372036854775807 : Int64)), .second] [(.long (-9223372036854775808 : Int64))])) (fun t k => XS.lload X0.here hx rfl (hb hby d3_62) rfl  k) ?_
              refine own_leave X0 Bd.notSynchronized (v := some (.long (-9223372036854775808 : Int64))) (fun h => by rw [Bd.returns] at h; cases h) (fun fs hr => retOut X0 hx Bd.returns rfl (Or.inr (Or.inl ⟨rfl, rfl, _, rfl⟩)) (hb hby d3_64) hr) ?_ (by decide) (by decide)
              refine ⟨?_, N0, e0⟩
              show some (Value.long _) = some (Value.long _); unfold own_f3; rw [if_neg hc14_21, if_neg hc21_22, if_pos hc30_23, if_neg hc39_24, if_pos hc48_25, if_pos hc59_26]
            · refine own_via (s₁.setTop (mkF m 65 #[.val (.long p0), .second, .val (.long p1), .second, .val (.long (-9223372036854775808 : Int64)), .second, .val (.long (9223372036854775807 : Int64)), .second] [])) (fun t k => XS.ifYes X0.here hx rfl (pc0 := 59) (pc' := 65) rfl (hb hby d3_59) rfl ((if0 _ _).trans (flt (fun q => hc59_26 ((lw_lt p0 (((-9223372036854775808 : Int64) + (1 : Int64)) - p1)).mp q))).2.1) (by decide) (by decide) k) ?_
              refine own_via (s₁.setTop (mkF m 66 #[.val (.long p0), .second, .val (.long p1), .second, .val (.long (-9223372036854775808 : Int64)), .second, .val (.long (9223372036854775807 : Int64)), .second] [(.long p0)])) (fun t k => XS.lloadN X0.here hx rfl (hb hby d3_65) rfl  k) ?_
              refine own_via (s₁.setTop (mkF m 67 #[.val (.long p0), .second, .val (.long p1), .second, .val (.long (-9223372036854775808 : Int64)), .second, .val (.long (9223372036854775807 : Int64)), .second] [(.long p1), (.long p0)])) (fun t k => XS.lloadN X0.here hx rfl (hb hby d3_66) rfl  k) ?_
              refine own_via (s₁.setTop (mkF m 68 #[.val (.long p0), .second, .val (.long p1), .second, .val (.long (-9223372036854775808 : Int64)), .second, .val (.long (9223372036854775807 : Int64)), .second] [(.long (p0 + p1))])) (fun t k => XS.ladd X0.here hx rfl (hb hby d3_67) rfl k) ?_
              refine own_leave X0 Bd.notSynchronized (v := some (.long (p0 + p1))) (fun h => by rw [Bd.returns] at h; cases h) (fun fs hr => retOut X0 hx Bd.returns rfl (Or.inr (Or.inl ⟨rfl, rfl, _, rfl⟩)) (hb hby d3_68) hr) ?_ (by decide) (by decide)
              refine ⟨?_, N0, e0⟩
              show some (Value.long _) = some (Value.long _); unfold own_f3; rw [if_neg hc14_21, if_neg hc21_22, if_pos hc30_23, if_neg hc39_24, if_pos hc48_25, if_neg hc59_26]
          · refine own_via (s₁.setTop (mkF m 65 #[.val (.long p0), .second, .val (.long p1), .second, .val (.long (-9223372036854775808 : Int64)), .second, .val (.long (9223372036854775807 : Int64)), .second] [])) (fun t k => XS.ifYes X0.here hx rfl (pc0 := 48) (pc' := 65) rfl (hb hby d3_48) rfl ((if0 _ _).trans (flt (fun q => hc48_25 ((lw_lt p1 (0 : Int64)).mp q))).2.1) (by decide) (by decide) k) ?_
            refine own_via (s₁.setTop (mkF m 66 #[.val (.long p0), .second, .val (.long p1), .second, .val (.long (-9223372036854775808 : Int64)), .second, .val (.long (9223372036854775807 : Int64)), .second] [(.long p0)])) (fun t k => XS.lloadN X0.here hx rfl (hb hby d3_65) rfl  k) ?_
            refine own_via (s₁.setTop (mkF m 67 #[.val (.long p0), .second, .val (.long p1), .second, .val (.long (-9223372036854775808 : Int64)), .second, .val (.long (9223372036854775807 : Int64)), .second] [(.long p1), (.long p0)])) (fun t k => XS.lloadN X0.here hx rfl (hb hby d3_66) rfl  k) ?_
            refine own_via (s₁.setTop (mkF m 68 #[.val (.long p0), .second, .val (.long p1), .second, .val (.long (-9223372036854775808 : Int64)), .second, .val (.long (9223372036854775807 : Int64)), .second] [(.long (p0 + p1))])) (fun t k => XS.ladd X0.here hx rfl (hb hby d3_67) rfl k) ?_
            refine own_leave X0 Bd.notSynchronized (v := some (.long (p0 + p1))) (fun h => by rw [Bd.returns] at h; cases h) (fun fs hr => retOut X0 hx Bd.returns rfl (Or.inr (Or.inl ⟨rfl, rfl, _, rfl⟩)) (hb hby d3_68) hr) ?_ (by decide) (by decide)
            refine ⟨?_, N0, e0⟩
            show some (Value.long _) = some (Value.long _); unfold own_f3; rw [if_neg hc14_21, if_neg hc21_22, if_pos hc30_23, if_neg hc39_24, if_neg hc48_25]
      · refine own_via (s₁.setTop (mkF m 45 #[.val (.long p0), .second, .val (.long p1), .second, .val (.long (-9223372036854775808 : Int64)), .second, .val (.long (9223372036854775807 : Int64)), .second] [])) (fun t k => XS.ifYes X0.here hx rfl (pc0 := 30) (pc' := 45) rfl (hb hby d3_30) rfl ((if0 _ _).trans (flt (fun q => hc30_23 ((lw_gt p1 (0 : Int64)).mp q))).2.2.2) (by decide) (by decide) k) ?_
        refine own_via (s₁.setTop (mkF m 46 #[.val (.long p0), .second, .val (.long p1), .second, .val (.long (-9223372036854775808 : Int64)), .second, .val (.long (9223372036854775807 : Int64)), .second] [(.long p1)])) (fun t k => XS.lloadN X0.here hx rfl (hb hby d3_45) rfl  k) ?_
        refine own_via (s₁.setTop (mkF m 47 #[.val (.long p0), .second, .val (.long p1), .second, .val (.long (-9223372036854775808 : Int64)), .second, .val (.long (9223372036854775807 : Int64)), .second] [(.long (0 : Int64)), (.long p1)])) (fun t k => XS.lconst X0.here hx rfl (hb hby d3_46) k) ?_
        refine own_via (s₁.setTop (mkF m 48 #[.val (.long p0), .second, .val (.long p1), .second, .val (.long (-9223372036854775808 : Int64)), .second, .val (.long (9223372036854775807 : Int64)), .second] [(.int (lcmpW p1 (0 : Int64)))])) (fun t k => XS.lcmp X0.here hx rfl (hb hby d3_47) rfl k) ?_
        by_cases hc48_27 : p1 < (0 : Int64)
        · refine own_via (s₁.setTop (mkF m 51 #[.val (.long p0), .second, .val (.long p1), .second, .val (.long (-9223372036854775808 : Int64)), .second, .val (.long (9223372036854775807 : Int64)), .second] [])) (fun t k => XS.ifNo X0.here hx rfl (hb hby d3_48) rfl ((if0 _ _).trans (tlt ((lw_lt p1 (0 : Int64)).mpr hc48_27)).2.1) k) ?_
          refine own_via (s₁.setTop (mkF m 52 #[.val (.long p0), .second, .val (.long p1), .second, .val (.long (-9223372036854775808 : Int64)), .second, .val (.long (9223372036854775807 : Int64)), .second] [(.long p0)])) (fun t k => XS.lloadN X0.here hx rfl (hb hby d3_51) rfl  k) ?_
          refine own_via (s₁.setTop (mkF m 54 #[.val (.long p0), .second, .val (.long p1), .second, .val (.long (-9223372036854775808 : Int64)), .second, .val (.long (9223372036854775807 : Int64)), .second] [(.long (-9223372036854775808 : Int64)), (.long p0)])) (fun t k => XS.lload X0.here hx rfl (hb hby d3_52) rfl  k) ?_
          refine own_via (s₁.setTop (mkF m 55 #[.val (.long p0), .second, .val (.long p1), .second, .val (.long (-9223372036854775808 : Int64)), .second, .val (.long (9223372036854775807 : Int64)), .second] [(.long (1 : Int64)), (.long (-9223372036854775808 : Int64)), (.long p0)])) (fun t k => XS.lconst X0.here hx rfl (hb hby d3_54) k) ?_
          refine own_via (s₁.setTop (mkF m 56 #[.val (.long p0), .second, .val (.long p1), .second, .val (.long (-9223372036854775808 : Int64)), .second, .val (.long (9223372036854775807 : Int64)), .second] [(.long ((-9223372036854775808 : Int64) + (1 : Int64))), (.long p0)])) (fun t k => XS.ladd X0.here hx rfl (hb hby d3_55) rfl k) ?_
          refine own_via (s₁.setTop (mkF m 57 #[.val (.long p0), .second, .val (.long p1), .second, .val (.long (-9223372036854775808 : Int64)), .second, .val (.long (9223372036854775807 : Int64)), .second] [(.long p1), (.long ((-9223372036854775808 : Int64) + (1 : Int64))), (.long p0)])) (fun t k => XS.lloadN X0.here hx rfl (hb hby d3_56) rfl  k) ?_
          refine own_via (s₁.setTop (mkF m 58 #[.val (.long p0), .second, .val (.long p1), .second, .val (.long (-9223372036854775808 : Int64)), .second, .val (.long (9223372036854775807 : Int64)), .second] [(.long (((-9223372036854775808 : Int64) + (1 : Int64)) - p1)), (.long p0)])) (fun t k => XS.lsub X0.here hx rfl (hb hby d3_57) rfl k) ?_
          refine own_via (s₁.setTop (mkF m 59 #[.val (.long p0), .second, .val (.long p1), .second, .val (.long (-9223372036854775808 : Int64)), .second, .val (.long (9223372036854775807 : Int64)), .second] [(.int (lcmpW p0 (((-9223372036854775808 : Int64) + (1 : Int64)) - p1)))])) (fun t k => XS.lcmp X0.here hx rfl (hb hby d3_58) rfl k) ?_
          by_cases hc59_28 : p0 < (((-9223372036854775808 : Int64) + (1 : Int64)) - p1)
          · refine own_via (s₁.setTop (mkF m 62 #[.val (.long p0), .second, .val (.long p1), .second, .val (.long (-9223372036854775808 : Int64)), .second, .val (.long (9223372036854775807 : Int64)), .second] [])) (fun t k => XS.ifNo X0.here hx rfl (hb hby d3_59) rfl ((if0 _ _).trans (tlt ((lw_lt p0 (((-9223372036854775808 : Int64) + (1 : Int64)) - p1)).mpr hc59_28)).2.1) k) ?_
            refine own_via (s₁.setTop (mkF m 64 #[.val (.long p0), .second, .val (.long p1), .second, .val (.long (-9223372036854775808 : Int64)), .second, .val (.long (9223372036854775807 : Int64)), .second] [(.long (-9223372036854775808 : Int64))])) (fun t k => XS.lload X0.here hx rfl (hb hby d3_62) rfl  k) ?_
            refine own_leave X0 Bd.notSynchronized (v := some (.long (-9223372036854775808 : Int64))) (fun h => by rw [Bd.returns] at h; cases h) (fun fs hr => retOut X0 hx Bd.returns rfl (Or.inr (Or.inl ⟨rfl, rfl, _, rfl⟩)) (hb hby d3_64) hr) ?_ (by decide) (by decide)
            refine ⟨?_, N0, e0⟩
            show some (Value.long _) = some (Value.long _); unfold own_f3; rw [if_neg hc14_21, if_neg hc21_22, if_neg hc30_23, if_pos hc48_27, if_pos hc59_28]
          · refine own_via (s₁.setTop (mkF m 65 #[.val (.long p0), .second, .val (.long p1), .second, .val (.long (-9223372036854775808 : Int64)), .second, .val (.long (9223372036854775807 : Int64)), .second] [])) (fun t k => XS.ifYes X0.here hx rfl (pc0 := 59) (pc' := 65) rfl (hb hby d3_59) rfl ((if0 _ _).trans (flt (fun q => hc59_28 ((lw_lt p0 (((-9223372036854775808 : Int64) + (1 : Int64)) - p1)).mp q))).2.1) (by decide) (by decide) k) ?_
            refine own_via (s₁.setTop (mkF m 66 #[.val (.long p0), .second, .val (.long p1), .second, .val (.long (-9223372036854775808 : Int64)), .second, .val (.long (9223372036854775807 : Int64)), .second] [(.long p0)])) (fun t k => XS.lloadN X0.here hx rfl (hb hby d3_65) rfl  k) ?_
            refine own_via (s₁.setTop (mkF m 67 #[.val (.long p0), .second, .val (.long p1), .second, .val (.long (-9223372036854775808 : Int64)), .second, .val (.long (9223372036854775807 : Int64)), .second] [(.long p1), (.long p0)])) (fun t k => XS.lloadN X0.here hx rfl (hb hby d3_66) rfl  k) ?_
            refine own_via (s₁.setTop (mkF m 68 #[.val (.long p0), .second, .val (.long p1), .second, .val (.long (-9223372036854775808 : Int64)), .second, .val (.long (9223372036854775807 : Int64)), .second] [(.long (p0 + p1))])) (fun t k => XS.ladd X0.here hx rfl (hb hby d3_67) rfl k) ?_
            refine own_leave X0 Bd.notSynchronized (v := some (.long (p0 + p1))) (fun h => by rw [Bd.returns] at h; cases h) (fun fs hr => retOut X0 hx Bd.returns rfl (Or.inr (Or.inl ⟨rfl, rfl, _, rfl⟩)) (hb hby d3_68) hr) ?_ (by decide) (by decide)
            refine ⟨?_, N0, e0⟩
            show some (Value.long _) = some (Value.long _); unfold own_f3; rw [if_neg hc14_21, if_neg hc21_22, if_neg hc30_23, if_pos hc48_27, if_neg hc59_28]
        · refine own_via (s₁.setTop (mkF m 65 #[.val (.long p0), .second, .val (.long p1), .second, .val (.long (-9223372036854775808 : Int64)), .second, .val (.long (9223372036854775807 : Int64)), .second] [])) (fun t k => XS.ifYes X0.here hx rfl (pc0 := 48) (pc' := 65) rfl (hb hby d3_48) rfl ((if0 _ _).trans (flt (fun q => hc48_27 ((lw_lt p1 (0 : Int64)).mp q))).2.1) (by decide) (by decide) k) ?_
          refine own_via (s₁.setTop (mkF m 66 #[.val (.long p0), .second, .val (.long p1), .second, .val (.long (-9223372036854775808 : Int64)), .second, .val (.long (9223372036854775807 : Int64)), .second] [(.long p0)])) (fun t k => XS.lloadN X0.here hx rfl (hb hby d3_65) rfl  k) ?_
          refine own_via (s₁.setTop (mkF m 67 #[.val (.long p0), .second, .val (.long p1), .second, .val (.long (-9223372036854775808 : Int64)), .second, .val (.long (9223372036854775807 : Int64)), .second] [(.long p1), (.long p0)])) (fun t k => XS.lloadN X0.here hx rfl (hb hby d3_66) rfl  k) ?_
          refine own_via (s₁.setTop (mkF m 68 #[.val (.long p0), .second, .val (.long p1), .second, .val (.long (-9223372036854775808 : Int64)), .second, .val (.long (9223372036854775807 : Int64)), .second] [(.long (p0 + p1))])) (fun t k => XS.ladd X0.here hx rfl (hb hby d3_67) rfl k) ?_
          refine own_leave X0 Bd.notSynchronized (v := some (.long (p0 + p1))) (fun h => by rw [Bd.returns] at h; cases h) (fun fs hr => retOut X0 hx Bd.returns rfl (Or.inr (Or.inl ⟨rfl, rfl, _, rfl⟩)) (hb hby d3_68) hr) ?_ (by decide) (by decide)
          refine ⟨?_, N0, e0⟩
          show some (Value.long _) = some (Value.long _); unfold own_f3; rw [if_neg hc14_21, if_neg hc21_22, if_neg hc30_23, if_neg hc48_27]
theorem own_law (a b : Int64) : own_f2 a b = own_f3 a b := by
  have r1 := rng64 a; have r2 := rng64 b
  have h1 := c_ladd a b
  have r3 := rng64 (a + b)
  have h2 := c_lsub (9223372036854775807 : Int64) b
  have r4 := rng64 ((9223372036854775807 : Int64) - b)
  have h3 := c_lsub ((-9223372036854775808 : Int64) + (1 : Int64)) b
  have r5 := rng64 (((-9223372036854775808 : Int64) + (1 : Int64)) - b)
  have h4 := c_xorSL a (a + b)
  have h5 := c_xorSL b (a + b)
  have h6 := c_andSL (a ^^^ (a + b)) (b ^^^ (a + b))
  have e0 : (0 : Int64).toInt = 0 := rfl
  have e1 : (9223372036854775807 : Int64).toInt = 9223372036854775807 := rfl
  have e2 : (-9223372036854775808 : Int64).toInt = -9223372036854775808 := rfl
  have e3 : ((-9223372036854775808 : Int64) + (1 : Int64)).toInt = -9223372036854775807 := rfl
  unfold own_f2 own_f3
  simp only [Int64.lt_iff_toInt_lt, ← Int64.toInt_inj (x := a), ← Int64.toInt_inj (x := b), e0, e1, e2, e3] at *
  generalize hx : a ^^^ (a + b) = x at *
  generalize hy : b ^^^ (a + b) = y at *
  generalize hz : (x &&& y) = z at *
  generalize hs : a + b = s at *
  generalize (9223372036854775807 : Int64) - b = u at *
  generalize ((-9223372036854775808 : Int64) + (1 : Int64)) - b = v at *
  repeat' split
  all_goals first | rfl | (exfalso; omega) | (apply Int64.toInt_inj.mp; have e2 : (-9223372036854775808 : Int64).toInt = -9223372036854775808 := rfl; omega) | (apply Int64.toInt_inj.mp; omega)
def own_Q0 (n0 : Nat) (v : Option Value) (h : Heap) (L : List Loc) : Prop := v = some (.int 1) ∧ Fr n0 L
theorem pd_0 : parseMethodDescriptor "(JI)J" = some ⟨[.long, .int], some .long⟩ := by decide +kernel
theorem pd_1 : parseMethodDescriptor "(JJ)J" = some ⟨[.long, .long], some .long⟩ := by decide +kernel
theorem ef_0 (m : MethodId) (p0 : Int64) (p1 : Int64) (p2 : Int32) : entryFrame m #[(.long p0), (.long p1), (.int p2)] maxLocals = mkF m 0 #[.val (.long p0), .second, .val (.long p1), .second, .val (.int p2), .unset, .unset, .unset, .unset] [] := by first | (simp [entryFrame, mkF, argsToLocals, Value.category, maxLocals]; done) | rfl
set_option maxRecDepth 65536 in
set_option maxHeartbeats 40000000 in
theorem rm0 (l : Launch) (Z : State) (a0 : Array Value) (hw : ∀ d ∈ tables_1, d.before a0 Z = true) (ws : List Jvm.Cond) (p0 : Int64) (p1 : Int64) (p2 : Int32) (h0 : Heap) (n0 : Nat) (Z0 : n0 ≤ h0.size)  :
    MetFree l x (head1 (Jvm.Cond.code x code maxLocals ret :: ws) room_1) (fun a U => a = #[(.long p0), (.long p1), (.int p2)] ∧ Z.Warmed39 U.vm ∧ U.heap = h0) (fun _ _ _ _ _ => True) (fun _ U o U' => ∃ v L, o = .returned v ∧ (own_Q0 n0) v U'.heap L ∧ FrameEnd U o U' L room_1.cells room_1.slots) := by
  refine MetFree.of_bodySF (plainFor_of_name pn_com_example_denary_denary_arith_LongArithmeticAddPinLaw) hisR ?_
  intro p e s m args below meth c s₁ Bd hml0 hP hK
  obtain ⟨rfl, hZ, hh⟩ := hP
  have hx := Bd.exec
  have hby := Bd.bytes
  have hml : c.maxLocals = 9 := hml0
  have hown : s.vm.findClass "com/example/denary/denary/arith/LongArithmeticAddPinLaw" = some m.cls := findClass_of_methodNamed Bd.named
  have hnm := (name_of_methodNamed Bd.named Bd.method).1
  have X0 : Stand p l e room_1 s m #[(.long p0), (.long p1), (.int p2)] below meth c s₁ [] 0 0 := Stand.of_body Bd
  have e0 : s₁.heap = h0 := by rw [← hh, Bd.state]; rfl
  have N0 := Fr.nil n0
  refine own_body (QQ := (own_Q0 n0)) (ef_0 m p0 p1 p2) ?_
  refine own_via (s₁.setTop (mkF m 1 #[.val (.long p0), .second, .val (.long p1), .second, .val (.int p2), .unset, .unset, .unset, .unset] [(.long p0)])) (fun t k => XS.lloadN X0.here hx rfl (hb hby at_0) rfl  k) ?_
  refine own_via (s₁.setTop (mkF m 3 #[.val (.long p0), .second, .val (.long p1), .second, .val (.int p2), .unset, .unset, .unset, .unset] [(.int p2), (.long p0)])) (fun t k => XS.iload X0.here hx rfl (hb hby at_1) rfl  k) ?_
  obtain ⟨_, _, ⟨T29, L29, k29, n29⟩, -, X29, ⟨Lc29, hQ29, l29, y29, z29⟩, st29⟩ := Jvm.LawKit.callS X0 hx (y := (⟨"com/example/denary/denary/arith/LongArithmeticAddPinLaw", "pick", "(JI)J"⟩ : MethodName)) hown (mvT hZ (hw _ (List.mem_of_getElem? (i := 0) rfl))) (mvT hZ (hw _ (List.mem_of_getElem? (i := 1) rfl))) (mvT hZ (hw _ (List.mem_of_getElem? (i := 2) rfl))) (mvT hZ (hw _ (List.mem_of_getElem? (i := 3) rfl))) (by decide) (backOf (W := 0) (rm1 l Z a0 hw [] p0 p2 h0 n0 Z0) hZ (hw _ (List.mem_of_getElem? (i := 3) rfl)) (hw _ (List.mem_of_getElem? (i := 2) rfl)) (by decide) (by decide)) (g := (mkF m 3 #[.val (.long p0), .second, .val (.long p1), .second, .val (.int p2), .unset, .unset, .unset, .unset] [(.int p2), (.long p0)])) rfl (by rw [hml]; rfl) (argsL := [(.long p0), (.int p2)]) (rest := []) (lenOf pd_0 rfl) rfl (by show 2 * 0 + _ ≤ _; exact Nat.le_of_eq rfl) (hb hby at_3) (fun _ _ => ⟨rfl, e0, (by decide : 0 + 0 ≤ _), (by decide : 0 + 0 ≤ _)⟩)
  dsimp only [Pt.U, Pt.locs, Pt.cells, Pt.slots] at X29 l29 y29 z29 st29 hQ29
  subst l29 y29 z29
  obtain ⟨rfl, N29q, e29⟩ := hQ29
  have N29 := Fr.app N0 N29q
  refine own_via (T29.setTop (mkF m 6 #[.val (.long p0), .second, .val (.long p1), .second, .val (.int p2), .unset, .unset, .unset, .unset] [(.long (own_f1 p0 p2))])) (fun t k => st29 t k) ?_
  obtain ⟨z30, hz30⟩ : ∃ z : Int64, z = (own_f1 p0 p2) := ⟨_, rfl⟩
  refine own_via (T29.setTop (mkF m 8 #[.val (.long p0), .second, .val (.long p1), .second, .val (.int p2), .val (.long z30), .second, .unset, .unset] [])) (fun t k => XS.lstore X29.here hx rfl (hb hby at_6) rfl (l' := #[.val (.long p0), .second, .val (.long p1), .second, .val (.int p2), .val (.long z30), .second, .unset, .unset]) (by rw [hz30]; rfl) k) ?_
  refine own_via (T29.setTop (mkF m 9 #[.val (.long p0), .second, .val (.long p1), .second, .val (.int p2), .val (.long z30), .second, .unset, .unset] [(.long p1)])) (fun t k => XS.lloadN X29.here hx rfl (hb hby at_8) rfl  k) ?_
  refine own_via (T29.setTop (mkF m 11 #[.val (.long p0), .second, .val (.long p1), .second, .val (.int p2), .val (.long z30), .second, .unset, .unset] [(.int p2), (.long p1)])) (fun t k => XS.iload X29.here hx rfl (hb hby at_9) rfl  k) ?_
  refine own_via (T29.setTop (mkF m 12 #[.val (.long p0), .second, .val (.long p1), .second, .val (.int p2), .val (.long z30), .second, .unset, .unset] [(.int (2 : Int32)), (.int p2), (.long p1)])) (fun t k => XS.iconst X29.here hx rfl (hb hby at_11) k) ?_
  refine own_via (T29.setTop (mkF m 13 #[.val (.long p0), .second, .val (.long p1), .second, .val (.int p2), .val (.long z30), .second, .unset, .unset] [(.int (p2 >>> ((2 : Int32) &&& 31))), (.long p1)])) (fun t k => XS.ishr X29.here hx rfl (hb hby at_12) rfl k) ?_
  obtain ⟨_, _, ⟨T31, L31, k31, n31⟩, -, X31, ⟨Lc31, hQ31, l31, y31, z31⟩, st31⟩ := Jvm.LawKit.callS X29 hx (y := (⟨"com/example/denary/denary/arith/LongArithmeticAddPinLaw", "pick", "(JI)J"⟩ : MethodName)) hown (mvT hZ (hw _ (List.mem_of_getElem? (i := 0) rfl))) (mvT hZ (hw _ (List.mem_of_getElem? (i := 1) rfl))) (mvT hZ (hw _ (List.mem_of_getElem? (i := 2) rfl))) (mvT hZ (hw _ (List.mem_of_getElem? (i := 3) rfl))) (by decide) (backOf (W := 0) (rm1 l Z a0 hw [] p1 (p2 >>> ((2 : Int32) &&& 31)) h0 n0 Z0) hZ (hw _ (List.mem_of_getElem? (i := 3) rfl)) (hw _ (List.mem_of_getElem? (i := 2) rfl)) (by decide) (by decide)) (g := (mkF m 13 #[.val (.long p0), .second, .val (.long p1), .second, .val (.int p2), .val (.long z30), .second, .unset, .unset] [(.int (p2 >>> ((2 : Int32) &&& 31))), (.long p1)])) rfl (by rw [hml]; rfl) (argsL := [(.long p1), (.int (p2 >>> ((2 : Int32) &&& 31)))]) (rest := []) (lenOf pd_0 rfl) rfl (by show 2 * 0 + _ ≤ _; exact Nat.le_of_eq rfl) (hb hby at_13) (fun _ _ => ⟨rfl, e29, (by decide : 0 + 0 ≤ _), (by decide : 0 + 0 ≤ _)⟩)
  dsimp only [Pt.U, Pt.locs, Pt.cells, Pt.slots] at X31 l31 y31 z31 st31 hQ31
  subst l31 y31 z31
  obtain ⟨rfl, N31q, e31⟩ := hQ31
  have N31 := Fr.app N29 N31q
  refine own_via (T31.setTop (mkF m 16 #[.val (.long p0), .second, .val (.long p1), .second, .val (.int p2), .val (.long z30), .second, .unset, .unset] [(.long (own_f1 p1 (p2 >>> ((2 : Int32) &&& 31))))])) (fun t k => st31 t k) ?_
  obtain ⟨z32, hz32⟩ : ∃ z : Int64, z = (own_f1 p1 (p2 >>> ((2 : Int32) &&& 31))) := ⟨_, rfl⟩
  refine own_via (T31.setTop (mkF m 18 #[.val (.long p0), .second, .val (.long p1), .second, .val (.int p2), .val (.long z30), .second, .val (.long z32), .second] [])) (fun t k => XS.lstore X31.here hx rfl (hb hby at_16) rfl (l' := #[.val (.long p0), .second, .val (.long p1), .second, .val (.int p2), .val (.long z30), .second, .val (.long z32), .second]) (by rw [hz32]; rfl) k) ?_
  refine own_via (T31.setTop (mkF m 20 #[.val (.long p0), .second, .val (.long p1), .second, .val (.int p2), .val (.long z30), .second, .val (.long z32), .second] [(.long z30)])) (fun t k => XS.lload X31.here hx rfl (hb hby at_18) rfl  k) ?_
  refine own_via (T31.setTop (mkF m 22 #[.val (.long p0), .second, .val (.long p1), .second, .val (.int p2), .val (.long z30), .second, .val (.long z32), .second] [(.long z32), (.long z30)])) (fun t k => XS.lload X31.here hx rfl (hb hby at_20) rfl  k) ?_
  obtain ⟨_, _, ⟨T33, L33, k33, n33⟩, -, X33, ⟨Lc33, hQ33, l33, y33, z33⟩, st33⟩ := Jvm.LawKit.callS X31 hx (y := (⟨"com/example/denary/denary/arith/LongArithmetic", "add", "(JJ)J"⟩ : MethodName)) hown (mvT hZ (hw _ (List.mem_of_getElem? (i := 4) rfl))) (mvT hZ (hw _ (List.mem_of_getElem? (i := 5) rfl))) (mvT hZ (hw _ (List.mem_of_getElem? (i := 6) rfl))) (mvT hZ (hw _ (List.mem_of_getElem? (i := 7) rfl))) (by decide) (backOf (W := 0) (rm2 l Z a0 hw [] z30 z32 h0 n0 Z0) hZ (hw _ (List.mem_of_getElem? (i := 7) rfl)) (hw _ (List.mem_of_getElem? (i := 6) rfl)) (by decide) (by decide)) (g := (mkF m 22 #[.val (.long p0), .second, .val (.long p1), .second, .val (.int p2), .val (.long z30), .second, .val (.long z32), .second] [(.long z32), (.long z30)])) rfl (by rw [hml]; rfl) (argsL := [(.long z30), (.long z32)]) (rest := []) (lenOf pd_1 rfl) rfl (by show 2 * 0 + _ ≤ _; exact Nat.le_of_eq rfl) (hb hby at_22) (fun _ _ => ⟨rfl, e31, (by decide : 0 + 0 ≤ _), (by decide : 0 + 0 ≤ _)⟩)
  dsimp only [Pt.U, Pt.locs, Pt.cells, Pt.slots] at X33 l33 y33 z33 st33 hQ33
  subst l33 y33 z33
  obtain ⟨rfl, N33q, e33⟩ := hQ33
  have N33 := Fr.app N31 N33q
  refine own_via (T33.setTop (mkF m 25 #[.val (.long p0), .second, .val (.long p1), .second, .val (.int p2), .val (.long z30), .second, .val (.long z32), .second] [(.long (own_f2 z30 z32))])) (fun t k => st33 t k) ?_
  refine own_via (T33.setTop (mkF m 27 #[.val (.long p0), .second, .val (.long p1), .second, .val (.int p2), .val (.long z30), .second, .val (.long z32), .second] [(.long z30), (.long (own_f2 z30 z32))])) (fun t k => XS.lload X33.here hx rfl (hb hby at_25) rfl  k) ?_
  refine own_via (T33.setTop (mkF m 29 #[.val (.long p0), .second, .val (.long p1), .second, .val (.int p2), .val (.long z30), .second, .val (.long z32), .second] [(.long z32), (.long z30), (.long (own_f2 z30 z32))])) (fun t k => XS.lload X33.here hx rfl (hb hby at_27) rfl  k) ?_
  obtain ⟨_, _, ⟨T34, L34, k34, n34⟩, -, X34, ⟨Lc34, hQ34, l34, y34, z34⟩, st34⟩ := Jvm.LawKit.callS X33 hx (y := (⟨"com/example/denary/denary/arith/LongArithmeticAddPinLaw", "reference", "(JJ)J"⟩ : MethodName)) hown (mvT hZ (hw _ (List.mem_of_getElem? (i := 9) rfl))) (mvT hZ (hw _ (List.mem_of_getElem? (i := 10) rfl))) (mvT hZ (hw _ (List.mem_of_getElem? (i := 2) rfl))) (mvT hZ (hw _ (List.mem_of_getElem? (i := 11) rfl))) (by decide) (backOf (W := 2) (rm3 l Z a0 hw [] z30 z32 h0 n0 Z0) hZ (hw _ (List.mem_of_getElem? (i := 11) rfl)) (hw _ (List.mem_of_getElem? (i := 2) rfl)) (by decide) (by decide)) (g := (mkF m 29 #[.val (.long p0), .second, .val (.long p1), .second, .val (.int p2), .val (.long z30), .second, .val (.long z32), .second] [(.long z32), (.long z30), (.long (own_f2 z30 z32))])) rfl (by rw [hml]; rfl) (argsL := [(.long z30), (.long z32)]) (rest := [(.long (own_f2 z30 z32))]) (lenOf pd_1 rfl) rfl (by show 2 * 0 + _ ≤ _; exact Nat.le_of_eq rfl) (hb hby at_29) (fun _ _ => ⟨rfl, e33, (by decide : 0 + 0 ≤ _), (by decide : 0 + 0 ≤ _)⟩)
  dsimp only [Pt.U, Pt.locs, Pt.cells, Pt.slots] at X34 l34 y34 z34 st34 hQ34
  subst l34 y34 z34
  obtain ⟨rfl, N34q, e34⟩ := hQ34
  have N34 := Fr.app N33 N34q
  refine own_via (T34.setTop (mkF m 32 #[.val (.long p0), .second, .val (.long p1), .second, .val (.int p2), .val (.long z30), .second, .val (.long z32), .second] [(.long (own_f3 z30 z32)), (.long (own_f2 z30 z32))])) (fun t k => st34 t k) ?_
  refine own_via (T34.setTop (mkF m 33 #[.val (.long p0), .second, .val (.long p1), .second, .val (.int p2), .val (.long z30), .second, .val (.long z32), .second] [(.int (lcmpW (own_f2 z30 z32) (own_f3 z30 z32)))])) (fun t k => XS.lcmp X34.here hx rfl (hb hby at_32) rfl k) ?_
  obtain ⟨z35, hz35⟩ : ∃ z : Int32, z = (if (own_f2 z30 z32) = (own_f3 z30 z32) then (1 : Int32) else (0 : Int32)) := ⟨_, rfl⟩
  refine own_via (T34.setTop (mkF m 41 #[.val (.long p0), .second, .val (.long p1), .second, .val (.int p2), .val (.long z30), .second, .val (.long z32), .second] [(.int z35)])) (fun t k => ?_) ?_
  · skip
    by_cases hj33_36 : (own_f2 z30 z32) = (own_f3 z30 z32)
    · refine XS.ifNo X34.here hx rfl (hb hby at_33) rfl ((if0 _ _).trans (teq ((lw_eq (own_f2 z30 z32) (own_f3 z30 z32)).mpr hj33_36)).2) (?_ : Steps p.tables e below (T34.setTop (mkF m 36 #[.val (.long p0), .second, .val (.long p1), .second, .val (.int p2), .val (.long z30), .second, .val (.long z32), .second] [])) t)
      refine XS.iconst X34.here hx rfl (hb hby at_36) (?_ : Steps p.tables e below (T34.setTop (mkF m 37 #[.val (.long p0), .second, .val (.long p1), .second, .val (.int p2), .val (.long z30), .second, .val (.long z32), .second] [(.int (1 : Int32))])) t)
      refine XS.goto X34.here hx rfl (pc0 := 37) (pc' := 41) rfl (hb hby at_37) (by decide) (by decide) (?_ : Steps p.tables e below (T34.setTop (mkF m 41 #[.val (.long p0), .second, .val (.long p1), .second, .val (.int p2), .val (.long z30), .second, .val (.long z32), .second] [(.int (1 : Int32))])) t)
      have q_z35 := (hz35.trans (if_pos hj33_36))
      subst q_z35
      exact k
    · refine XS.ifYes X34.here hx rfl (pc0 := 33) (pc' := 40) rfl (hb hby at_33) rfl ((if0 _ _).trans (feq (fun q => hj33_36 ((lw_eq (own_f2 z30 z32) (own_f3 z30 z32)).mp q))).2) (by decide) (by decide) (?_ : Steps p.tables e below (T34.setTop (mkF m 40 #[.val (.long p0), .second, .val (.long p1), .second, .val (.int p2), .val (.long z30), .second, .val (.long z32), .second] [])) t)
      refine XS.iconst X34.here hx rfl (hb hby at_40) (?_ : Steps p.tables e below (T34.setTop (mkF m 41 #[.val (.long p0), .second, .val (.long p1), .second, .val (.int p2), .val (.long z30), .second, .val (.long z32), .second] [(.int (0 : Int32))])) t)
      have q_z35 := (hz35.trans (if_neg hj33_36))
      subst q_z35
      exact k
  refine own_leave X34 Bd.notSynchronized (v := some (.int (nar .boolean z35))) (fun h => by rw [Bd.returns] at h; cases h) (fun fs hr => retN X34 hx (t := .boolean) Bd.returns (by simp) (hb hby at_41) hr) ?_ (by decide) (by decide)
  refine ⟨?_, N34⟩
  rw [hz35, if_pos (own_law _ _)]; rfl
set_option maxRecDepth 65536 in
set_option maxHeartbeats 40000000 in
theorem comes_1 {Post : Tables → Env → Array Value → State → Outcome → State → Prop} (hpost : ∀ tb e args s v u, (limb_1_1.after args s (.returned v) u = true ∧ limb_1_2.after args s (.returned v) u = true ∧ True) → FrameEnd s (.returned v) u (Jvm.fieldLocs frame_1_writes args s ++ Jvm.arrayLocs frame_1_arrays args s ++ Jvm.staticLocs frame_1_statics s) 0 0 → Post tb e args s (.returned v) u) :
    ArmFor flags0 classFile x code maxLocals ret World_1 tables_1 room_1 Calls_1 rest_1 Pre_1 Post := by
  intro l hfl _ _ p e ha hc hk s m args below hf hA hF happ hP
  obtain ⟨hcalls, hrest, hpre⟩ := hP
  obtain ⟨-, -, -, hnamed, -, -, -, hat⟩ := (Spec.applies_iff hf).mp happ
  obtain ⟨hg, hn⟩ := and_e (Cond.before_iff.mp (show (Jvm.Cond.and given_1 narrow_1).before args s = true from hpre))
  obtain ⟨g0, g⟩ := and_e hg
  obtain ⟨ga0, g⟩ := and_e g
  obtain ⟨ga1, g⟩ := and_e g
  have ga2 := g
  obtain ⟨w0, w1, w2, rfl⟩ : ∃ w0 w1 w2 : Value, args = #[w0, w1, w2] := by
    have hs : args.size = 3 := by simpa [Cond.value, given_1] using g0
    obtain ⟨L⟩ := args
    match L, hs with
    | [w0, w1, w2], _ => exact ⟨w0, w1, w2, rfl⟩
  have hw := fun d (hd : d ∈ tables_1) => atoms_spec (ws := Jvm.Cond.code x code maxLocals ret :: tables_1) hat d (List.mem_cons_of_mem _ hd)
  have hfit : Fit s := fun {y c} hc i hi => by
    obtain ⟨ha, rfl⟩ := Array.getElem?_eq_some_iff.mp hc
    have q := List.all_eq_true.mp ((Array.all_eq_true_iff_forall_mem.mp hF) _ (Array.getElem_mem ha)) i (List.mem_range.mpr hi)
    simpa [Array.getElem?_eq_getElem hi] using q
  obtain ⟨i0, ei0⟩ := isL_v ga0
  obtain rfl : w0 = (.long i0) := Option.some.inj ei0
  obtain ⟨i1, ei1⟩ := isL_v ga1
  obtain rfl : w1 = (.long i1) := Option.some.inj ei1
  obtain ⟨i2, ei2⟩ := is_v ga2
  obtain rfl : w2 = (.int i2) := Option.some.inj ei2
  obtain ⟨n, o, h1, h2, h3, _, L, rfl, ⟨rfl, N⟩, hq⟩ := rm0 l s _ hw tables_1 i0 i1 i2 s.heap s.heap.size (Nat.le_refl _)  p e ha hc hk s m _ below hf ((Spec.applies_iff_loose hf).mp happ).1 ⟨rfl, State.Warmed39.refl s, rfl⟩ trivial
  refine ⟨n, _, h1, h2, h3, hpost _ _ _ _ _ _ ⟨Cond.after_iff.mpr rfl, Cond.after_iff.mpr (eq_i res_at (Term.int_eval (1)) rfl), trivial⟩ ⟨hq.1, hq.2.1, (hq.2.2.sift fun y hy => Or.inr (N y hy)).mono (by decide) (by decide)⟩⟩
theorem main_1_1 : Claimed_1_1 := comes_1 fun _ _ _ _ _ _ h hF => ⟨h.1, hF⟩
theorem main_1_2 : Claimed_1_2 := comes_1 fun _ _ _ _ _ _ h hF => ⟨h.2.1, hF⟩
end Jvm.Pilot.@@N@@
namespace Jvm.Pilot.@@N@@
open Jvm Jvm.ClassFile Sem Op Lib Jvm.Free Jvm.Stand Jvm.Pilot.@@N@@.Jvm.D
/-! MADE BY PROGRAM (witnessworld.py) out of the Statement's table words and the real class files: 9 classes; the members and pool entries that the words name. The judged class is class 1, her method 3. -/
namespace start1
open Jvm.ClassFile
def u (s : String) : CpInfo := .utf8 (stringToUtf16 s)
/-- a pool by its gaps: so many unusable entries, then the entry; so many at the end -/
def gap : Nat → List CpInfo → List CpInfo
  | 0, r => r
  | n + 1, r => .unusable :: gap n r
def poolList (es : List (Nat × CpInfo)) (last : Nat) : List CpInfo := es.foldr (fun e r => gap e.1 (e.2 :: r)) (gap last [])
def pool (es : List (Nat × CpInfo)) (last : Nat) : Array CpInfo := ⟨poolList es last⟩
def fileOf (pool : Array CpInfo) (this : Nat) (attrs : Array Attribute := #[]) (ms : Array MethodInfo := #[]) (fl : Nat := 33) (sup : Nat := 0) (ifs : Array Nat := #[]) (fds : Array FieldInfo := #[]) : ClassFile where
  minorVersion := 0
  majorVersion := 65
  constantPool := pool
  accessFlags := fl
  thisClass := this
  superClass := sup
  interfaces := ifs
  fields := fds
  methods := ms
  attributes := attrs
def plain (name : String) (sup : Option ClassId) : Class where
  name := name
  kind := .ordinary
  loader := none
  accessFlags := 33
  super := sup
  interfaces := #[]
  cf := none
  fields := #[]
  methods := #[]
  instanceTypes := #[]
  staticTypes := #[]
  resolved := #[]
  callSites := []
  init := .initialized
  statics := none
  mirror := none

def pool0 : Array CpInfo := pool [(5, u "<init>"), (0, u "()V"), (1, .class_ 10), (1, u "java/lang/Object")] 113

def k0m0 : Method := { name := "<init>", desc := "()V", sig := { parameters := [], returnType := none }, accessFlags := 1, code := none }
/-- java/lang/Object -/
def k0 : Class := { plain "java/lang/Object" none with
  accessFlags := 33
  interfaces := #[]
  cf := some (fileOf pool0 8 #[] #[{ accessFlags := 1, nameIndex := 5, descriptorIndex := 6, attributes := #[] }] 33 0 #[] #[])
  fields := #[]
  methods := #[k0m0]
  instanceTypes := #[]
  staticTypes := #[]
  resolved := Array.replicate 124 none
  statics := none }

def pool1 : Array CpInfo := pool [(2, .class_ 4), (1, u "java/lang/Object"), (0, u "<init>"), (0, u "()V"), (2, .long 9223372036854775807), (1, .long 255), (1, .long 9223372036854775808), (1, .long 511), (1, .long 256), (1, .methodref 20 21), (0, .class_ 22), (0, .nameAndType 23 24), (0, u "com/example/denary/denary/arith/LongArithmeticAddPinLaw"), (0, u "pick"), (0, u "(JI)J"), (0, .methodref 26 27), (0, .class_ 28), (0, .nameAndType 29 30), (0, u "com/example/denary/denary/arith/LongArithmetic"), (0, u "add"), (0, u "(JJ)J"), (0, .methodref 20 32), (0, .nameAndType 33 30), (0, u "reference"), (3, u "law"), (0, u "(JJI)Z")] 2

def k1m0 : Method := { name := "<init>", desc := "()V", sig := { parameters := [], returnType := none }, accessFlags := 2, code := none }
def k1c1 : Code := { maxStack := 6, maxLocals := 4, code := method_2_code, exceptionTable := #[], attributes := #[] }
def k1m1 : Method := { name := "pick", desc := "(JI)J", sig := { parameters := [.long, .int], returnType := some .long }, accessFlags := 10, code := some k1c1 }
def k1c2 : Code := { maxStack := 6, maxLocals := 8, code := method_3_code, exceptionTable := #[], attributes := #[] }
def k1m2 : Method := { name := "reference", desc := "(JJ)J", sig := { parameters := [.long, .long], returnType := some .long }, accessFlags := 10, code := some k1c2 }
def k1c3 : Code := { maxStack := 6, maxLocals := 9, code := code, exceptionTable := #[], attributes := #[] }
def k1m3 : Method := { name := "law", desc := "(JJI)Z", sig := { parameters := [.long, .long, .int], returnType := some .boolean }, accessFlags := 9, code := some k1c3 }
/-- com/example/denary/denary/arith/LongArithmeticAddPinLaw -/
def k1 : Class := { plain "com/example/denary/denary/arith/LongArithmeticAddPinLaw" (some 0) with
  accessFlags := 49
  interfaces := #[]
  cf := some (fileOf pool1 20 #[] #[{ accessFlags := 2, nameIndex := 5, descriptorIndex := 6, attributes := #[] }, { accessFlags := 10, nameIndex := 23, descriptorIndex := 24, attributes := #[] }, { accessFlags := 10, nameIndex := 33, descriptorIndex := 30, attributes := #[] }, { accessFlags := 9, nameIndex := 37, descriptorIndex := 38, attributes := #[] }] 49 2 #[] #[])
  fields := #[]
  methods := #[k1m0, k1m1, k1m2, k1m3]
  instanceTypes := #[]
  staticTypes := #[]
  resolved := Array.replicate 41 none
  statics := none }

def pool2 : Array CpInfo := pool [(4, .class_ 6), (1, u "java/lang/Object"), (0, u "<init>"), (0, u "()V"), (0, .class_ 10), (0, u "com/example/denary/denary/arith/LongArithmetic"), (0, .long 9223372036854775808), (6, u "(JJ)J"), (9, u "POWERS_OF_TEN"), (0, u "[J"), (64, u "OVERFLOW"), (0, u "J"), (3, u "add")] 32

def k2m0 : Method := { name := "<init>", desc := "()V", sig := { parameters := [], returnType := none }, accessFlags := 2, code := none }
def k2c1 : Code := { maxStack := 6, maxLocals := 7, code := prog_9_method_2_code, exceptionTable := #[], attributes := #[] }
def k2m1 : Method := { name := "add", desc := "(JJ)J", sig := { parameters := [.long, .long], returnType := some .long }, accessFlags := 9, code := some k2c1 }
/-- com/example/denary/denary/arith/LongArithmetic -/
def k2 : Class := { plain "com/example/denary/denary/arith/LongArithmetic" (some 0) with
  accessFlags := 49
  interfaces := #[]
  cf := some (fileOf pool2 9 #[] #[{ accessFlags := 2, nameIndex := 7, descriptorIndex := 8, attributes := #[] }, { accessFlags := 9, nameIndex := 99, descriptorIndex := 18, attributes := #[] }] 49 4 #[] #[{ accessFlags := 25, nameIndex := 94, descriptorIndex := 95, attributes := #[] }, { accessFlags := 26, nameIndex := 28, descriptorIndex := 29, attributes := #[] }])
  fields := #[{ name := "OVERFLOW", type := .long, accessFlags := 25, slot := 0, constantValue := 0 }, { name := "POWERS_OF_TEN", type := (.array .long), accessFlags := 26, slot := 1, constantValue := 0 }]
  methods := #[k2m0, k2m1]
  instanceTypes := #[]
  staticTypes := #[.long, (.array .long)]
  resolved := Array.replicate 132 none
  statics := none }

def pool3 : Array CpInfo := pool [(1, u "java/lang/Cloneable"), (0, .class_ 1), (0, u "java/lang/Object"), (0, .class_ 3)] 3

/-- java/lang/Cloneable -/
def k3 : Class := { plain "java/lang/Cloneable" (some 0) with
  accessFlags := 1537
  interfaces := #[]
  cf := some (fileOf pool3 2 #[] #[] 1537 4 #[] #[])
  fields := #[]
  methods := #[]
  instanceTypes := #[]
  staticTypes := #[]
  resolved := Array.replicate 8 none
  statics := none }

def pool4 : Array CpInfo := pool [(1, u "java/io/Serializable"), (0, .class_ 1), (0, u "java/lang/Object"), (0, .class_ 3)] 3

/-- java/io/Serializable -/
def k4 : Class := { plain "java/io/Serializable" (some 0) with
  accessFlags := 1537
  interfaces := #[]
  cf := some (fileOf pool4 2 #[] #[] 1537 4 #[] #[])
  fields := #[]
  methods := #[]
  instanceTypes := #[]
  staticTypes := #[]
  resolved := Array.replicate 8 none
  statics := none }

/-- the primitive byte -/
def k5 : Class := { plain "byte" none with kind := .primitive 'B', accessFlags := 0x411 }
/-- [B -/
def k6 : Class := { plain "[B" (some 0) with kind := .array 5 .byte, interfaces := #[3, 4], accessFlags := 1041 }

/-- the primitive int -/
def k7 : Class := { plain "int" none with kind := .primitive 'I', accessFlags := 0x411 }
/-- [I -/
def k8 : Class := { plain "[I" (some 0) with kind := .array 7 .int, interfaces := #[3, 4], accessFlags := 1041 }

def heap : Heap := #[]
def classes : Array Class := #[k0, k1, k2, k3, k4, k5, k6, k7, k8]
def interned : List (Array UInt16 × Addr) := []
def slotsUsed : Nat := 0
def theMethod : MethodId := ⟨1, 3⟩
def args0 : Array Value := #[.long 5, .long 7, .int 3]
def aboutOver (below : List Frame) : State where
  vm := { classes := classes, interned := interned.toArray }
  heap := heap
  slotsUsed := slotsUsed
  threads := #[{ frames := .invoking theMethod args0 :: below }]
def below0 : List Frame := [.native { method := ⟨0, 0⟩, args := #[] }]
def about1 : State := aboutOver below0
def p0 : Program := .bare "" "" ""
def e0 : Env := launch0.env 0 0 0
theorem w_frames : about1.frames = Frame.invoking theMethod args0 :: below0 := rfl
set_option maxRecDepth 65536 in
theorem w_args : argsFit about1.vm theMethod args0 = true := by decide +kernel
set_option maxRecDepth 65536 in
theorem w_heap : heapFits about1 = true := by decide +kernel
set_option maxRecDepth 65536 in
theorem w_runnable : about1.curStatus? = some .runnable := by decide +kernel
set_option maxRecDepth 65536 in
theorem w_alone : about1.alone = true := by decide +kernel
set_option maxRecDepth 65536 in
theorem w_named : about1.methodNamed? x = some theMethod := by decide +kernel
set_option maxRecDepth 65536 in
theorem w_hears : about1.hears theMethod below0 = true := by decide +kernel
set_option maxRecDepth 65536 in
theorem w_ripe : about1.ripe theMethod args0 below0 = true := by decide +kernel
theorem w_running : about1.status = .running := rfl
set_option maxRecDepth 65536 in
theorem w_room : about1.hasRoom e0.platform room_1 = true :=
  launch0.hasRoom_least _ room_1 (by decide +kernel) (by decide +kernel) (by decide +kernel) (by decide +kernel) (by decide +kernel) (by decide +kernel)
theorem allAtoms_all (ts : List Jvm.Cond) (a : Array Jvm.Value) (st : Jvm.State) : (allAtoms ts).before a st = ts.all (fun c => c.before a st) := by
  induction ts with
  | nil => rfl
  | cons c t ih =>
    show (Jvm.Cond.and c (allAtoms t)).before a st = _
    rw [Jvm.Cond.before_and, ih, List.all_cons]
def words1 : List Jvm.Cond := Jvm.Cond.code x code maxLocals ret :: tables_1
/-- a 'code' word, met by the world's own term for the bytes: nothing is compared byte by byte -/
theorem code_word {y : MethodName} {bytes : ByteArray} {mx : Nat} {rt : Option FieldType} {a : Array Value} {s : State} {m : MethodId} {meth : Method} {c : Code} (h1 : s.methodNamed? y = some m) (h2 : s.vm.method? m = some meth) (h3 : meth.code = some c) (h4 : c.code = bytes)
    (h5 : (c.maxLocals == mx && c.exceptionTable.isEmpty && decide (c.maxStack ≤ mostOperands) && decide (meth.sig.returnType = rt) && !meth.locks && decide (parseMethodDescriptor y.desc = some meth.sig)) = true) : (Jvm.Cond.code y bytes mx rt).before a s = true := by
  simp only [Bool.and_eq_true, beq_iff_eq, Bool.not_eq_true', decide_eq_true_eq] at h5
  obtain ⟨⟨⟨⟨⟨g1, g2⟩, g3⟩, g4⟩, g5⟩, g6⟩ := h5
  simp [Cond.before, Cond.holds, Cond.value, h1, h2, h3, h4, g1, g2, g3, g4, g5, g6]
def isCode : Jvm.Cond → Bool
  | .code _ _ _ _ => true
  | _ => false
theorem all_split {L : List Jvm.Cond} {P : Jvm.Cond → Bool} (h1 : L.all (fun c => isCode c || P c) = true) (h2 : ∀ c ∈ L.filter isCode, P c = true) : L.all P = true := by
  refine List.all_eq_true.mpr fun c hc => ?_
  have h := List.all_eq_true.mp h1 c hc
  rcases Bool.eq_false_or_eq_true (isCode c) with hi | hi
  · exact h2 c (List.mem_filter.mpr ⟨hc, hi⟩)
  · simpa [hi] using h
set_option maxRecDepth 65536 in
theorem w_c0 : (Jvm.Cond.code x code maxLocals ret).before args0 about1 = true := code_word (m := ⟨1, 3⟩) (meth := k1m3) (c := k1c3) (by decide +kernel) rfl rfl rfl (by decide +kernel)
set_option maxRecDepth 65536 in
theorem w_c1 : (Jvm.Cond.code ({ cls := "com/example/denary/denary/arith/LongArithmeticAddPinLaw", name := "pick", desc := "(JI)J" } : Jvm.MethodName) method_2_code (4 : Nat) (Option.some Jvm.ClassFile.FieldType.long)).before args0 about1 = true := code_word (m := ⟨1, 1⟩) (meth := k1m1) (c := k1c1) (by decide +kernel) rfl rfl rfl (by decide +kernel)
set_option maxRecDepth 65536 in
theorem w_c2 : (Jvm.Cond.code ({ cls := "com/example/denary/denary/arith/LongArithmetic", name := "add", desc := "(JJ)J" } : Jvm.MethodName) prog_9_method_2_code (7 : Nat) (Option.some Jvm.ClassFile.FieldType.long)).before args0 about1 = true := code_word (m := ⟨2, 1⟩) (meth := k2m1) (c := k2c1) (by decide +kernel) rfl rfl rfl (by decide +kernel)
set_option maxRecDepth 65536 in
theorem w_c3 : (Jvm.Cond.code ({ cls := "com/example/denary/denary/arith/LongArithmeticAddPinLaw", name := "reference", desc := "(JJ)J" } : Jvm.MethodName) method_3_code (8 : Nat) (Option.some Jvm.ClassFile.FieldType.long)).before args0 about1 = true := code_word (m := ⟨1, 2⟩) (meth := k1m2) (c := k1c2) (by decide +kernel) rfl rfl rfl (by decide +kernel)
def codes1 : List Jvm.Cond := [Jvm.Cond.code x code maxLocals ret, Jvm.Cond.code ({ cls := "com/example/denary/denary/arith/LongArithmeticAddPinLaw", name := "pick", desc := "(JI)J" } : Jvm.MethodName) method_2_code (4 : Nat) (Option.some Jvm.ClassFile.FieldType.long), Jvm.Cond.code ({ cls := "com/example/denary/denary/arith/LongArithmetic", name := "add", desc := "(JJ)J" } : Jvm.MethodName) prog_9_method_2_code (7 : Nat) (Option.some Jvm.ClassFile.FieldType.long), Jvm.Cond.code ({ cls := "com/example/denary/denary/arith/LongArithmeticAddPinLaw", name := "reference", desc := "(JJ)J" } : Jvm.MethodName) method_3_code (8 : Nat) (Option.some Jvm.ClassFile.FieldType.long)]
set_option maxRecDepth 65536 in
theorem codes_eq : words1.filter isCode = codes1 := rfl
theorem w_codes : ∀ c ∈ words1.filter isCode, c.before args0 about1 = true := by
  rw [codes_eq]
  intro c hc
  simp only [codes1, List.mem_cons, List.not_mem_nil, or_false] at hc
  rcases hc with rfl | rfl | rfl | rfl
  · exact w_c0
  · exact w_c1
  · exact w_c2
  · exact w_c3
set_option maxRecDepth 65536 in
theorem w_t1 : words1.all (fun c => isCode c || c.before args0 about1) = true := by decide +kernel
theorem w_tables : (allAtoms (Jvm.Cond.code x code maxLocals ret :: tables_1)).before args0 about1 = true := by
  rw [allAtoms_all]
  show words1.all (fun c => c.before args0 about1) = true
  refine all_split ?_ w_codes
  rw [w_t1]
set_option maxRecDepth 65536 in
theorem w_case : (Jvm.Cond.and given_1 narrow_1).before args0 about1 = true := by decide +kernel
theorem w_applies : (headSpec (Jvm.Cond.code x code maxLocals ret :: tables_1) room_1).applies x e0.platform about1 = true :=
  (Spec.applies_iff w_frames).mpr ⟨w_running, w_runnable, w_alone, w_named, w_hears, w_ripe, w_room, w_tables⟩
theorem atStart : AtStart classFile x code maxLocals ret World_1 tables_1 room_1 Calls_1 rest_1 Pre_1 launch0 p0 e0 about1 theMethod args0 below0 :=
  ⟨lists_1, trivial, launch0.admits_env _ _ _, launch0.least_env, fairChoices_fair.cas, fairChoices_fair.clock, w_frames, w_args, w_heap, w_applies, trivial, trivial, w_case⟩
end start1
theorem witness_1 : WitnessClaimed_1 := ⟨start1.p0, start1.e0, start1.about1, start1.theMethod, start1.args0, start1.below0, start1.atStart⟩
end Jvm.Pilot.@@N@@
