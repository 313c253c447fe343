import JvmDerived
import JvmDerived.Pilot.@@N@@Statement
import JvmDerived.Pilot.@@N@@Code
set_option linter.unusedVariables false
set_option linter.unusedSimpArgs false
namespace Jvm.RoadKit
open Sem ClassFile Op Lib Jvm.Stand Jvm.Free Jvm.LawKit
section New
variable {p : Program} {l : Launch} {e : Env} {R : Room} {s : State} {m : MethodId} {args : Array Value} {below : List Frame} {meth : Method} {c : Code} {T : State} {locs : List Loc} {cells slots : Nat}
theorem retI (X : Stand p l e R s m args below meth c T locs cells slots) (hx : p.tables.exec = Jvm.exec) {pc : Nat} {Ls : Array Slot} {z : Int32} {rest : List Value} (hret : meth.sig.returnType = some .int) (hd : decode c.code pc = .ok (.ireturn, 1)) {fs : List Frame}
    (hl : ∀ (f : JFrame) (acts : List Action), f.method = m → f.locked = none → f.entered = [] → (doReturn e (T.setTop f) acts (some (.int z))).1 = T.setFrames fs) : Steps p.tables e below (T.setTop (mkF m pc Ls (.int z :: rest))) (T.setFrames fs) :=
  retOut X hx hret rfl (Or.inl ⟨rfl, Or.inl rfl, _, rfl⟩) hd hl
end New
end Jvm.RoadKit
namespace Jvm.Pilot.@@N@@
open Jvm Jvm.ClassFile Sem Op Lib Jvm.Free Jvm.Stand Jvm.LawKit Jvm.RoadKit Bundle Jvm.Pilot.@@N@@.Jvm.D
/-! own_Goes: from A the run comes to a state of which P holds -/
def own_Goes (p : Program) (e : Env) (below : List Frame) (P : State → Prop) (A : State) : Prop := ∃ B, Steps p.tables e below A B ∧ P B
def own_Fin (s : State) (below : List Frame) (QQ : Option Value → Heap → List Loc → Prop) (C N : Nat) (B : State) : Prop := ∃ v L, B.status = .running ∧ Ended B below (.returned v) ∧ QQ v B.heap L ∧ FrameEnd s (.returned v) B L C N
theorem own_via {p : Program} {e : Env} {below : List Frame} {P : State → Prop} {A : State} (B : State) (h : ∀ t, Steps p.tables e below B t → Steps p.tables e below A t) (k : own_Goes p e below P B) : own_Goes p e below P A := by
  obtain ⟨t, h1, h2⟩ := k
  exact ⟨t, h t h1, h2⟩
theorem own_body {p : Program} {e : Env} {below : List Frame} {s s₁ : State} {QQ : Option Value → Heap → List Loc → Prop} {C N ml : Nat} {m : MethodId} {args : Array Value} {F : JFrame} (hF : entryFrame m args ml = F) (k : own_Goes p e below (own_Fin s below QQ C N) (s₁.setTop F)) :
    ∃ s₂ o, Steps p.tables e below (s₁.setTop (entryFrame m args ml)) s₂ ∧ s₂.status = .running ∧ Ended s₂ below o ∧ (∃ v L, o = .returned v ∧ QQ v s₂.heap L ∧ FrameEnd s o s₂ L C N) := by
  obtain ⟨B, h1, v, L, h2, h3, h4, h5⟩ := k
  exact ⟨B, .returned v, hF ▸ h1, h2, h3, v, L, rfl, h4, h5⟩
theorem own_leave {p : Program} {l : Launch} {e : Env} {R : Room} {s : State} {m : MethodId} {args : Array Value} {below : List Frame} {meth : Method} {c : Code} {T : State} {locs : List Loc} {cells slots : Nat} {QQ : Option Value → Heap → List Loc → Prop} {C N : Nat}
    (X : Stand p l e R s m args below meth c T locs cells slots) (hlocks : meth.locks = false) {v : Option Value} (hv : meth.sig.returnType = none → v = none) {F : JFrame}
    (hstep : ∀ fs, (∀ (f : JFrame) (acts : List Action), f.method = m → f.locked = none → f.entered = [] → (doReturn e (T.setTop f) acts v).1 = T.setFrames fs) → Steps p.tables e below (T.setTop F) (T.setFrames fs))
    (hq : QQ v T.heap locs) (hc : cells ≤ C) (hn : slots ≤ N) : own_Goes p e below (own_Fin s below QQ C N) (T.setTop F) := by
  obtain ⟨fs, hr, hrun, hended, hW, hsame⟩ := X.leave hv hlocks
  exact ⟨_, hstep fs hr, v, locs, hrun, hended, hq, ⟨_, rfl⟩, hW, hsame.mono hc hn⟩
/-- what a body that writes nothing leaves -/
def own_Q (r : Option Value) (h0 : Heap) (n0 : Nat) (v : Option Value) (h : Heap) (L : List Loc) : Prop := v = r ∧ Fr n0 L ∧ h = h0
def own_f1 (p0 : Int32) (p1 : Int32) : Int64 := (((p0.toInt64) <<< ((32 : Int32) &&& 0x3f).toInt64) ||| ((p1.toInt64) &&& (4294967295 : Int64)))
theorem d1_0 : decode prog_106_method_2_code 0 = .ok (.iload_n 0, 1) := by decide +kernel
theorem d1_1 : decode prog_106_method_2_code 1 = .ok (.i2l, 1) := by decide +kernel
theorem d1_2 : decode prog_106_method_2_code 2 = .ok (.bipush 32, 2) := by decide +kernel
theorem d1_4 : decode prog_106_method_2_code 4 = .ok (.lshl, 1) := by decide +kernel
theorem d1_5 : decode prog_106_method_2_code 5 = .ok (.iload_n 1, 1) := by decide +kernel
theorem d1_6 : decode prog_106_method_2_code 6 = .ok (.i2l, 1) := by decide +kernel
theorem d1_7 : decode prog_106_method_2_code 7 = .ok (.ldc2_w 9, 3) := by decide +kernel
theorem d1_10 : decode prog_106_method_2_code 10 = .ok (.land, 1) := by decide +kernel
theorem d1_11 : decode prog_106_method_2_code 11 = .ok (.lor, 1) := by decide +kernel
theorem d1_12 : decode prog_106_method_2_code 12 = .ok (.lreturn, 1) := by decide +kernel
theorem pn_com_example_unweave_unweave_uw_Valuation : plainName "com/example/unweave/unweave/uw/Valuation" = true := by first | (simp [plainName, overriddenIn]; done) | decide +kernel
theorem ef_1 (m : MethodId) (p0 : Int32) (p1 : Int32) : entryFrame m #[(.int p0), (.int p1)] 2 = mkF m 0 #[.val (.int p0), .val (.int p1)] [] := by first | (simp [entryFrame, mkF, argsToLocals, Value.category]; done) | rfl
set_option maxRecDepth 65536 in
set_option maxHeartbeats 40000000 in
theorem rm1 (l : Launch) (Z : State) (a0 : Array Value) (hw : ∀ d ∈ tables_1, d.before a0 Z = true) (ws : List Jvm.Cond) (p0 : Int32) (p1 : Int32) (h0 : Heap) (n0 : Nat) (Z0 : n0 ≤ h0.size)  :
    MetFree l (⟨"com/example/unweave/unweave/uw/Valuation", "of", "(II)J"⟩ : MethodName) (head1 (Jvm.Cond.code (⟨"com/example/unweave/unweave/uw/Valuation", "of", "(II)J"⟩ : MethodName) prog_106_method_2_code 2 (some .long) :: ws) ({ frames := 0, cells := 0, slots := 0, locals := 0 } : Room)) (fun a U => a = #[(.int p0), (.int p1)] ∧ Z.Warmed39 U.vm ∧ U.heap = h0) (fun _ _ _ _ _ => True) (fun _ U o U' => ∃ v L, o = .returned v ∧ (own_Q (some (.long (own_f1 p0 p1))) h0 n0) v U'.heap L ∧ FrameEnd U o U' L ({ frames := 0, cells := 0, slots := 0, locals := 0 } : Room).cells ({ frames := 0, cells := 0, slots := 0, locals := 0 } : Room).slots) := by
  refine MetFree.of_bodySF (plainFor_of_name pn_com_example_unweave_unweave_uw_Valuation) hisR ?_
  intro p e s m args below meth c s₁ Bd hml0 hP hK
  obtain ⟨rfl, hZ, hh⟩ := hP
  have hx := Bd.exec
  have hby := Bd.bytes
  have hml : c.maxLocals = 2 := hml0
  have hown : s.vm.findClass "com/example/unweave/unweave/uw/Valuation" = some m.cls := findClass_of_methodNamed Bd.named
  have hnm := (name_of_methodNamed Bd.named Bd.method).1
  have X0 : Stand p l e ({ frames := 0, cells := 0, slots := 0, locals := 0 } : Room) s m #[(.int p0), (.int p1)] below meth c s₁ [] 0 0 := Stand.of_body Bd
  have e0 : s₁.heap = h0 := by rw [← hh, Bd.state]; rfl
  have N0 := Fr.nil n0
  refine own_body (QQ := (own_Q (some (.long (own_f1 p0 p1))) h0 n0)) (ef_1 m p0 p1) ?_
  refine own_via (s₁.setTop (mkF m 1 #[.val (.int p0), .val (.int p1)] [(.int p0)])) (fun t k => XS.iloadN X0.here hx rfl (hb hby d1_0) rfl  k) ?_
  refine own_via (s₁.setTop (mkF m 2 #[.val (.int p0), .val (.int p1)] [(.long (p0.toInt64))])) (fun t k => XS.i2l X0.here hx rfl (hb hby d1_1) rfl k) ?_
  refine own_via (s₁.setTop (mkF m 4 #[.val (.int p0), .val (.int p1)] [(.int (32 : Int32)), (.long (p0.toInt64))])) (fun t k => XS.bipush X0.here hx rfl (hb hby d1_2) k) ?_
  refine own_via (s₁.setTop (mkF m 5 #[.val (.int p0), .val (.int p1)] [(.long ((p0.toInt64) <<< ((32 : Int32) &&& 0x3f).toInt64))])) (fun t k => XS.lshl X0.here hx rfl (hb hby d1_4) rfl k) ?_
  refine own_via (s₁.setTop (mkF m 6 #[.val (.int p0), .val (.int p1)] [(.int p1), (.long ((p0.toInt64) <<< ((32 : Int32) &&& 0x3f).toInt64))])) (fun t k => XS.iloadN X0.here hx rfl (hb hby d1_5) rfl  k) ?_
  refine own_via (s₁.setTop (mkF m 7 #[.val (.int p0), .val (.int p1)] [(.long (p1.toInt64)), (.long ((p0.toInt64) <<< ((32 : Int32) &&& 0x3f).toInt64))])) (fun t k => XS.i2l X0.here hx rfl (hb hby d1_6) rfl k) ?_
  refine own_via (s₁.setTop (mkF m 10 #[.val (.int p0), .val (.int p1)] [(.long (4294967295 : Int64)), (.long (p1.toInt64)), (.long ((p0.toInt64) <<< ((32 : Int32) &&& 0x3f).toInt64))])) (fun t k => X0.ldc2Long hx hown (mvT hZ (hw _ (List.mem_of_getElem? (i := 4) rfl))) (g := (mkF m 7 #[.val (.int p0), .val (.int p1)] [(.long (p1.toInt64)), (.long ((p0.toInt64) <<< ((32 : Int32) &&& 0x3f).toInt64))])) rfl (hb hby d1_7) _ k) ?_
  refine own_via (s₁.setTop (mkF m 11 #[.val (.int p0), .val (.int p1)] [(.long ((p1.toInt64) &&& (4294967295 : Int64))), (.long ((p0.toInt64) <<< ((32 : Int32) &&& 0x3f).toInt64))])) (fun t k => XS.land X0.here hx rfl (hb hby d1_10) rfl k) ?_
  refine own_via (s₁.setTop (mkF m 12 #[.val (.int p0), .val (.int p1)] [(.long (((p0.toInt64) <<< ((32 : Int32) &&& 0x3f).toInt64) ||| ((p1.toInt64) &&& (4294967295 : Int64))))])) (fun t k => XS.lor X0.here hx rfl (hb hby d1_11) rfl k) ?_
  refine own_leave X0 Bd.notSynchronized (v := some (.long (((p0.toInt64) <<< ((32 : Int32) &&& 0x3f).toInt64) ||| ((p1.toInt64) &&& (4294967295 : Int64))))) (fun h => by rw [Bd.returns] at h; cases h) (fun fs hr => retOut X0 hx Bd.returns rfl (Or.inr (Or.inl ⟨rfl, rfl, _, rfl⟩)) (hb hby d1_12) hr) ?_ (by decide) (by decide)
  refine ⟨?_, N0, e0⟩
  show some (Value.long _) = some (Value.long _); unfold own_f1; rfl
def own_f2 (p0 : Int64) : Int32 := (((p0.toUInt64 >>> ((32 : Int32) &&& 0x3f).toInt64.toUInt64).toInt64).toInt32)
theorem d2_0 : decode prog_106_method_3_code 0 = .ok (.lload_n 0, 1) := by decide +kernel
theorem d2_1 : decode prog_106_method_3_code 1 = .ok (.bipush 32, 2) := by decide +kernel
theorem d2_3 : decode prog_106_method_3_code 3 = .ok (.lushr, 1) := by decide +kernel
theorem d2_4 : decode prog_106_method_3_code 4 = .ok (.l2i, 1) := by decide +kernel
theorem d2_5 : decode prog_106_method_3_code 5 = .ok (.ireturn, 1) := by decide +kernel
theorem ef_2 (m : MethodId) (p0 : Int64) : entryFrame m #[(.long p0)] 2 = mkF m 0 #[.val (.long p0), .second] [] := by first | (simp [entryFrame, mkF, argsToLocals, Value.category]; done) | rfl
set_option maxRecDepth 65536 in
set_option maxHeartbeats 40000000 in
theorem rm2 (l : Launch) (Z : State) (a0 : Array Value) (hw : ∀ d ∈ tables_1, d.before a0 Z = true) (ws : List Jvm.Cond) (p0 : Int64) (h0 : Heap) (n0 : Nat) (Z0 : n0 ≤ h0.size)  :
    MetFree l (⟨"com/example/unweave/unweave/uw/Valuation", "getShared", "(J)I"⟩ : MethodName) (head1 (Jvm.Cond.code (⟨"com/example/unweave/unweave/uw/Valuation", "getShared", "(J)I"⟩ : MethodName) prog_106_method_3_code 2 (some .int) :: ws) ({ frames := 0, cells := 0, slots := 0, locals := 0 } : Room)) (fun a U => a = #[(.long p0)] ∧ Z.Warmed39 U.vm ∧ U.heap = h0) (fun _ _ _ _ _ => True) (fun _ U o U' => ∃ v L, o = .returned v ∧ (own_Q (some (.int (own_f2 p0))) h0 n0) v U'.heap L ∧ FrameEnd U o U' L ({ frames := 0, cells := 0, slots := 0, locals := 0 } : Room).cells ({ frames := 0, cells := 0, slots := 0, locals := 0 } : Room).slots) := by
  refine MetFree.of_bodySF (plainFor_of_name pn_com_example_unweave_unweave_uw_Valuation) hisR ?_
  intro p e s m args below meth c s₁ Bd hml0 hP hK
  obtain ⟨rfl, hZ, hh⟩ := hP
  have hx := Bd.exec
  have hby := Bd.bytes
  have hml : c.maxLocals = 2 := hml0
  have hown : s.vm.findClass "com/example/unweave/unweave/uw/Valuation" = some m.cls := findClass_of_methodNamed Bd.named
  have hnm := (name_of_methodNamed Bd.named Bd.method).1
  have X0 : Stand p l e ({ frames := 0, cells := 0, slots := 0, locals := 0 } : Room) s m #[(.long p0)] below meth c s₁ [] 0 0 := Stand.of_body Bd
  have e0 : s₁.heap = h0 := by rw [← hh, Bd.state]; rfl
  have N0 := Fr.nil n0
  refine own_body (QQ := (own_Q (some (.int (own_f2 p0))) h0 n0)) (ef_2 m p0) ?_
  refine own_via (s₁.setTop (mkF m 1 #[.val (.long p0), .second] [(.long p0)])) (fun t k => XS.lloadN X0.here hx rfl (hb hby d2_0) rfl  k) ?_
  refine own_via (s₁.setTop (mkF m 3 #[.val (.long p0), .second] [(.int (32 : Int32)), (.long p0)])) (fun t k => XS.bipush X0.here hx rfl (hb hby d2_1) k) ?_
  refine own_via (s₁.setTop (mkF m 4 #[.val (.long p0), .second] [(.long ((p0.toUInt64 >>> ((32 : Int32) &&& 0x3f).toInt64.toUInt64).toInt64))])) (fun t k => XS.lushr X0.here hx rfl (hb hby d2_3) rfl k) ?_
  refine own_via (s₁.setTop (mkF m 5 #[.val (.long p0), .second] [(.int (((p0.toUInt64 >>> ((32 : Int32) &&& 0x3f).toInt64.toUInt64).toInt64).toInt32))])) (fun t k => XS.l2i X0.here hx rfl (hb hby d2_4) rfl k) ?_
  refine own_leave X0 Bd.notSynchronized (v := some (.int (((p0.toUInt64 >>> ((32 : Int32) &&& 0x3f).toInt64.toUInt64).toInt64).toInt32))) (fun h => by rw [Bd.returns] at h; cases h) (fun fs hr => retI X0 hx Bd.returns (hb hby d2_5) hr) ?_ (by decide) (by decide)
  refine ⟨?_, N0, e0⟩
  show some (Value.int _) = some (Value.int _); unfold own_f2; rfl
def own_f3 (p0 : Int64) : Int32 := (p0.toInt32)
theorem d3_0 : decode prog_106_method_4_code 0 = .ok (.lload_n 0, 1) := by decide +kernel
theorem d3_1 : decode prog_106_method_4_code 1 = .ok (.l2i, 1) := by decide +kernel
theorem d3_2 : decode prog_106_method_4_code 2 = .ok (.ireturn, 1) := by decide +kernel
theorem ef_3 (m : MethodId) (p0 : Int64) : entryFrame m #[(.long p0)] 2 = mkF m 0 #[.val (.long p0), .second] [] := by first | (simp [entryFrame, mkF, argsToLocals, Value.category]; done) | rfl
set_option maxRecDepth 65536 in
set_option maxHeartbeats 40000000 in
theorem rm3 (l : Launch) (Z : State) (a0 : Array Value) (hw : ∀ d ∈ tables_1, d.before a0 Z = true) (ws : List Jvm.Cond) (p0 : Int64) (h0 : Heap) (n0 : Nat) (Z0 : n0 ≤ h0.size)  :
    MetFree l (⟨"com/example/unweave/unweave/uw/Valuation", "getLocal", "(J)I"⟩ : MethodName) (head1 (Jvm.Cond.code (⟨"com/example/unweave/unweave/uw/Valuation", "getLocal", "(J)I"⟩ : MethodName) prog_106_method_4_code 2 (some .int) :: ws) ({ frames := 0, cells := 0, slots := 0, locals := 0 } : Room)) (fun a U => a = #[(.long p0)] ∧ Z.Warmed39 U.vm ∧ U.heap = h0) (fun _ _ _ _ _ => True) (fun _ U o U' => ∃ v L, o = .returned v ∧ (own_Q (some (.int (own_f3 p0))) h0 n0) v U'.heap L ∧ FrameEnd U o U' L ({ frames := 0, cells := 0, slots := 0, locals := 0 } : Room).cells ({ frames := 0, cells := 0, slots := 0, locals := 0 } : Room).slots) := by
  refine MetFree.of_bodySF (plainFor_of_name pn_com_example_unweave_unweave_uw_Valuation) hisR ?_
  intro p e s m args below meth c s₁ Bd hml0 hP hK
  obtain ⟨rfl, hZ, hh⟩ := hP
  have hx := Bd.exec
  have hby := Bd.bytes
  have hml : c.maxLocals = 2 := hml0
  have hown : s.vm.findClass "com/example/unweave/unweave/uw/Valuation" = some m.cls := findClass_of_methodNamed Bd.named
  have hnm := (name_of_methodNamed Bd.named Bd.method).1
  have X0 : Stand p l e ({ frames := 0, cells := 0, slots := 0, locals := 0 } : Room) s m #[(.long p0)] below meth c s₁ [] 0 0 := Stand.of_body Bd
  have e0 : s₁.heap = h0 := by rw [← hh, Bd.state]; rfl
  have N0 := Fr.nil n0
  refine own_body (QQ := (own_Q (some (.int (own_f3 p0))) h0 n0)) (ef_3 m p0) ?_
  refine own_via (s₁.setTop (mkF m 1 #[.val (.long p0), .second] [(.long p0)])) (fun t k => XS.lloadN X0.here hx rfl (hb hby d3_0) rfl  k) ?_
  refine own_via (s₁.setTop (mkF m 2 #[.val (.long p0), .second] [(.int (p0.toInt32))])) (fun t k => XS.l2i X0.here hx rfl (hb hby d3_1) rfl k) ?_
  refine own_leave X0 Bd.notSynchronized (v := some (.int (p0.toInt32))) (fun h => by rw [Bd.returns] at h; cases h) (fun fs hr => retI X0 hx Bd.returns (hb hby d3_2) hr) ?_ (by decide) (by decide)
  refine ⟨?_, N0, e0⟩
  show some (Value.int _) = some (Value.int _); unfold own_f3; rfl
theorem own_shl (x : Int64) (q : Int32) (k : Nat) (hk : q.toBitVec.toNat % 64 = k) : (x <<< (q &&& 0x3f).toInt64).toBitVec = x.toBitVec <<< k := by
  show x.toBitVec <<< ((q &&& 0x3f).toInt64.toBitVec.smod 64) = _
  rw [BitVec.shiftLeft_eq', (sm64 q k hk).1, smod64 k (sm64 q k hk).2]
theorem own_ushr (x : Int64) (q : Int32) (k : Nat) (hk : q.toBitVec.toNat % 64 = k) : ((x.toUInt64 >>> (q &&& 0x3f).toInt64.toUInt64).toInt64).toBitVec = x.toBitVec >>> k := by
  have h5 := (sm64 q k hk).2
  show (x.toBitVec >>> ((q &&& 0x3f).toInt64.toBitVec % 64)) = _
  apply BitVec.eq_of_toNat_eq
  rw [BitVec.ushiftRight_eq', BitVec.toNat_ushiftRight, BitVec.toNat_ushiftRight, BitVec.toNat_umod, (sm64 q k hk).1, BitVec.toNat_ofNat]; congr 1; show k % 2 ^ 64 % 64 = k; omega
theorem own_ushr32 (x q : Int32) (k : Nat) (hk : q.toBitVec.toNat % 32 = k) : ((x.toUInt32 >>> (q &&& 31).toUInt32).toInt32).toBitVec = x.toBitVec >>> k := by
  have h1 : (q &&& 31).toBitVec.toNat = k := by
    show (q.toBitVec &&& (31 : Int32).toBitVec).toNat = _
    rw [BitVec.toNat_and, show (31 : Int32).toBitVec.toNat = 2 ^ 5 - 1 from by decide, Nat.and_two_pow_sub_one_eq_mod]; exact hk
  show (x.toBitVec >>> ((q &&& 31).toBitVec % 32)) = _
  apply BitVec.eq_of_toNat_eq
  rw [BitVec.ushiftRight_eq', BitVec.toNat_ushiftRight, BitVec.toNat_ushiftRight, BitVec.toNat_umod, h1]; congr 1; exact Nat.mod_eq_of_lt (by show k < 32; omega)
theorem own_v (s l : Int32) : (own_f1 s l).toBitVec = (s.toBitVec.signExtend 64 <<< 32) ||| (l.toBitVec.signExtend 64 &&& 4294967295#64) := by
  unfold own_f1
  rw [Int64.toBitVec_or, own_shl _ _ 32 (by decide), Int64.toBitVec_and]
  rfl
theorem own_vb (s l : Int32) (j : Nat) (hj : j < 64) : (own_f1 s l).toBitVec.getLsbD j = if j < 32 then l.toBitVec.getLsbD j else s.toBitVec.getLsbD (j - 32) := by
  rw [own_v]
  have m : (4294967295#64).getLsbD j = decide (j < 32) := by
    have : ∀ j : Fin 64, (4294967295#64).getLsbD j.val = decide (j.val < 32) := by decide +kernel
    exact this ⟨j, hj⟩
  rw [BitVec.getLsbD_or, BitVec.getLsbD_and, BitVec.getLsbD_shiftLeft, m, BitVec.getLsbD_signExtend, BitVec.getLsbD_signExtend]
  by_cases h : j < 32
  · simp [h, hj]
  · have h2 : j - 32 < 32 := by omega
    have h3 : j - 32 < 64 := by omega
    simp [h, hj, h2, h3]
theorem own_A (s l : Int32) : own_f2 (own_f1 s l) = s := by
  apply Int32.toBitVec_inj.mp
  unfold own_f2
  rw [Int64.toBitVec_toInt32, own_ushr _ _ 32 (by decide)]
  apply BitVec.eq_of_getLsbD_eq
  intro i hi
  rw [BitVec.getLsbD_signExtend, BitVec.getLsbD_ushiftRight, own_vb _ _ _ (by omega)]
  simp [hi, show ¬ (32 + i < 32) by omega, show i < 64 by omega]
theorem own_B (s l : Int32) : own_f3 (own_f1 s l) = l := by
  apply Int32.toBitVec_inj.mp
  unfold own_f3
  rw [Int64.toBitVec_toInt32]
  apply BitVec.eq_of_getLsbD_eq
  intro i hi
  rw [BitVec.getLsbD_signExtend, own_vb _ _ _ (by omega)]
  simp [hi, show i < 64 by omega]
theorem own_bit (x : BitVec 32) (i : Nat) (hi : i < 32) (y : BitVec 64) (j : Nat) (h : y.getLsbD j = x.getLsbD i) : (y >>> j) &&& 1#64 = ((x >>> i) &&& 1#32).signExtend 64 := by
  apply BitVec.eq_of_getLsbD_eq
  intro n hn
  rw [BitVec.getLsbD_and, BitVec.getLsbD_ushiftRight, BitVec.getLsbD_signExtend]
  have hm : ((x >>> i) &&& 1#32).msb = false := by
    rw [BitVec.msb_and]; simp
  rw [hm, BitVec.getLsbD_and, BitVec.getLsbD_ushiftRight]
  by_cases h0 : n = 0
  · subst h0; simp [h]
  · have a : (1#64).getLsbD n = false := by simp [BitVec.getLsbD_one, h0]
    have b : (1#32).getLsbD n = false := by simp [BitVec.getLsbD_one, h0]
    simp [a, b]
theorem own_C (s l k : Int32) : (((own_f1 s l).toUInt64 >>> (((32 : Int32) + (k &&& (31 : Int32))) &&& 0x3f).toInt64.toUInt64).toInt64) &&& (1 : Int64) = ((((s.toUInt32 >>> ((k &&& (31 : Int32)) &&& 31).toUInt32).toInt32) &&& (1 : Int32)).toInt64) := by
  have hk : (k &&& (31 : Int32)).toBitVec.toNat < 32 := by
    show (k.toBitVec &&& (31 : Int32).toBitVec).toNat < 32
    rw [BitVec.toNat_and, show (31 : Int32).toBitVec.toNat = 2 ^ 5 - 1 from by decide, Nat.and_two_pow_sub_one_eq_mod]; omega
  generalize k &&& (31 : Int32) = i at *
  have e1 : ((32 : Int32) + i).toBitVec.toNat % 64 = 32 + i.toBitVec.toNat := by
    rw [Int32.toBitVec_add, BitVec.toNat_add]
    have : (32 : Int32).toBitVec.toNat = 32 := by decide
    omega
  apply Int64.toBitVec_inj.mp
  rw [Int64.toBitVec_and, own_ushr _ _ _ e1]
  show _ = ((((s.toUInt32 >>> (i &&& 31).toUInt32).toInt32) &&& (1 : Int32)).toBitVec).signExtend 64
  rw [Int32.toBitVec_and, own_ushr32 _ i i.toBitVec.toNat (by omega)]
  refine own_bit _ _ hk _ _ ?_
  rw [own_vb _ _ _ (by omega), if_neg (by omega)]; congr 1; omega
theorem own_D (s l k : Int32) : (((own_f1 s l).toUInt64 >>> ((k &&& (31 : Int32)) &&& 0x3f).toInt64.toUInt64).toInt64) &&& (1 : Int64) = ((((l.toUInt32 >>> ((k &&& (31 : Int32)) &&& 31).toUInt32).toInt32) &&& (1 : Int32)).toInt64) := by
  have hk : (k &&& (31 : Int32)).toBitVec.toNat < 32 := by
    show (k.toBitVec &&& (31 : Int32).toBitVec).toNat < 32
    rw [BitVec.toNat_and, show (31 : Int32).toBitVec.toNat = 2 ^ 5 - 1 from by decide, Nat.and_two_pow_sub_one_eq_mod]; omega
  generalize k &&& (31 : Int32) = i at *
  apply Int64.toBitVec_inj.mp
  rw [Int64.toBitVec_and, own_ushr _ _ i.toBitVec.toNat (by omega)]
  show _ = ((((l.toUInt32 >>> (i &&& 31).toUInt32).toInt32) &&& (1 : Int32)).toBitVec).signExtend 64
  rw [Int32.toBitVec_and, own_ushr32 _ i i.toBitVec.toNat (by omega)]
  refine own_bit _ _ hk _ _ ?_
  rw [own_vb _ _ _ (by omega), if_pos (by omega)]
def own_Q0 (n0 : Nat) (v : Option Value) (h : Heap) (L : List Loc) : Prop := v = some (.int 1) ∧ Fr n0 L
theorem pd_0 : parseMethodDescriptor "(II)J" = some ⟨[.int, .int], some .long⟩ := by decide +kernel
theorem pd_1 : parseMethodDescriptor "(J)I" = some ⟨[.long], some .int⟩ := by decide +kernel
theorem pn_com_example_unweave_unweave_uw_ValuationOfPinLaw : plainName "com/example/unweave/unweave/uw/ValuationOfPinLaw" = true := by first | (simp [plainName, overriddenIn]; done) | decide +kernel
theorem ef_0 (m : MethodId) (p0 : Int32) (p1 : Int32) (p2 : Int32) : entryFrame m #[(.int p0), (.int p1), (.int p2)] maxLocals = mkF m 0 #[.val (.int p0), .val (.int p1), .val (.int p2), .unset, .unset, .unset, .unset, .unset, .unset] [] := by first | (simp [entryFrame, mkF, argsToLocals, Value.category, maxLocals]; done) | rfl
set_option maxRecDepth 65536 in
set_option maxHeartbeats 40000000 in
theorem rm0 (l : Launch) (Z : State) (a0 : Array Value) (hw : ∀ d ∈ tables_1, d.before a0 Z = true) (ws : List Jvm.Cond) (p0 : Int32) (p1 : Int32) (p2 : Int32) (h0 : Heap) (n0 : Nat) (Z0 : n0 ≤ h0.size)  :
    MetFree l x (head1 (Jvm.Cond.code x code maxLocals ret :: ws) room_1) (fun a U => a = #[(.int p0), (.int p1), (.int p2)] ∧ Z.Warmed39 U.vm ∧ U.heap = h0) (fun _ _ _ _ _ => True) (fun _ U o U' => ∃ v L, o = .returned v ∧ (own_Q0 n0) v U'.heap L ∧ FrameEnd U o U' L room_1.cells room_1.slots) := by
  refine MetFree.of_bodySF (plainFor_of_name pn_com_example_unweave_unweave_uw_ValuationOfPinLaw) hisR ?_
  intro p e s m args below meth c s₁ Bd hml0 hP hK
  obtain ⟨rfl, hZ, hh⟩ := hP
  have hx := Bd.exec
  have hby := Bd.bytes
  have hml : c.maxLocals = 9 := hml0
  have hown : s.vm.findClass "com/example/unweave/unweave/uw/ValuationOfPinLaw" = some m.cls := findClass_of_methodNamed Bd.named
  have hnm := (name_of_methodNamed Bd.named Bd.method).1
  have X0 : Stand p l e room_1 s m #[(.int p0), (.int p1), (.int p2)] below meth c s₁ [] 0 0 := Stand.of_body Bd
  have e0 : s₁.heap = h0 := by rw [← hh, Bd.state]; rfl
  have N0 := Fr.nil n0
  refine own_body (QQ := (own_Q0 n0)) (ef_0 m p0 p1 p2) ?_
  refine own_via (s₁.setTop (mkF m 1 #[.val (.int p0), .val (.int p1), .val (.int p2), .unset, .unset, .unset, .unset, .unset, .unset] [(.int p2)])) (fun t k => XS.iloadN X0.here hx rfl (hb hby at_0) rfl  k) ?_
  refine own_via (s₁.setTop (mkF m 3 #[.val (.int p0), .val (.int p1), .val (.int p2), .unset, .unset, .unset, .unset, .unset, .unset] [(.int (31 : Int32)), (.int p2)])) (fun t k => XS.bipush X0.here hx rfl (hb hby at_1) k) ?_
  refine own_via (s₁.setTop (mkF m 4 #[.val (.int p0), .val (.int p1), .val (.int p2), .unset, .unset, .unset, .unset, .unset, .unset] [(.int (p2 &&& (31 : Int32)))])) (fun t k => XS.iand X0.here hx rfl (hb hby at_3) rfl k) ?_
  obtain ⟨z1, hz1⟩ : ∃ z : Int32, z = (p2 &&& (31 : Int32)) := ⟨_, rfl⟩
  refine own_via (s₁.setTop (mkF m 5 #[.val (.int p0), .val (.int p1), .val (.int p2), .val (.int z1), .unset, .unset, .unset, .unset, .unset] [])) (fun t k => XS.istoreN X0.here hx rfl (hb hby at_4) rfl (l' := #[.val (.int p0), .val (.int p1), .val (.int p2), .val (.int z1), .unset, .unset, .unset, .unset, .unset]) (by rw [hz1]; rfl) k) ?_
  refine own_via (s₁.setTop (mkF m 6 #[.val (.int p0), .val (.int p1), .val (.int p2), .val (.int z1), .unset, .unset, .unset, .unset, .unset] [(.int p0)])) (fun t k => XS.iloadN X0.here hx rfl (hb hby at_5) rfl  k) ?_
  refine own_via (s₁.setTop (mkF m 7 #[.val (.int p0), .val (.int p1), .val (.int p2), .val (.int z1), .unset, .unset, .unset, .unset, .unset] [(.int p1), (.int p0)])) (fun t k => XS.iloadN X0.here hx rfl (hb hby at_6) rfl  k) ?_
  obtain ⟨_, _, ⟨T2, L2, k2, n2⟩, -, X2, ⟨Lc2, hQ2, l2, y2, z2⟩, st2⟩ := Jvm.LawKit.callS X0 hx (y := (⟨"com/example/unweave/unweave/uw/Valuation", "of", "(II)J"⟩ : MethodName)) hown (mvT hZ (hw _ (List.mem_of_getElem? (i := 0) rfl))) (mvT hZ (hw _ (List.mem_of_getElem? (i := 1) rfl))) (mvT hZ (hw _ (List.mem_of_getElem? (i := 2) rfl))) (mvT hZ (hw _ (List.mem_of_getElem? (i := 3) rfl))) (by decide) (backOf (W := 0) (rm1 l Z a0 hw [] p0 p1 h0 n0 Z0) hZ (hw _ (List.mem_of_getElem? (i := 3) rfl)) (hw _ (List.mem_of_getElem? (i := 2) rfl)) (by decide) (by decide)) (g := (mkF m 7 #[.val (.int p0), .val (.int p1), .val (.int p2), .val (.int z1), .unset, .unset, .unset, .unset, .unset] [(.int p1), (.int p0)])) rfl (by rw [hml]; rfl) (argsL := [(.int p0), (.int p1)]) (rest := []) (lenOf pd_0 rfl) rfl (by show 2 * 0 + _ ≤ _; exact Nat.le_of_eq rfl) (hb hby at_7) (fun _ _ => ⟨rfl, e0, (by decide : 0 + 0 ≤ _), (by decide : 0 + 0 ≤ _)⟩)
  dsimp only [Pt.U, Pt.locs, Pt.cells, Pt.slots] at X2 l2 y2 z2 st2 hQ2
  subst l2 y2 z2
  obtain ⟨rfl, N2q, e2⟩ := hQ2
  have N2 := Fr.app N0 N2q
  refine own_via (T2.setTop (mkF m 10 #[.val (.int p0), .val (.int p1), .val (.int p2), .val (.int z1), .unset, .unset, .unset, .unset, .unset] [(.long (own_f1 p0 p1))])) (fun t k => st2 t k) ?_
  obtain ⟨z3, hz3⟩ : ∃ z : Int64, z = (own_f1 p0 p1) := ⟨_, rfl⟩
  refine own_via (T2.setTop (mkF m 12 #[.val (.int p0), .val (.int p1), .val (.int p2), .val (.int z1), .val (.long z3), .second, .unset, .unset, .unset] [])) (fun t k => XS.lstore X2.here hx rfl (hb hby at_10) rfl (l' := #[.val (.int p0), .val (.int p1), .val (.int p2), .val (.int z1), .val (.long z3), .second, .unset, .unset, .unset]) (by rw [hz3]; rfl) k) ?_
  refine own_via (T2.setTop (mkF m 14 #[.val (.int p0), .val (.int p1), .val (.int p2), .val (.int z1), .val (.long z3), .second, .unset, .unset, .unset] [(.long z3)])) (fun t k => XS.lload X2.here hx rfl (hb hby at_12) rfl  k) ?_
  refine own_via (T2.setTop (mkF m 16 #[.val (.int p0), .val (.int p1), .val (.int p2), .val (.int z1), .val (.long z3), .second, .unset, .unset, .unset] [(.int (32 : Int32)), (.long z3)])) (fun t k => XS.bipush X2.here hx rfl (hb hby at_14) k) ?_
  refine own_via (T2.setTop (mkF m 17 #[.val (.int p0), .val (.int p1), .val (.int p2), .val (.int z1), .val (.long z3), .second, .unset, .unset, .unset] [(.int z1), (.int (32 : Int32)), (.long z3)])) (fun t k => XS.iloadN X2.here hx rfl (hb hby at_16) rfl  k) ?_
  refine own_via (T2.setTop (mkF m 18 #[.val (.int p0), .val (.int p1), .val (.int p2), .val (.int z1), .val (.long z3), .second, .unset, .unset, .unset] [(.int ((32 : Int32) + z1)), (.long z3)])) (fun t k => XS.iadd X2.here hx rfl (hb hby at_17) rfl k) ?_
  refine own_via (T2.setTop (mkF m 19 #[.val (.int p0), .val (.int p1), .val (.int p2), .val (.int z1), .val (.long z3), .second, .unset, .unset, .unset] [(.long ((z3.toUInt64 >>> (((32 : Int32) + z1) &&& 0x3f).toInt64.toUInt64).toInt64))])) (fun t k => XS.lushr X2.here hx rfl (hb hby at_18) rfl k) ?_
  refine own_via (T2.setTop (mkF m 20 #[.val (.int p0), .val (.int p1), .val (.int p2), .val (.int z1), .val (.long z3), .second, .unset, .unset, .unset] [(.long (1 : Int64)), (.long ((z3.toUInt64 >>> (((32 : Int32) + z1) &&& 0x3f).toInt64.toUInt64).toInt64))])) (fun t k => XS.lconst X2.here hx rfl (hb hby at_19) k) ?_
  refine own_via (T2.setTop (mkF m 21 #[.val (.int p0), .val (.int p1), .val (.int p2), .val (.int z1), .val (.long z3), .second, .unset, .unset, .unset] [(.long (((z3.toUInt64 >>> (((32 : Int32) + z1) &&& 0x3f).toInt64.toUInt64).toInt64) &&& (1 : Int64)))])) (fun t k => XS.land X2.here hx rfl (hb hby at_20) rfl k) ?_
  refine own_via (T2.setTop (mkF m 22 #[.val (.int p0), .val (.int p1), .val (.int p2), .val (.int z1), .val (.long z3), .second, .unset, .unset, .unset] [(.int p0), (.long (((z3.toUInt64 >>> (((32 : Int32) + z1) &&& 0x3f).toInt64.toUInt64).toInt64) &&& (1 : Int64)))])) (fun t k => XS.iloadN X2.here hx rfl (hb hby at_21) rfl  k) ?_
  refine own_via (T2.setTop (mkF m 23 #[.val (.int p0), .val (.int p1), .val (.int p2), .val (.int z1), .val (.long z3), .second, .unset, .unset, .unset] [(.int z1), (.int p0), (.long (((z3.toUInt64 >>> (((32 : Int32) + z1) &&& 0x3f).toInt64.toUInt64).toInt64) &&& (1 : Int64)))])) (fun t k => XS.iloadN X2.here hx rfl (hb hby at_22) rfl  k) ?_
  refine own_via (T2.setTop (mkF m 24 #[.val (.int p0), .val (.int p1), .val (.int p2), .val (.int z1), .val (.long z3), .second, .unset, .unset, .unset] [(.int ((p0.toUInt32 >>> (z1 &&& 31).toUInt32).toInt32)), (.long (((z3.toUInt64 >>> (((32 : Int32) + z1) &&& 0x3f).toInt64.toUInt64).toInt64) &&& (1 : Int64)))])) (fun t k => XS.iushr X2.here hx rfl (hb hby at_23) rfl k) ?_
  refine own_via (T2.setTop (mkF m 25 #[.val (.int p0), .val (.int p1), .val (.int p2), .val (.int z1), .val (.long z3), .second, .unset, .unset, .unset] [(.int (1 : Int32)), (.int ((p0.toUInt32 >>> (z1 &&& 31).toUInt32).toInt32)), (.long (((z3.toUInt64 >>> (((32 : Int32) + z1) &&& 0x3f).toInt64.toUInt64).toInt64) &&& (1 : Int64)))])) (fun t k => XS.iconst X2.here hx rfl (hb hby at_24) k) ?_
  refine own_via (T2.setTop (mkF m 26 #[.val (.int p0), .val (.int p1), .val (.int p2), .val (.int z1), .val (.long z3), .second, .unset, .unset, .unset] [(.int (((p0.toUInt32 >>> (z1 &&& 31).toUInt32).toInt32) &&& (1 : Int32))), (.long (((z3.toUInt64 >>> (((32 : Int32) + z1) &&& 0x3f).toInt64.toUInt64).toInt64) &&& (1 : Int64)))])) (fun t k => XS.iand X2.here hx rfl (hb hby at_25) rfl k) ?_
  refine own_via (T2.setTop (mkF m 27 #[.val (.int p0), .val (.int p1), .val (.int p2), .val (.int z1), .val (.long z3), .second, .unset, .unset, .unset] [(.long ((((p0.toUInt32 >>> (z1 &&& 31).toUInt32).toInt32) &&& (1 : Int32)).toInt64)), (.long (((z3.toUInt64 >>> (((32 : Int32) + z1) &&& 0x3f).toInt64.toUInt64).toInt64) &&& (1 : Int64)))])) (fun t k => XS.i2l X2.here hx rfl (hb hby at_26) rfl k) ?_
  refine own_via (T2.setTop (mkF m 28 #[.val (.int p0), .val (.int p1), .val (.int p2), .val (.int z1), .val (.long z3), .second, .unset, .unset, .unset] [(.int (lcmpW (((z3.toUInt64 >>> (((32 : Int32) + z1) &&& 0x3f).toInt64.toUInt64).toInt64) &&& (1 : Int64)) ((((p0.toUInt32 >>> (z1 &&& 31).toUInt32).toInt32) &&& (1 : Int32)).toInt64)))])) (fun t k => XS.lcmp X2.here hx rfl (hb hby at_27) rfl k) ?_
  obtain ⟨z4, hz4⟩ : ∃ z : Int32, z = (if (((z3.toUInt64 >>> (((32 : Int32) + z1) &&& 0x3f).toInt64.toUInt64).toInt64) &&& (1 : Int64)) = ((((p0.toUInt32 >>> (z1 &&& 31).toUInt32).toInt32) &&& (1 : Int32)).toInt64) then (1 : Int32) else (0 : Int32)) := ⟨_, rfl⟩
  refine own_via (T2.setTop (mkF m 36 #[.val (.int p0), .val (.int p1), .val (.int p2), .val (.int z1), .val (.long z3), .second, .unset, .unset, .unset] [(.int z4)])) (fun t k => ?_) ?_
  · skip
    by_cases hj28_5 : (((z3.toUInt64 >>> (((32 : Int32) + z1) &&& 0x3f).toInt64.toUInt64).toInt64) &&& (1 : Int64)) = ((((p0.toUInt32 >>> (z1 &&& 31).toUInt32).toInt32) &&& (1 : Int32)).toInt64)
    · refine XS.ifNo X2.here hx rfl (hb hby at_28) rfl ((if0 _ _).trans (teq ((lw_eq (((z3.toUInt64 >>> (((32 : Int32) + z1) &&& 0x3f).toInt64.toUInt64).toInt64) &&& (1 : Int64)) ((((p0.toUInt32 >>> (z1 &&& 31).toUInt32).toInt32) &&& (1 : Int32)).toInt64)).mpr hj28_5)).2) (?_ : Steps p.tables e below (T2.setTop (mkF m 31 #[.val (.int p0), .val (.int p1), .val (.int p2), .val (.int z1), .val (.long z3), .second, .unset, .unset, .unset] [])) t)
      refine XS.iconst X2.here hx rfl (hb hby at_31) (?_ : Steps p.tables e below (T2.setTop (mkF m 32 #[.val (.int p0), .val (.int p1), .val (.int p2), .val (.int z1), .val (.long z3), .second, .unset, .unset, .unset] [(.int (1 : Int32))])) t)
      refine XS.goto X2.here hx rfl (pc0 := 32) (pc' := 36) rfl (hb hby at_32) (by decide) (by decide) (?_ : Steps p.tables e below (T2.setTop (mkF m 36 #[.val (.int p0), .val (.int p1), .val (.int p2), .val (.int z1), .val (.long z3), .second, .unset, .unset, .unset] [(.int (1 : Int32))])) t)
      have q_z4 := (hz4.trans (if_pos hj28_5))
      subst q_z4
      exact k
    · refine XS.ifYes X2.here hx rfl (pc0 := 28) (pc' := 35) rfl (hb hby at_28) rfl ((if0 _ _).trans (feq (fun q => hj28_5 ((lw_eq (((z3.toUInt64 >>> (((32 : Int32) + z1) &&& 0x3f).toInt64.toUInt64).toInt64) &&& (1 : Int64)) ((((p0.toUInt32 >>> (z1 &&& 31).toUInt32).toInt32) &&& (1 : Int32)).toInt64)).mp q))).2) (by decide) (by decide) (?_ : Steps p.tables e below (T2.setTop (mkF m 35 #[.val (.int p0), .val (.int p1), .val (.int p2), .val (.int z1), .val (.long z3), .second, .unset, .unset, .unset] [])) t)
      refine XS.iconst X2.here hx rfl (hb hby at_35) (?_ : Steps p.tables e below (T2.setTop (mkF m 36 #[.val (.int p0), .val (.int p1), .val (.int p2), .val (.int z1), .val (.long z3), .second, .unset, .unset, .unset] [(.int (0 : Int32))])) t)
      have q_z4 := (hz4.trans (if_neg hj28_5))
      subst q_z4
      exact k
  refine own_via (T2.setTop (mkF m 38 #[.val (.int p0), .val (.int p1), .val (.int p2), .val (.int z1), .val (.long z3), .second, .val (.int z4), .unset, .unset] [])) (fun t k => XS.istore X2.here hx rfl (hb hby at_36) rfl (l' := #[.val (.int p0), .val (.int p1), .val (.int p2), .val (.int z1), .val (.long z3), .second, .val (.int z4), .unset, .unset]) rfl k) ?_
  refine own_via (T2.setTop (mkF m 40 #[.val (.int p0), .val (.int p1), .val (.int p2), .val (.int z1), .val (.long z3), .second, .val (.int z4), .unset, .unset] [(.long z3)])) (fun t k => XS.lload X2.here hx rfl (hb hby at_38) rfl  k) ?_
  refine own_via (T2.setTop (mkF m 41 #[.val (.int p0), .val (.int p1), .val (.int p2), .val (.int z1), .val (.long z3), .second, .val (.int z4), .unset, .unset] [(.int z1), (.long z3)])) (fun t k => XS.iloadN X2.here hx rfl (hb hby at_40) rfl  k) ?_
  refine own_via (T2.setTop (mkF m 42 #[.val (.int p0), .val (.int p1), .val (.int p2), .val (.int z1), .val (.long z3), .second, .val (.int z4), .unset, .unset] [(.long ((z3.toUInt64 >>> (z1 &&& 0x3f).toInt64.toUInt64).toInt64))])) (fun t k => XS.lushr X2.here hx rfl (hb hby at_41) rfl k) ?_
  refine own_via (T2.setTop (mkF m 43 #[.val (.int p0), .val (.int p1), .val (.int p2), .val (.int z1), .val (.long z3), .second, .val (.int z4), .unset, .unset] [(.long (1 : Int64)), (.long ((z3.toUInt64 >>> (z1 &&& 0x3f).toInt64.toUInt64).toInt64))])) (fun t k => XS.lconst X2.here hx rfl (hb hby at_42) k) ?_
  refine own_via (T2.setTop (mkF m 44 #[.val (.int p0), .val (.int p1), .val (.int p2), .val (.int z1), .val (.long z3), .second, .val (.int z4), .unset, .unset] [(.long (((z3.toUInt64 >>> (z1 &&& 0x3f).toInt64.toUInt64).toInt64) &&& (1 : Int64)))])) (fun t k => XS.land X2.here hx rfl (hb hby at_43) rfl k) ?_
  refine own_via (T2.setTop (mkF m 45 #[.val (.int p0), .val (.int p1), .val (.int p2), .val (.int z1), .val (.long z3), .second, .val (.int z4), .unset, .unset] [(.int p1), (.long (((z3.toUInt64 >>> (z1 &&& 0x3f).toInt64.toUInt64).toInt64) &&& (1 : Int64)))])) (fun t k => XS.iloadN X2.here hx rfl (hb hby at_44) rfl  k) ?_
  refine own_via (T2.setTop (mkF m 46 #[.val (.int p0), .val (.int p1), .val (.int p2), .val (.int z1), .val (.long z3), .second, .val (.int z4), .unset, .unset] [(.int z1), (.int p1), (.long (((z3.toUInt64 >>> (z1 &&& 0x3f).toInt64.toUInt64).toInt64) &&& (1 : Int64)))])) (fun t k => XS.iloadN X2.here hx rfl (hb hby at_45) rfl  k) ?_
  refine own_via (T2.setTop (mkF m 47 #[.val (.int p0), .val (.int p1), .val (.int p2), .val (.int z1), .val (.long z3), .second, .val (.int z4), .unset, .unset] [(.int ((p1.toUInt32 >>> (z1 &&& 31).toUInt32).toInt32)), (.long (((z3.toUInt64 >>> (z1 &&& 0x3f).toInt64.toUInt64).toInt64) &&& (1 : Int64)))])) (fun t k => XS.iushr X2.here hx rfl (hb hby at_46) rfl k) ?_
  refine own_via (T2.setTop (mkF m 48 #[.val (.int p0), .val (.int p1), .val (.int p2), .val (.int z1), .val (.long z3), .second, .val (.int z4), .unset, .unset] [(.int (1 : Int32)), (.int ((p1.toUInt32 >>> (z1 &&& 31).toUInt32).toInt32)), (.long (((z3.toUInt64 >>> (z1 &&& 0x3f).toInt64.toUInt64).toInt64) &&& (1 : Int64)))])) (fun t k => XS.iconst X2.here hx rfl (hb hby at_47) k) ?_
  refine own_via (T2.setTop (mkF m 49 #[.val (.int p0), .val (.int p1), .val (.int p2), .val (.int z1), .val (.long z3), .second, .val (.int z4), .unset, .unset] [(.int (((p1.toUInt32 >>> (z1 &&& 31).toUInt32).toInt32) &&& (1 : Int32))), (.long (((z3.toUInt64 >>> (z1 &&& 0x3f).toInt64.toUInt64).toInt64) &&& (1 : Int64)))])) (fun t k => XS.iand X2.here hx rfl (hb hby at_48) rfl k) ?_
  refine own_via (T2.setTop (mkF m 50 #[.val (.int p0), .val (.int p1), .val (.int p2), .val (.int z1), .val (.long z3), .second, .val (.int z4), .unset, .unset] [(.long ((((p1.toUInt32 >>> (z1 &&& 31).toUInt32).toInt32) &&& (1 : Int32)).toInt64)), (.long (((z3.toUInt64 >>> (z1 &&& 0x3f).toInt64.toUInt64).toInt64) &&& (1 : Int64)))])) (fun t k => XS.i2l X2.here hx rfl (hb hby at_49) rfl k) ?_
  refine own_via (T2.setTop (mkF m 51 #[.val (.int p0), .val (.int p1), .val (.int p2), .val (.int z1), .val (.long z3), .second, .val (.int z4), .unset, .unset] [(.int (lcmpW (((z3.toUInt64 >>> (z1 &&& 0x3f).toInt64.toUInt64).toInt64) &&& (1 : Int64)) ((((p1.toUInt32 >>> (z1 &&& 31).toUInt32).toInt32) &&& (1 : Int32)).toInt64)))])) (fun t k => XS.lcmp X2.here hx rfl (hb hby at_50) rfl k) ?_
  obtain ⟨z6, hz6⟩ : ∃ z : Int32, z = (if (((z3.toUInt64 >>> (z1 &&& 0x3f).toInt64.toUInt64).toInt64) &&& (1 : Int64)) = ((((p1.toUInt32 >>> (z1 &&& 31).toUInt32).toInt32) &&& (1 : Int32)).toInt64) then (1 : Int32) else (0 : Int32)) := ⟨_, rfl⟩
  refine own_via (T2.setTop (mkF m 59 #[.val (.int p0), .val (.int p1), .val (.int p2), .val (.int z1), .val (.long z3), .second, .val (.int z4), .unset, .unset] [(.int z6)])) (fun t k => ?_) ?_
  · skip
    by_cases hj51_7 : (((z3.toUInt64 >>> (z1 &&& 0x3f).toInt64.toUInt64).toInt64) &&& (1 : Int64)) = ((((p1.toUInt32 >>> (z1 &&& 31).toUInt32).toInt32) &&& (1 : Int32)).toInt64)
    · refine XS.ifNo X2.here hx rfl (hb hby at_51) rfl ((if0 _ _).trans (teq ((lw_eq (((z3.toUInt64 >>> (z1 &&& 0x3f).toInt64.toUInt64).toInt64) &&& (1 : Int64)) ((((p1.toUInt32 >>> (z1 &&& 31).toUInt32).toInt32) &&& (1 : Int32)).toInt64)).mpr hj51_7)).2) (?_ : Steps p.tables e below (T2.setTop (mkF m 54 #[.val (.int p0), .val (.int p1), .val (.int p2), .val (.int z1), .val (.long z3), .second, .val (.int z4), .unset, .unset] [])) t)
      refine XS.iconst X2.here hx rfl (hb hby at_54) (?_ : Steps p.tables e below (T2.setTop (mkF m 55 #[.val (.int p0), .val (.int p1), .val (.int p2), .val (.int z1), .val (.long z3), .second, .val (.int z4), .unset, .unset] [(.int (1 : Int32))])) t)
      refine XS.goto X2.here hx rfl (pc0 := 55) (pc' := 59) rfl (hb hby at_55) (by decide) (by decide) (?_ : Steps p.tables e below (T2.setTop (mkF m 59 #[.val (.int p0), .val (.int p1), .val (.int p2), .val (.int z1), .val (.long z3), .second, .val (.int z4), .unset, .unset] [(.int (1 : Int32))])) t)
      have q_z6 := (hz6.trans (if_pos hj51_7))
      subst q_z6
      exact k
    · refine XS.ifYes X2.here hx rfl (pc0 := 51) (pc' := 58) rfl (hb hby at_51) rfl ((if0 _ _).trans (feq (fun q => hj51_7 ((lw_eq (((z3.toUInt64 >>> (z1 &&& 0x3f).toInt64.toUInt64).toInt64) &&& (1 : Int64)) ((((p1.toUInt32 >>> (z1 &&& 31).toUInt32).toInt32) &&& (1 : Int32)).toInt64)).mp q))).2) (by decide) (by decide) (?_ : Steps p.tables e below (T2.setTop (mkF m 58 #[.val (.int p0), .val (.int p1), .val (.int p2), .val (.int z1), .val (.long z3), .second, .val (.int z4), .unset, .unset] [])) t)
      refine XS.iconst X2.here hx rfl (hb hby at_58) (?_ : Steps p.tables e below (T2.setTop (mkF m 59 #[.val (.int p0), .val (.int p1), .val (.int p2), .val (.int z1), .val (.long z3), .second, .val (.int z4), .unset, .unset] [(.int (0 : Int32))])) t)
      have q_z6 := (hz6.trans (if_neg hj51_7))
      subst q_z6
      exact k
  refine own_via (T2.setTop (mkF m 61 #[.val (.int p0), .val (.int p1), .val (.int p2), .val (.int z1), .val (.long z3), .second, .val (.int z4), .val (.int z6), .unset] [])) (fun t k => XS.istore X2.here hx rfl (hb hby at_59) rfl (l' := #[.val (.int p0), .val (.int p1), .val (.int p2), .val (.int z1), .val (.long z3), .second, .val (.int z4), .val (.int z6), .unset]) rfl k) ?_
  refine own_via (T2.setTop (mkF m 63 #[.val (.int p0), .val (.int p1), .val (.int p2), .val (.int z1), .val (.long z3), .second, .val (.int z4), .val (.int z6), .unset] [(.long z3)])) (fun t k => XS.lload X2.here hx rfl (hb hby at_61) rfl  k) ?_
  obtain ⟨_, _, ⟨T8, L8, k8, n8⟩, -, X8, ⟨Lc8, hQ8, l8, y8, z8⟩, st8⟩ := Jvm.LawKit.callS X2 hx (y := (⟨"com/example/unweave/unweave/uw/Valuation", "getShared", "(J)I"⟩ : MethodName)) hown (mvT hZ (hw _ (List.mem_of_getElem? (i := 5) rfl))) (mvT hZ (hw _ (List.mem_of_getElem? (i := 6) rfl))) (mvT hZ (hw _ (List.mem_of_getElem? (i := 2) rfl))) (mvT hZ (hw _ (List.mem_of_getElem? (i := 7) rfl))) (by decide) (backOf (W := 0) (rm2 l Z a0 hw [] z3 h0 n0 Z0) hZ (hw _ (List.mem_of_getElem? (i := 7) rfl)) (hw _ (List.mem_of_getElem? (i := 2) rfl)) (by decide) (by decide)) (g := (mkF m 63 #[.val (.int p0), .val (.int p1), .val (.int p2), .val (.int z1), .val (.long z3), .second, .val (.int z4), .val (.int z6), .unset] [(.long z3)])) rfl (by rw [hml]; rfl) (argsL := [(.long z3)]) (rest := []) (lenOf pd_1 rfl) rfl (by show 2 * 0 + _ ≤ _; exact Nat.le_of_eq rfl) (hb hby at_63) (fun _ _ => ⟨rfl, e2, (by decide : 0 + 0 ≤ _), (by decide : 0 + 0 ≤ _)⟩)
  dsimp only [Pt.U, Pt.locs, Pt.cells, Pt.slots] at X8 l8 y8 z8 st8 hQ8
  subst l8 y8 z8
  obtain ⟨rfl, N8q, e8⟩ := hQ8
  have N8 := Fr.app N2 N8q
  refine own_via (T8.setTop (mkF m 66 #[.val (.int p0), .val (.int p1), .val (.int p2), .val (.int z1), .val (.long z3), .second, .val (.int z4), .val (.int z6), .unset] [(.int (own_f2 z3))])) (fun t k => st8 t k) ?_
  refine own_via (T8.setTop (mkF m 67 #[.val (.int p0), .val (.int p1), .val (.int p2), .val (.int z1), .val (.long z3), .second, .val (.int z4), .val (.int z6), .unset] [(.int p0), (.int (own_f2 z3))])) (fun t k => XS.iloadN X8.here hx rfl (hb hby at_66) rfl  k) ?_
  by_cases hc67_9 : (own_f2 z3) = p0
  · refine own_via (T8.setTop (mkF m 70 #[.val (.int p0), .val (.int p1), .val (.int p2), .val (.int z1), .val (.long z3), .second, .val (.int z4), .val (.int z6), .unset] [])) (fun t k => XS.icmpNo X8.here hx rfl (hb hby at_67) rfl (teq hc67_9).2 k) ?_
    refine own_via (T8.setTop (mkF m 72 #[.val (.int p0), .val (.int p1), .val (.int p2), .val (.int z1), .val (.long z3), .second, .val (.int z4), .val (.int z6), .unset] [(.long z3)])) (fun t k => XS.lload X8.here hx rfl (hb hby at_70) rfl  k) ?_
    obtain ⟨_, _, ⟨T10, L10, k10, n10⟩, -, X10, ⟨Lc10, hQ10, l10, y10, z10⟩, st10⟩ := Jvm.LawKit.callS X8 hx (y := (⟨"com/example/unweave/unweave/uw/Valuation", "getLocal", "(J)I"⟩ : MethodName)) hown (mvT hZ (hw _ (List.mem_of_getElem? (i := 8) rfl))) (mvT hZ (hw _ (List.mem_of_getElem? (i := 9) rfl))) (mvT hZ (hw _ (List.mem_of_getElem? (i := 2) rfl))) (mvT hZ (hw _ (List.mem_of_getElem? (i := 10) rfl))) (by decide) (backOf (W := 0) (rm3 l Z a0 hw [] z3 h0 n0 Z0) hZ (hw _ (List.mem_of_getElem? (i := 10) rfl)) (hw _ (List.mem_of_getElem? (i := 2) rfl)) (by decide) (by decide)) (g := (mkF m 72 #[.val (.int p0), .val (.int p1), .val (.int p2), .val (.int z1), .val (.long z3), .second, .val (.int z4), .val (.int z6), .unset] [(.long z3)])) rfl (by rw [hml]; rfl) (argsL := [(.long z3)]) (rest := []) (lenOf pd_1 rfl) rfl (by show 2 * 0 + _ ≤ _; exact Nat.le_of_eq rfl) (hb hby at_72) (fun _ _ => ⟨rfl, e8, (by decide : 0 + 0 ≤ _), (by decide : 0 + 0 ≤ _)⟩)
    dsimp only [Pt.U, Pt.locs, Pt.cells, Pt.slots] at X10 l10 y10 z10 st10 hQ10
    subst l10 y10 z10
    obtain ⟨rfl, N10q, e10⟩ := hQ10
    have N10 := Fr.app N8 N10q
    refine own_via (T10.setTop (mkF m 75 #[.val (.int p0), .val (.int p1), .val (.int p2), .val (.int z1), .val (.long z3), .second, .val (.int z4), .val (.int z6), .unset] [(.int (own_f3 z3))])) (fun t k => st10 t k) ?_
    refine own_via (T10.setTop (mkF m 76 #[.val (.int p0), .val (.int p1), .val (.int p2), .val (.int z1), .val (.long z3), .second, .val (.int z4), .val (.int z6), .unset] [(.int p1), (.int (own_f3 z3))])) (fun t k => XS.iloadN X10.here hx rfl (hb hby at_75) rfl  k) ?_
    obtain ⟨z11, hz11⟩ : ∃ z : Int32, z = (if (own_f3 z3) = p1 then (1 : Int32) else (0 : Int32)) := ⟨_, rfl⟩
    refine own_via (T10.setTop (mkF m 84 #[.val (.int p0), .val (.int p1), .val (.int p2), .val (.int z1), .val (.long z3), .second, .val (.int z4), .val (.int z6), .unset] [(.int z11)])) (fun t k => ?_) ?_
    · skip
      by_cases hj76_12 : (own_f3 z3) = p1
      · refine XS.icmpNo X10.here hx rfl (hb hby at_76) rfl (teq hj76_12).2 (?_ : Steps p.tables e below (T10.setTop (mkF m 79 #[.val (.int p0), .val (.int p1), .val (.int p2), .val (.int z1), .val (.long z3), .second, .val (.int z4), .val (.int z6), .unset] [])) t)
        refine XS.iconst X10.here hx rfl (hb hby at_79) (?_ : Steps p.tables e below (T10.setTop (mkF m 80 #[.val (.int p0), .val (.int p1), .val (.int p2), .val (.int z1), .val (.long z3), .second, .val (.int z4), .val (.int z6), .unset] [(.int (1 : Int32))])) t)
        refine XS.goto X10.here hx rfl (pc0 := 80) (pc' := 84) rfl (hb hby at_80) (by decide) (by decide) (?_ : Steps p.tables e below (T10.setTop (mkF m 84 #[.val (.int p0), .val (.int p1), .val (.int p2), .val (.int z1), .val (.long z3), .second, .val (.int z4), .val (.int z6), .unset] [(.int (1 : Int32))])) t)
        have q_z11 := (hz11.trans (if_pos hj76_12))
        subst q_z11
        exact k
      · refine XS.icmpYes X10.here hx rfl (pc0 := 76) (pc' := 83) rfl (hb hby at_76) rfl (feq hj76_12).2 (by decide) (by decide) (?_ : Steps p.tables e below (T10.setTop (mkF m 83 #[.val (.int p0), .val (.int p1), .val (.int p2), .val (.int z1), .val (.long z3), .second, .val (.int z4), .val (.int z6), .unset] [])) t)
        refine XS.iconst X10.here hx rfl (hb hby at_83) (?_ : Steps p.tables e below (T10.setTop (mkF m 84 #[.val (.int p0), .val (.int p1), .val (.int p2), .val (.int z1), .val (.long z3), .second, .val (.int z4), .val (.int z6), .unset] [(.int (0 : Int32))])) t)
        have q_z11 := (hz11.trans (if_neg hj76_12))
        subst q_z11
        exact k
    refine own_via (T10.setTop (mkF m 86 #[.val (.int p0), .val (.int p1), .val (.int p2), .val (.int z1), .val (.long z3), .second, .val (.int z4), .val (.int z6), .val (.int z11)] [])) (fun t k => XS.istore X10.here hx rfl (hb hby at_84) rfl (l' := #[.val (.int p0), .val (.int p1), .val (.int p2), .val (.int z1), .val (.long z3), .second, .val (.int z4), .val (.int z6), .val (.int z11)]) rfl k) ?_
    refine own_via (T10.setTop (mkF m 88 #[.val (.int p0), .val (.int p1), .val (.int p2), .val (.int z1), .val (.long z3), .second, .val (.int z4), .val (.int z6), .val (.int z11)] [(.int z4)])) (fun t k => XS.iload X10.here hx rfl (hb hby at_86) rfl  k) ?_
    obtain ⟨z13, hz13⟩ : ∃ z : Int32, z = (if z4 = (0 : Int32) then (0 : Int32) else (if z6 = (0 : Int32) then (0 : Int32) else (if z11 = (0 : Int32) then (0 : Int32) else (1 : Int32)))) := ⟨_, rfl⟩
    refine own_via (T10.setTop (mkF m 106 #[.val (.int p0), .val (.int p1), .val (.int p2), .val (.int z1), .val (.long z3), .second, .val (.int z4), .val (.int z6), .val (.int z11)] [(.int z13)])) (fun t k => ?_) ?_
    · skip
      by_cases hj88_14 : z4 = (0 : Int32)
      · refine XS.ifYes X10.here hx rfl (pc0 := 88) (pc' := 105) rfl (hb hby at_88) rfl ((if0 _ _).trans (teq hj88_14).1) (by decide) (by decide) (?_ : Steps p.tables e below (T10.setTop (mkF m 105 #[.val (.int p0), .val (.int p1), .val (.int p2), .val (.int z1), .val (.long z3), .second, .val (.int z4), .val (.int z6), .val (.int z11)] [])) t)
        refine XS.iconst X10.here hx rfl (hb hby at_105) (?_ : Steps p.tables e below (T10.setTop (mkF m 106 #[.val (.int p0), .val (.int p1), .val (.int p2), .val (.int z1), .val (.long z3), .second, .val (.int z4), .val (.int z6), .val (.int z11)] [(.int (0 : Int32))])) t)
        have q_z13 := (hz13.trans (if_pos hj88_14))
        subst q_z13
        exact k
      · refine XS.ifNo X10.here hx rfl (hb hby at_88) rfl ((if0 _ _).trans (feq hj88_14).1) (?_ : Steps p.tables e below (T10.setTop (mkF m 91 #[.val (.int p0), .val (.int p1), .val (.int p2), .val (.int z1), .val (.long z3), .second, .val (.int z4), .val (.int z6), .val (.int z11)] [])) t)
        refine XS.iload X10.here hx rfl (hb hby at_91) rfl  (?_ : Steps p.tables e below (T10.setTop (mkF m 93 #[.val (.int p0), .val (.int p1), .val (.int p2), .val (.int z1), .val (.long z3), .second, .val (.int z4), .val (.int z6), .val (.int z11)] [(.int z6)])) t)
        by_cases hj93_15 : z6 = (0 : Int32)
        · refine XS.ifYes X10.here hx rfl (pc0 := 93) (pc' := 105) rfl (hb hby at_93) rfl ((if0 _ _).trans (teq hj93_15).1) (by decide) (by decide) (?_ : Steps p.tables e below (T10.setTop (mkF m 105 #[.val (.int p0), .val (.int p1), .val (.int p2), .val (.int z1), .val (.long z3), .second, .val (.int z4), .val (.int z6), .val (.int z11)] [])) t)
          refine XS.iconst X10.here hx rfl (hb hby at_105) (?_ : Steps p.tables e below (T10.setTop (mkF m 106 #[.val (.int p0), .val (.int p1), .val (.int p2), .val (.int z1), .val (.long z3), .second, .val (.int z4), .val (.int z6), .val (.int z11)] [(.int (0 : Int32))])) t)
          have q_z13 := ((hz13.trans (if_neg hj88_14)).trans (if_pos hj93_15))
          subst q_z13
          exact k
        · refine XS.ifNo X10.here hx rfl (hb hby at_93) rfl ((if0 _ _).trans (feq hj93_15).1) (?_ : Steps p.tables e below (T10.setTop (mkF m 96 #[.val (.int p0), .val (.int p1), .val (.int p2), .val (.int z1), .val (.long z3), .second, .val (.int z4), .val (.int z6), .val (.int z11)] [])) t)
          refine XS.iload X10.here hx rfl (hb hby at_96) rfl  (?_ : Steps p.tables e below (T10.setTop (mkF m 98 #[.val (.int p0), .val (.int p1), .val (.int p2), .val (.int z1), .val (.long z3), .second, .val (.int z4), .val (.int z6), .val (.int z11)] [(.int z11)])) t)
          by_cases hj98_16 : z11 = (0 : Int32)
          · refine XS.ifYes X10.here hx rfl (pc0 := 98) (pc' := 105) rfl (hb hby at_98) rfl ((if0 _ _).trans (teq hj98_16).1) (by decide) (by decide) (?_ : Steps p.tables e below (T10.setTop (mkF m 105 #[.val (.int p0), .val (.int p1), .val (.int p2), .val (.int z1), .val (.long z3), .second, .val (.int z4), .val (.int z6), .val (.int z11)] [])) t)
            refine XS.iconst X10.here hx rfl (hb hby at_105) (?_ : Steps p.tables e below (T10.setTop (mkF m 106 #[.val (.int p0), .val (.int p1), .val (.int p2), .val (.int z1), .val (.long z3), .second, .val (.int z4), .val (.int z6), .val (.int z11)] [(.int (0 : Int32))])) t)
            have q_z13 := (((hz13.trans (if_neg hj88_14)).trans (if_neg hj93_15)).trans (if_pos hj98_16))
            subst q_z13
            exact k
          · refine XS.ifNo X10.here hx rfl (hb hby at_98) rfl ((if0 _ _).trans (feq hj98_16).1) (?_ : Steps p.tables e below (T10.setTop (mkF m 101 #[.val (.int p0), .val (.int p1), .val (.int p2), .val (.int z1), .val (.long z3), .second, .val (.int z4), .val (.int z6), .val (.int z11)] [])) t)
            refine XS.iconst X10.here hx rfl (hb hby at_101) (?_ : Steps p.tables e below (T10.setTop (mkF m 102 #[.val (.int p0), .val (.int p1), .val (.int p2), .val (.int z1), .val (.long z3), .second, .val (.int z4), .val (.int z6), .val (.int z11)] [(.int (1 : Int32))])) t)
            refine XS.goto X10.here hx rfl (pc0 := 102) (pc' := 106) rfl (hb hby at_102) (by decide) (by decide) (?_ : Steps p.tables e below (T10.setTop (mkF m 106 #[.val (.int p0), .val (.int p1), .val (.int p2), .val (.int z1), .val (.long z3), .second, .val (.int z4), .val (.int z6), .val (.int z11)] [(.int (1 : Int32))])) t)
            have q_z13 := (((hz13.trans (if_neg hj88_14)).trans (if_neg hj93_15)).trans (if_neg hj98_16))
            subst q_z13
            exact k
    refine own_leave X10 Bd.notSynchronized (v := some (.int (nar .boolean z13))) (fun h => by rw [Bd.returns] at h; cases h) (fun fs hr => retN X10 hx (t := .boolean) Bd.returns (by simp) (hb hby at_106) hr) ?_ (by decide) (by decide)
    refine ⟨?_, N10⟩
    have a1 : z4 = 1 := by rw [hz4, hz3, hz1, if_pos (own_C _ _ _)]
    have a2 : z6 = 1 := by rw [hz6, hz3, hz1, if_pos (own_D _ _ _)]
    have a3 : z11 = 1 := by rw [hz11, hz3, if_pos (own_B _ _)]
    rw [hz13, a1, a2, a3]; rfl
  · refine own_via (T8.setTop (mkF m 83 #[.val (.int p0), .val (.int p1), .val (.int p2), .val (.int z1), .val (.long z3), .second, .val (.int z4), .val (.int z6), .unset] [])) (fun t k => XS.icmpYes X8.here hx rfl (pc0 := 67) (pc' := 83) rfl (hb hby at_67) rfl (feq hc67_9).2 (by decide) (by decide) k) ?_
    refine own_via (T8.setTop (mkF m 84 #[.val (.int p0), .val (.int p1), .val (.int p2), .val (.int z1), .val (.long z3), .second, .val (.int z4), .val (.int z6), .unset] [(.int (0 : Int32))])) (fun t k => XS.iconst X8.here hx rfl (hb hby at_83) k) ?_
    refine own_via (T8.setTop (mkF m 86 #[.val (.int p0), .val (.int p1), .val (.int p2), .val (.int z1), .val (.long z3), .second, .val (.int z4), .val (.int z6), .val (.int (0 : Int32))] [])) (fun t k => XS.istore X8.here hx rfl (hb hby at_84) rfl (l' := #[.val (.int p0), .val (.int p1), .val (.int p2), .val (.int z1), .val (.long z3), .second, .val (.int z4), .val (.int z6), .val (.int (0 : Int32))]) rfl k) ?_
    refine own_via (T8.setTop (mkF m 88 #[.val (.int p0), .val (.int p1), .val (.int p2), .val (.int z1), .val (.long z3), .second, .val (.int z4), .val (.int z6), .val (.int (0 : Int32))] [(.int z4)])) (fun t k => XS.iload X8.here hx rfl (hb hby at_86) rfl  k) ?_
    refine own_via (T8.setTop (mkF m 106 #[.val (.int p0), .val (.int p1), .val (.int p2), .val (.int z1), .val (.long z3), .second, .val (.int z4), .val (.int z6), .val (.int (0 : Int32))] [(.int (0 : Int32))])) (fun t k => ?_) ?_
    · skip
      by_cases hj88_17 : z4 = (0 : Int32)
      · refine XS.ifYes X8.here hx rfl (pc0 := 88) (pc' := 105) rfl (hb hby at_88) rfl ((if0 _ _).trans (teq hj88_17).1) (by decide) (by decide) (?_ : Steps p.tables e below (T8.setTop (mkF m 105 #[.val (.int p0), .val (.int p1), .val (.int p2), .val (.int z1), .val (.long z3), .second, .val (.int z4), .val (.int z6), .val (.int (0 : Int32))] [])) t)
        refine XS.iconst X8.here hx rfl (hb hby at_105) (?_ : Steps p.tables e below (T8.setTop (mkF m 106 #[.val (.int p0), .val (.int p1), .val (.int p2), .val (.int z1), .val (.long z3), .second, .val (.int z4), .val (.int z6), .val (.int (0 : Int32))] [(.int (0 : Int32))])) t)
        exact k
      · refine XS.ifNo X8.here hx rfl (hb hby at_88) rfl ((if0 _ _).trans (feq hj88_17).1) (?_ : Steps p.tables e below (T8.setTop (mkF m 91 #[.val (.int p0), .val (.int p1), .val (.int p2), .val (.int z1), .val (.long z3), .second, .val (.int z4), .val (.int z6), .val (.int (0 : Int32))] [])) t)
        refine XS.iload X8.here hx rfl (hb hby at_91) rfl  (?_ : Steps p.tables e below (T8.setTop (mkF m 93 #[.val (.int p0), .val (.int p1), .val (.int p2), .val (.int z1), .val (.long z3), .second, .val (.int z4), .val (.int z6), .val (.int (0 : Int32))] [(.int z6)])) t)
        by_cases hj93_18 : z6 = (0 : Int32)
        · refine XS.ifYes X8.here hx rfl (pc0 := 93) (pc' := 105) rfl (hb hby at_93) rfl ((if0 _ _).trans (teq hj93_18).1) (by decide) (by decide) (?_ : Steps p.tables e below (T8.setTop (mkF m 105 #[.val (.int p0), .val (.int p1), .val (.int p2), .val (.int z1), .val (.long z3), .second, .val (.int z4), .val (.int z6), .val (.int (0 : Int32))] [])) t)
          refine XS.iconst X8.here hx rfl (hb hby at_105) (?_ : Steps p.tables e below (T8.setTop (mkF m 106 #[.val (.int p0), .val (.int p1), .val (.int p2), .val (.int z1), .val (.long z3), .second, .val (.int z4), .val (.int z6), .val (.int (0 : Int32))] [(.int (0 : Int32))])) t)
          exact k
        · refine XS.ifNo X8.here hx rfl (hb hby at_93) rfl ((if0 _ _).trans (feq hj93_18).1) (?_ : Steps p.tables e below (T8.setTop (mkF m 96 #[.val (.int p0), .val (.int p1), .val (.int p2), .val (.int z1), .val (.long z3), .second, .val (.int z4), .val (.int z6), .val (.int (0 : Int32))] [])) t)
          refine XS.iload X8.here hx rfl (hb hby at_96) rfl  (?_ : Steps p.tables e below (T8.setTop (mkF m 98 #[.val (.int p0), .val (.int p1), .val (.int p2), .val (.int z1), .val (.long z3), .second, .val (.int z4), .val (.int z6), .val (.int (0 : Int32))] [(.int (0 : Int32))])) t)
          refine XS.ifYes X8.here hx rfl (pc0 := 98) (pc' := 105) rfl (hb hby at_98) rfl ((if0 _ _).trans (teq (by decide)).1) (by decide) (by decide) (?_ : Steps p.tables e below (T8.setTop (mkF m 105 #[.val (.int p0), .val (.int p1), .val (.int p2), .val (.int z1), .val (.long z3), .second, .val (.int z4), .val (.int z6), .val (.int (0 : Int32))] [])) t)
          refine XS.iconst X8.here hx rfl (hb hby at_105) (?_ : Steps p.tables e below (T8.setTop (mkF m 106 #[.val (.int p0), .val (.int p1), .val (.int p2), .val (.int z1), .val (.long z3), .second, .val (.int z4), .val (.int z6), .val (.int (0 : Int32))] [(.int (0 : Int32))])) t)
          exact k
    refine own_leave X8 Bd.notSynchronized (v := some (.int (0 : Int32))) (fun h => by rw [Bd.returns] at h; cases h) (fun fs hr => retN X8 hx (t := .boolean) Bd.returns (by simp) (hb hby at_106) hr) ?_ (by decide) (by decide)
    exfalso
    exact absurd (by rw [hz3]; exact own_A _ _) hc67_9
set_option maxRecDepth 65536 in
set_option maxHeartbeats 40000000 in
theorem comes_1 {Post : Tables → Env → Array Value → State → Outcome → State → Prop} (hpost : ∀ tb e args s v u, (limb_1_1.after args s (.returned v) u = true ∧ limb_1_2.after args s (.returned v) u = true ∧ True) → FrameEnd s (.returned v) u (Jvm.fieldLocs frame_1_writes args s ++ Jvm.arrayLocs frame_1_arrays args s ++ Jvm.staticLocs frame_1_statics s) 0 0 → Post tb e args s (.returned v) u) :
    ArmFor flags0 classFile x code maxLocals ret World_1 tables_1 room_1 Calls_1 rest_1 Pre_1 Post := by
  intro l hfl _ _ p e ha hc hk s m args below hf hA hF happ hP
  obtain ⟨hcalls, hrest, hpre⟩ := hP
  obtain ⟨-, -, -, hnamed, -, -, -, hat⟩ := (Spec.applies_iff hf).mp happ
  obtain ⟨hg, hn⟩ := and_e (Cond.before_iff.mp (show (Jvm.Cond.and given_1 narrow_1).before args s = true from hpre))
  obtain ⟨g0, g⟩ := and_e hg
  obtain ⟨ga0, g⟩ := and_e g
  obtain ⟨ga1, g⟩ := and_e g
  have ga2 := g
  obtain ⟨w0, w1, w2, rfl⟩ : ∃ w0 w1 w2 : Value, args = #[w0, w1, w2] := by
    have hs : args.size = 3 := by simpa [Cond.value, given_1] using g0
    obtain ⟨L⟩ := args
    match L, hs with
    | [w0, w1, w2], _ => exact ⟨w0, w1, w2, rfl⟩
  have hw := fun d (hd : d ∈ tables_1) => atoms_spec (ws := Jvm.Cond.code x code maxLocals ret :: tables_1) hat d (List.mem_cons_of_mem _ hd)
  have hfit : Fit s := fun {y c} hc i hi => by
    obtain ⟨ha, rfl⟩ := Array.getElem?_eq_some_iff.mp hc
    have q := List.all_eq_true.mp ((Array.all_eq_true_iff_forall_mem.mp hF) _ (Array.getElem_mem ha)) i (List.mem_range.mpr hi)
    simpa [Array.getElem?_eq_getElem hi] using q
  obtain ⟨i0, ei0⟩ := is_v ga0
  obtain rfl : w0 = (.int i0) := Option.some.inj ei0
  obtain ⟨i1, ei1⟩ := is_v ga1
  obtain rfl : w1 = (.int i1) := Option.some.inj ei1
  obtain ⟨i2, ei2⟩ := is_v ga2
  obtain rfl : w2 = (.int i2) := Option.some.inj ei2
  obtain ⟨n, o, h1, h2, h3, _, L, rfl, ⟨rfl, N⟩, hq⟩ := rm0 l s _ hw tables_1 i0 i1 i2 s.heap s.heap.size (Nat.le_refl _)  p e ha hc hk s m _ below hf ((Spec.applies_iff_loose hf).mp happ).1 ⟨rfl, State.Warmed39.refl s, rfl⟩ trivial
  refine ⟨n, _, h1, h2, h3, hpost _ _ _ _ _ _ ⟨Cond.after_iff.mpr rfl, Cond.after_iff.mpr (eq_i res_at (Term.int_eval (1)) rfl), trivial⟩ ⟨hq.1, hq.2.1, (hq.2.2.sift fun y hy => Or.inr (N y hy)).mono (by decide) (by decide)⟩⟩
theorem main_1_1 : Claimed_1_1 := comes_1 fun _ _ _ _ _ _ h hF => ⟨h.1, hF⟩
theorem main_1_2 : Claimed_1_2 := comes_1 fun _ _ _ _ _ _ h hF => ⟨h.2.1, hF⟩
end Jvm.Pilot.@@N@@
namespace Jvm.Pilot.@@N@@
open Jvm Jvm.ClassFile Sem Op Lib Jvm.Free Jvm.Stand Jvm.Pilot.@@N@@.Jvm.D
/-! MADE BY PROGRAM (witnessworld.py) out of the Statement's table words and the real class files: 9 classes; the members and pool entries that the words name. The judged class is class 1, her method 1. -/
namespace start1
open Jvm.ClassFile
def u (s : String) : CpInfo := .utf8 (stringToUtf16 s)
/-- a pool by its gaps: so many unusable entries, then the entry; so many at the end -/
def gap : Nat → List CpInfo → List CpInfo
  | 0, r => r
  | n + 1, r => .unusable :: gap n r
def poolList (es : List (Nat × CpInfo)) (last : Nat) : List CpInfo := es.foldr (fun e r => gap e.1 (e.2 :: r)) (gap last [])
def pool (es : List (Nat × CpInfo)) (last : Nat) : Array CpInfo := ⟨poolList es last⟩
def fileOf (pool : Array CpInfo) (this : Nat) (attrs : Array Attribute := #[]) (ms : Array MethodInfo := #[]) (fl : Nat := 33) (sup : Nat := 0) (ifs : Array Nat := #[]) (fds : Array FieldInfo := #[]) : ClassFile where
  minorVersion := 0
  majorVersion := 65
  constantPool := pool
  accessFlags := fl
  thisClass := this
  superClass := sup
  interfaces := ifs
  fields := fds
  methods := ms
  attributes := attrs
def plain (name : String) (sup : Option ClassId) : Class where
  name := name
  kind := .ordinary
  loader := none
  accessFlags := 33
  super := sup
  interfaces := #[]
  cf := none
  fields := #[]
  methods := #[]
  instanceTypes := #[]
  staticTypes := #[]
  resolved := #[]
  callSites := []
  init := .initialized
  statics := none
  mirror := none

def pool0 : Array CpInfo := pool [(5, u "<init>"), (0, u "()V"), (1, .class_ 10), (1, u "java/lang/Object")] 113

def k0m0 : Method := { name := "<init>", desc := "()V", sig := { parameters := [], returnType := none }, accessFlags := 1, code := none }
/-- java/lang/Object -/
def k0 : Class := { plain "java/lang/Object" none with
  accessFlags := 33
  interfaces := #[]
  cf := some (fileOf pool0 8 #[] #[{ accessFlags := 1, nameIndex := 5, descriptorIndex := 6, attributes := #[] }] 33 0 #[] #[])
  fields := #[]
  methods := #[k0m0]
  instanceTypes := #[]
  staticTypes := #[]
  resolved := Array.replicate 124 none
  statics := none }

def pool1 : Array CpInfo := pool [(2, .class_ 4), (1, u "java/lang/Object"), (0, u "<init>"), (0, u "()V"), (0, .methodref 8 9), (0, .class_ 10), (0, .nameAndType 11 12), (0, u "com/example/unweave/unweave/uw/Valuation"), (0, u "of"), (0, u "(II)J"), (0, .methodref 8 14), (0, .nameAndType 15 16), (0, u "getShared"), (0, u "(J)I"), (0, .methodref 8 18), (0, .nameAndType 19 16), (0, u "getLocal"), (0, .class_ 21), (0, u "com/example/unweave/unweave/uw/ValuationOfPinLaw"), (2, u "law"), (0, u "(III)Z")] 3

def k1m0 : Method := { name := "<init>", desc := "()V", sig := { parameters := [], returnType := none }, accessFlags := 2, code := none }
def k1c1 : Code := { maxStack := 4, maxLocals := 9, code := code, exceptionTable := #[], attributes := #[] }
def k1m1 : Method := { name := "law", desc := "(III)Z", sig := { parameters := [.int, .int, .int], returnType := some .boolean }, accessFlags := 9, code := some k1c1 }
/-- com/example/unweave/unweave/uw/ValuationOfPinLaw -/
def k1 : Class := { plain "com/example/unweave/unweave/uw/ValuationOfPinLaw" (some 0) with
  accessFlags := 49
  interfaces := #[]
  cf := some (fileOf pool1 20 #[] #[{ accessFlags := 2, nameIndex := 5, descriptorIndex := 6, attributes := #[] }, { accessFlags := 9, nameIndex := 24, descriptorIndex := 25, attributes := #[] }] 49 2 #[] #[])
  fields := #[]
  methods := #[k1m0, k1m1]
  instanceTypes := #[]
  staticTypes := #[]
  resolved := Array.replicate 29 none
  statics := none }

def pool2 : Array CpInfo := pool [(2, .class_ 4), (1, u "java/lang/Object"), (0, u "<init>"), (0, u "()V"), (2, .long 4294967295), (1, .class_ 12), (0, u "com/example/unweave/unweave/uw/Valuation"), (2, u "of"), (0, u "(II)J"), (0, u "getShared"), (0, u "(J)I"), (0, u "getLocal")] 2

def k2m0 : Method := { name := "<init>", desc := "()V", sig := { parameters := [], returnType := none }, accessFlags := 2, code := none }
def k2c1 : Code := { maxStack := 6, maxLocals := 2, code := prog_106_method_2_code, exceptionTable := #[], attributes := #[] }
def k2m1 : Method := { name := "of", desc := "(II)J", sig := { parameters := [.int, .int], returnType := some .long }, accessFlags := 8, code := some k2c1 }
def k2c2 : Code := { maxStack := 3, maxLocals := 2, code := prog_106_method_3_code, exceptionTable := #[], attributes := #[] }
def k2m2 : Method := { name := "getShared", desc := "(J)I", sig := { parameters := [.long], returnType := some .int }, accessFlags := 8, code := some k2c2 }
def k2c3 : Code := { maxStack := 2, maxLocals := 2, code := prog_106_method_4_code, exceptionTable := #[], attributes := #[] }
def k2m3 : Method := { name := "getLocal", desc := "(J)I", sig := { parameters := [.long], returnType := some .int }, accessFlags := 8, code := some k2c3 }
/-- com/example/unweave/unweave/uw/Valuation -/
def k2 : Class := { plain "com/example/unweave/unweave/uw/Valuation" (some 0) with
  accessFlags := 48
  interfaces := #[]
  cf := some (fileOf pool2 11 #[] #[{ accessFlags := 2, nameIndex := 5, descriptorIndex := 6, attributes := #[] }, { accessFlags := 8, nameIndex := 15, descriptorIndex := 16, attributes := #[] }, { accessFlags := 8, nameIndex := 17, descriptorIndex := 18, attributes := #[] }, { accessFlags := 8, nameIndex := 19, descriptorIndex := 18, attributes := #[] }] 48 2 #[] #[])
  fields := #[]
  methods := #[k2m0, k2m1, k2m2, k2m3]
  instanceTypes := #[]
  staticTypes := #[]
  resolved := Array.replicate 22 none
  statics := none }

def pool3 : Array CpInfo := pool [(1, u "java/lang/Cloneable"), (0, .class_ 1), (0, u "java/lang/Object"), (0, .class_ 3)] 3

/-- java/lang/Cloneable -/
def k3 : Class := { plain "java/lang/Cloneable" (some 0) with
  accessFlags := 1537
  interfaces := #[]
  cf := some (fileOf pool3 2 #[] #[] 1537 4 #[] #[])
  fields := #[]
  methods := #[]
  instanceTypes := #[]
  staticTypes := #[]
  resolved := Array.replicate 8 none
  statics := none }

def pool4 : Array CpInfo := pool [(1, u "java/io/Serializable"), (0, .class_ 1), (0, u "java/lang/Object"), (0, .class_ 3)] 3

/-- java/io/Serializable -/
def k4 : Class := { plain "java/io/Serializable" (some 0) with
  accessFlags := 1537
  interfaces := #[]
  cf := some (fileOf pool4 2 #[] #[] 1537 4 #[] #[])
  fields := #[]
  methods := #[]
  instanceTypes := #[]
  staticTypes := #[]
  resolved := Array.replicate 8 none
  statics := none }

/-- the primitive byte -/
def k5 : Class := { plain "byte" none with kind := .primitive 'B', accessFlags := 0x411 }
/-- [B -/
def k6 : Class := { plain "[B" (some 0) with kind := .array 5 .byte, interfaces := #[3, 4], accessFlags := 1041 }

/-- the primitive int -/
def k7 : Class := { plain "int" none with kind := .primitive 'I', accessFlags := 0x411 }
/-- [I -/
def k8 : Class := { plain "[I" (some 0) with kind := .array 7 .int, interfaces := #[3, 4], accessFlags := 1041 }

def heap : Heap := #[]
def classes : Array Class := #[k0, k1, k2, k3, k4, k5, k6, k7, k8]
def interned : List (Array UInt16 × Addr) := []
def slotsUsed : Nat := 0
def theMethod : MethodId := ⟨1, 1⟩
def args0 : Array Value := #[.int 5, .int 7, .int 3]
def aboutOver (below : List Frame) : State where
  vm := { classes := classes, interned := interned.toArray }
  heap := heap
  slotsUsed := slotsUsed
  threads := #[{ frames := .invoking theMethod args0 :: below }]
def below0 : List Frame := [.native { method := ⟨0, 0⟩, args := #[] }]
def about1 : State := aboutOver below0
def p0 : Program := .bare "" "" ""
def e0 : Env := launch0.env 0 0 0
theorem w_frames : about1.frames = Frame.invoking theMethod args0 :: below0 := rfl
set_option maxRecDepth 65536 in
theorem w_args : argsFit about1.vm theMethod args0 = true := by decide +kernel
set_option maxRecDepth 65536 in
theorem w_heap : heapFits about1 = true := by decide +kernel
set_option maxRecDepth 65536 in
theorem w_runnable : about1.curStatus? = some .runnable := by decide +kernel
set_option maxRecDepth 65536 in
theorem w_alone : about1.alone = true := by decide +kernel
set_option maxRecDepth 65536 in
theorem w_named : about1.methodNamed? x = some theMethod := by decide +kernel
set_option maxRecDepth 65536 in
theorem w_hears : about1.hears theMethod below0 = true := by decide +kernel
set_option maxRecDepth 65536 in
theorem w_ripe : about1.ripe theMethod args0 below0 = true := by decide +kernel
theorem w_running : about1.status = .running := rfl
set_option maxRecDepth 65536 in
theorem w_room : about1.hasRoom e0.platform room_1 = true :=
  launch0.hasRoom_least _ room_1 (by decide +kernel) (by decide +kernel) (by decide +kernel) (by decide +kernel) (by decide +kernel) (by decide +kernel)
theorem allAtoms_all (ts : List Jvm.Cond) (a : Array Jvm.Value) (st : Jvm.State) : (allAtoms ts).before a st = ts.all (fun c => c.before a st) := by
  induction ts with
  | nil => rfl
  | cons c t ih =>
    show (Jvm.Cond.and c (allAtoms t)).before a st = _
    rw [Jvm.Cond.before_and, ih, List.all_cons]
def words1 : List Jvm.Cond := Jvm.Cond.code x code maxLocals ret :: tables_1
/-- a 'code' word, met by the world's own term for the bytes: nothing is compared byte by byte -/
theorem code_word {y : MethodName} {bytes : ByteArray} {mx : Nat} {rt : Option FieldType} {a : Array Value} {s : State} {m : MethodId} {meth : Method} {c : Code} (h1 : s.methodNamed? y = some m) (h2 : s.vm.method? m = some meth) (h3 : meth.code = some c) (h4 : c.code = bytes)
    (h5 : (c.maxLocals == mx && c.exceptionTable.isEmpty && decide (c.maxStack ≤ mostOperands) && decide (meth.sig.returnType = rt) && !meth.locks && decide (parseMethodDescriptor y.desc = some meth.sig)) = true) : (Jvm.Cond.code y bytes mx rt).before a s = true := by
  simp only [Bool.and_eq_true, beq_iff_eq, Bool.not_eq_true', decide_eq_true_eq] at h5
  obtain ⟨⟨⟨⟨⟨g1, g2⟩, g3⟩, g4⟩, g5⟩, g6⟩ := h5
  simp [Cond.before, Cond.holds, Cond.value, h1, h2, h3, h4, g1, g2, g3, g4, g5, g6]
def isCode : Jvm.Cond → Bool
  | .code _ _ _ _ => true
  | _ => false
theorem all_split {L : List Jvm.Cond} {P : Jvm.Cond → Bool} (h1 : L.all (fun c => isCode c || P c) = true) (h2 : ∀ c ∈ L.filter isCode, P c = true) : L.all P = true := by
  refine List.all_eq_true.mpr fun c hc => ?_
  have h := List.all_eq_true.mp h1 c hc
  rcases Bool.eq_false_or_eq_true (isCode c) with hi | hi
  · exact h2 c (List.mem_filter.mpr ⟨hc, hi⟩)
  · simpa [hi] using h
set_option maxRecDepth 65536 in
theorem w_c0 : (Jvm.Cond.code x code maxLocals ret).before args0 about1 = true := code_word (m := ⟨1, 1⟩) (meth := k1m1) (c := k1c1) (by decide +kernel) rfl rfl rfl (by decide +kernel)
set_option maxRecDepth 65536 in
theorem w_c1 : (Jvm.Cond.code ({ cls := "com/example/unweave/unweave/uw/Valuation", name := "of", desc := "(II)J" } : Jvm.MethodName) prog_106_method_2_code (2 : Nat) (Option.some Jvm.ClassFile.FieldType.long)).before args0 about1 = true := code_word (m := ⟨2, 1⟩) (meth := k2m1) (c := k2c1) (by decide +kernel) rfl rfl rfl (by decide +kernel)
set_option maxRecDepth 65536 in
theorem w_c2 : (Jvm.Cond.code ({ cls := "com/example/unweave/unweave/uw/Valuation", name := "getShared", desc := "(J)I" } : Jvm.MethodName) prog_106_method_3_code (2 : Nat) (Option.some Jvm.ClassFile.FieldType.int)).before args0 about1 = true := code_word (m := ⟨2, 2⟩) (meth := k2m2) (c := k2c2) (by decide +kernel) rfl rfl rfl (by decide +kernel)
set_option maxRecDepth 65536 in
theorem w_c3 : (Jvm.Cond.code ({ cls := "com/example/unweave/unweave/uw/Valuation", name := "getLocal", desc := "(J)I" } : Jvm.MethodName) prog_106_method_4_code (2 : Nat) (Option.some Jvm.ClassFile.FieldType.int)).before args0 about1 = true := code_word (m := ⟨2, 3⟩) (meth := k2m3) (c := k2c3) (by decide +kernel) rfl rfl rfl (by decide +kernel)
def codes1 : List Jvm.Cond := [Jvm.Cond.code x code maxLocals ret, Jvm.Cond.code ({ cls := "com/example/unweave/unweave/uw/Valuation", name := "of", desc := "(II)J" } : Jvm.MethodName) prog_106_method_2_code (2 : Nat) (Option.some Jvm.ClassFile.FieldType.long), Jvm.Cond.code ({ cls := "com/example/unweave/unweave/uw/Valuation", name := "getShared", desc := "(J)I" } : Jvm.MethodName) prog_106_method_3_code (2 : Nat) (Option.some Jvm.ClassFile.FieldType.int), Jvm.Cond.code ({ cls := "com/example/unweave/unweave/uw/Valuation", name := "getLocal", desc := "(J)I" } : Jvm.MethodName) prog_106_method_4_code (2 : Nat) (Option.some Jvm.ClassFile.FieldType.int)]
set_option maxRecDepth 65536 in
theorem codes_eq : words1.filter isCode = codes1 := rfl
theorem w_codes : ∀ c ∈ words1.filter isCode, c.before args0 about1 = true := by
  rw [codes_eq]
  intro c hc
  simp only [codes1, List.mem_cons, List.not_mem_nil, or_false] at hc
  rcases hc with rfl | rfl | rfl | rfl
  · exact w_c0
  · exact w_c1
  · exact w_c2
  · exact w_c3
set_option maxRecDepth 65536 in
theorem w_t1 : words1.all (fun c => isCode c || c.before args0 about1) = true := by decide +kernel
theorem w_tables : (allAtoms (Jvm.Cond.code x code maxLocals ret :: tables_1)).before args0 about1 = true := by
  rw [allAtoms_all]
  show words1.all (fun c => c.before args0 about1) = true
  refine all_split ?_ w_codes
  rw [w_t1]
set_option maxRecDepth 65536 in
theorem w_case : (Jvm.Cond.and given_1 narrow_1).before args0 about1 = true := by decide +kernel
theorem w_applies : (headSpec (Jvm.Cond.code x code maxLocals ret :: tables_1) room_1).applies x e0.platform about1 = true :=
  (Spec.applies_iff w_frames).mpr ⟨w_running, w_runnable, w_alone, w_named, w_hears, w_ripe, w_room, w_tables⟩
theorem atStart : AtStart classFile x code maxLocals ret World_1 tables_1 room_1 Calls_1 rest_1 Pre_1 launch0 p0 e0 about1 theMethod args0 below0 :=
  ⟨lists_1, trivial, launch0.admits_env _ _ _, launch0.least_env, fairChoices_fair.cas, fairChoices_fair.clock, w_frames, w_args, w_heap, w_applies, trivial, trivial, w_case⟩
end start1
theorem witness_1 : WitnessClaimed_1 := ⟨start1.p0, start1.e0, start1.about1, start1.theMethod, start1.args0, start1.below0, start1.atStart⟩
end Jvm.Pilot.@@N@@
