import JvmDerived
import JvmDerived.Pilot.@@N@@Statement
import JvmDerived.Pilot.@@N@@Code
set_option linter.unusedVariables false
set_option linter.unusedSimpArgs false
namespace Jvm.RoadKit
open Sem ClassFile Op Lib Jvm.Stand Jvm.Free Jvm.LawKit
section New
variable {p : Program} {l : Launch} {e : Env} {R : Room} {s : State} {m : MethodId} {args : Array Value} {below : List Frame} {meth : Method} {c : Code} {T : State} {locs : List Loc} {cells slots : Nat}
theorem retI (X : Stand p l e R s m args below meth c T locs cells slots) (hx : p.tables.exec = Jvm.exec) {pc : Nat} {Ls : Array Slot} {z : Int32} {rest : List Value} (hret : meth.sig.returnType = some .int) (hd : decode c.code pc = .ok (.ireturn, 1)) {fs : List Frame}
    (hl : ∀ (f : JFrame) (acts : List Action), f.method = m → f.locked = none → f.entered = [] → (doReturn e (T.setTop f) acts (some (.int z))).1 = T.setFrames fs) : Steps p.tables e below (T.setTop (mkF m pc Ls (.int z :: rest))) (T.setFrames fs) :=
  retOut X hx hret rfl (Or.inl ⟨rfl, Or.inl rfl, _, rfl⟩) hd hl
end New
end Jvm.RoadKit
namespace Jvm.Pilot.@@N@@
open Jvm Jvm.ClassFile Sem Op Lib Jvm.Free Jvm.Stand Jvm.LawKit Jvm.RoadKit Bundle Jvm.Pilot.@@N@@.Jvm.D
/-! own_Goes: from A the run comes to a state of which P holds -/
def own_Goes (p : Program) (e : Env) (below : List Frame) (P : State → Prop) (A : State) : Prop := ∃ B, Steps p.tables e below A B ∧ P B
def own_Fin (s : State) (below : List Frame) (QQ : Option Value → Heap → List Loc → Prop) (C N : Nat) (B : State) : Prop := ∃ v L, B.status = .running ∧ Ended B below (.returned v) ∧ QQ v B.heap L ∧ FrameEnd s (.returned v) B L C N
theorem own_via {p : Program} {e : Env} {below : List Frame} {P : State → Prop} {A : State} (B : State) (h : ∀ t, Steps p.tables e below B t → Steps p.tables e below A t) (k : own_Goes p e below P B) : own_Goes p e below P A := by
  obtain ⟨t, h1, h2⟩ := k
  exact ⟨t, h t h1, h2⟩
theorem own_body {p : Program} {e : Env} {below : List Frame} {s s₁ : State} {QQ : Option Value → Heap → List Loc → Prop} {C N ml : Nat} {m : MethodId} {args : Array Value} {F : JFrame} (hF : entryFrame m args ml = F) (k : own_Goes p e below (own_Fin s below QQ C N) (s₁.setTop F)) :
    ∃ s₂ o, Steps p.tables e below (s₁.setTop (entryFrame m args ml)) s₂ ∧ s₂.status = .running ∧ Ended s₂ below o ∧ (∃ v L, o = .returned v ∧ QQ v s₂.heap L ∧ FrameEnd s o s₂ L C N) := by
  obtain ⟨B, h1, v, L, h2, h3, h4, h5⟩ := k
  exact ⟨B, .returned v, hF ▸ h1, h2, h3, v, L, rfl, h4, h5⟩
theorem own_leave {p : Program} {l : Launch} {e : Env} {R : Room} {s : State} {m : MethodId} {args : Array Value} {below : List Frame} {meth : Method} {c : Code} {T : State} {locs : List Loc} {cells slots : Nat} {QQ : Option Value → Heap → List Loc → Prop} {C N : Nat}
    (X : Stand p l e R s m args below meth c T locs cells slots) (hlocks : meth.locks = false) {v : Option Value} (hv : meth.sig.returnType = none → v = none) {F : JFrame}
    (hstep : ∀ fs, (∀ (f : JFrame) (acts : List Action), f.method = m → f.locked = none → f.entered = [] → (doReturn e (T.setTop f) acts v).1 = T.setFrames fs) → Steps p.tables e below (T.setTop F) (T.setFrames fs))
    (hq : QQ v T.heap locs) (hc : cells ≤ C) (hn : slots ≤ N) : own_Goes p e below (own_Fin s below QQ C N) (T.setTop F) := by
  obtain ⟨fs, hr, hrun, hended, hW, hsame⟩ := X.leave hv hlocks
  exact ⟨_, hstep fs hr, v, locs, hrun, hended, hq, ⟨_, rfl⟩, hW, hsame.mono hc hn⟩
/-- what a body that writes nothing leaves -/
def own_Q (r : Option Value) (h0 : Heap) (n0 : Nat) (v : Option Value) (h : Heap) (L : List Loc) : Prop := v = r ∧ Fr n0 L ∧ h = h0
/-! own_A: an array of ints or chars, by a function of the place -/
def own_A (Z : State) (h : Heap) (a : Addr) (ty : FieldType) (n : Nat) (f : Nat → Int32) : Prop := ∃ c : Cell, Arr Z h a c ty ∧ c.slots.size = n ∧ ∀ i, i < n → c.slots[i]? = some (.int (f i))
def own_up (f : Nat → Int32) (j : Nat) (v : Int32) (i : Nat) : Int32 := if i = j then v else f i
section OwnA
variable {Z : State} {h h' : Heap} {a b : Addr} {ty : FieldType} {n sl : Nat} {f : Nat → Int32} {v : Value} {ws : List Addr}
theorem own_A.ext (F : own_A Z h a ty n f) (E : Ext h h') : own_A Z h' a ty n f := by obtain ⟨c, A, r⟩ := F; exact ⟨c, A.ext E, r⟩
theorem own_A.other (F : own_A Z h b ty n f) (W : Wr h h' a sl v) (q : b ≠ a) : own_A Z h' b ty n f := by obtain ⟨c, A, r⟩ := F; exact ⟨c, A.other W q, r⟩
theorem own_A.keep (F : own_A Z h a ty n f) (K : Keep h h' ws) (q : a ∉ ws) : own_A Z h' a ty n f := by obtain ⟨c, A, r⟩ := F; exact ⟨c, ⟨K.2.1 a c A.1 q, A.2⟩, r⟩
theorem own_A.lt (F : own_A Z h a ty n f) : a < h.size := by obtain ⟨c, A, -⟩ := F; exact A.lt
theorem own_A.set {j : Nat} {x : Int32} (F : own_A Z h a ty n f) (W : Wr h h' a j (.int x)) : own_A Z h' a ty n (own_up f j x) := by
  obtain ⟨c, A, S, H⟩ := F
  refine ⟨c.setSlot j (.int x), A.same W, by simpa [Cell.setSlot] using S, fun i hi => ?_⟩
  unfold own_up
  by_cases e : i = j
  · subst e; rw [if_pos rfl]; simp [Cell.setSlot, S, hi]
  · rw [if_neg e]; rw [← H i hi]; exact Array.getElem?_setIfInBounds_ne (Ne.symm e)
theorem own_A.of {k : ClassId} {z : Int32} {vs : List Value} {d : Value} (F : Arv Z h a k ty z vs d) (hf : ∀ i, i < z.toNatClampNeg → vs.getD i d = .int (f i)) : own_A Z h a ty z.toNatClampNeg f := by
  obtain ⟨c, A, -, S, -, H, -⟩ := F
  exact ⟨c, A, S, fun i hi => by rw [H i (by rw [S]; exact hi), hf i hi]⟩
theorem own_A.cast {m : Nat} {g : Nat → Int32} (F : own_A Z h a ty n f) (e : n = m) (q : ∀ i, i < m → f i = g i) : own_A Z h a ty m g := by
  obtain ⟨c, A, S, H⟩ := F
  subst e
  exact ⟨c, A, S, fun i hi => by rw [H i hi, q i hi]⟩
end OwnA
theorem own_in {c : Cell} {n : Nat} {j : Int32} (S : c.slots.size = n) (q : 0 ≤ j.toInt ∧ j.toInt < n) : ¬ (j < 0 ∨ c.slots.size ≤ j.toNatClampNeg) := by
  have e0 : (0 : Int32).toInt = 0 := rfl
  have ek : j.toNatClampNeg = j.toInt.toNat := rfl
  rw [Int32.lt_iff_toInt_lt, S, ek]; omega
theorem own_at {c : Cell} {n : Nat} {f : Nat → Int32} {j : Int32} (H : ∀ i, i < n → c.slots[i]? = some (.int (f i))) (q : 0 ≤ j.toInt ∧ j.toInt < n) : c.slots[j.toNatClampNeg]? = some (.int (f j.toInt.toNat)) := H _ (by have ek : j.toNatClampNeg = j.toInt.toNat := rfl; omega)
theorem own_selpriv {s : State} {args : Array Value} {y : MethodName} {n : Nat} (wi : (Cond.instantiable y.cls n).before args s = true) (hpriv : s.PrivateAt y) (hinst : (Cond.instanceMethod y).before args s = true) (hy : y.cls ≠ "java/lang/invoke/MethodHandle" ∧ y.cls ≠ "java/lang/invoke/VarHandle") : (Cond.selects y.cls y y).before args s = true := by
  obtain ⟨c, k, h1, h2, h3, h4, -⟩ := Cond.instantiable_spec wi
  exact Jvm.Stand.selects_self_of_private h1 h2 (by simp only [Bool.or_eq_false_iff] at h4; exact h4.1) hpriv hinst hy
theorem own_ix {p k : Int32} (hp : 0 ≤ p.toInt ∧ p.toInt < 5) (hk : 0 ≤ k.toInt ∧ k.toInt ≤ 4) (h : p + k < (5 : Int32)) : 0 ≤ (p + k).toInt ∧ (p + k).toInt < (5 : Nat) := by
  have e : (5 : Int32).toInt = 5 := rfl
  rw [Int32.lt_iff_toInt_lt] at h
  have := c_iadd p k; have := rng32 (p + k)
  omega
theorem own_iy {p s : Int32} (hp : 0 ≤ p.toInt ∧ p.toInt < 5) (hs : 0 ≤ s.toInt) (h : ¬ (p - (1 : Int32)) < s) : 0 ≤ (p - (1 : Int32)).toInt ∧ (p - (1 : Int32)).toInt < (5 : Nat) := by
  have e : (1 : Int32).toInt = 1 := rfl
  rw [Int32.lt_iff_toInt_lt] at h
  have := c_isub p (1 : Int32); have := rng32 (p - (1 : Int32))
  omega
def own_f1 (p0 : Int32) : Int32 := (if (p0 &&& (1 : Int32)) = (0 : Int32) then (nar .char (((p0.toUInt32 >>> ((1 : Int32) &&& 31).toUInt32).toInt32).toUInt32.toUInt16.toUInt32.toInt32)) else (32 : Int32))
theorem d1_0 : decode method_2_code 0 = .ok (.iload_n 0, 1) := by decide +kernel
theorem d1_1 : decode method_2_code 1 = .ok (.iconst 1, 1) := by decide +kernel
theorem d1_2 : decode method_2_code 2 = .ok (.iand, 1) := by decide +kernel
theorem d1_3 : decode method_2_code 3 = .ok (.ifCond .eq 8, 3) := by decide +kernel
theorem d1_6 : decode method_2_code 6 = .ok (.bipush 32, 2) := by decide +kernel
theorem d1_8 : decode method_2_code 8 = .ok (.goto 7, 3) := by decide +kernel
theorem d1_11 : decode method_2_code 11 = .ok (.iload_n 0, 1) := by decide +kernel
theorem d1_12 : decode method_2_code 12 = .ok (.iconst 1, 1) := by decide +kernel
theorem d1_13 : decode method_2_code 13 = .ok (.iushr, 1) := by decide +kernel
theorem d1_14 : decode method_2_code 14 = .ok (.i2c, 1) := by decide +kernel
theorem d1_15 : decode method_2_code 15 = .ok (.ireturn, 1) := by decide +kernel
theorem pn_com_example_honeyguide_honeyguide_CharsCollapseSpacesPinLaw : plainName "com/example/honeyguide/honeyguide/CharsCollapseSpacesPinLaw" = true := by first | (simp [plainName, overriddenIn]; done) | decide +kernel
theorem ef_1 (m : MethodId) (p0 : Int32) : entryFrame m #[(.int p0)] 1 = mkF m 0 #[.val (.int p0)] [] := by first | (simp [entryFrame, mkF, argsToLocals, Value.category]; done) | rfl
set_option maxRecDepth 65536 in
set_option maxHeartbeats 40000000 in
theorem rm1 (l : Launch) (Z : State) (a0 : Array Value) (hw : ∀ d ∈ tables_1, d.before a0 Z = true) (ws : List Jvm.Cond) (p0 : Int32) (h0 : Heap) (n0 : Nat) (Z0 : n0 ≤ h0.size)  :
    MetFree l (⟨"com/example/honeyguide/honeyguide/CharsCollapseSpacesPinLaw", "draw", "(I)C"⟩ : MethodName) (head1 (Jvm.Cond.code (⟨"com/example/honeyguide/honeyguide/CharsCollapseSpacesPinLaw", "draw", "(I)C"⟩ : MethodName) method_2_code 1 (some .char) :: ws) ({ frames := 0, cells := 0, slots := 0, locals := 0 } : Room)) (fun a U => a = #[(.int p0)] ∧ Z.Warmed39 U.vm ∧ U.heap = h0) (fun _ _ _ _ _ => True) (fun _ U o U' => ∃ v L, o = .returned v ∧ (own_Q (some (.int (own_f1 p0))) h0 n0) v U'.heap L ∧ FrameEnd U o U' L ({ frames := 0, cells := 0, slots := 0, locals := 0 } : Room).cells ({ frames := 0, cells := 0, slots := 0, locals := 0 } : Room).slots) := by
  refine MetFree.of_bodySF (plainFor_of_name pn_com_example_honeyguide_honeyguide_CharsCollapseSpacesPinLaw) hisR ?_
  intro p e s m args below meth c s₁ Bd hml0 hP hK
  obtain ⟨rfl, hZ, hh⟩ := hP
  have hx := Bd.exec
  have hby := Bd.bytes
  have hml : c.maxLocals = 1 := hml0
  have hown : s.vm.findClass "com/example/honeyguide/honeyguide/CharsCollapseSpacesPinLaw" = some m.cls := findClass_of_methodNamed Bd.named
  have hnm := (name_of_methodNamed Bd.named Bd.method).1
  have X0 : Stand p l e ({ frames := 0, cells := 0, slots := 0, locals := 0 } : Room) s m #[(.int p0)] below meth c s₁ [] 0 0 := Stand.of_body Bd
  have e0 : s₁.heap = h0 := by rw [← hh, Bd.state]; rfl
  have N0 := Fr.nil n0
  refine own_body (QQ := (own_Q (some (.int (own_f1 p0))) h0 n0)) (ef_1 m p0) ?_
  refine own_via (s₁.setTop (mkF m 1 #[.val (.int p0)] [(.int p0)])) (fun t k => XS.iloadN X0.here hx rfl (hb hby d1_0) rfl  k) ?_
  refine own_via (s₁.setTop (mkF m 2 #[.val (.int p0)] [(.int (1 : Int32)), (.int p0)])) (fun t k => XS.iconst X0.here hx rfl (hb hby d1_1) k) ?_
  refine own_via (s₁.setTop (mkF m 3 #[.val (.int p0)] [(.int (p0 &&& (1 : Int32)))])) (fun t k => XS.iand X0.here hx rfl (hb hby d1_2) rfl k) ?_
  by_cases hc3_2 : (p0 &&& (1 : Int32)) = (0 : Int32)
  · refine own_via (s₁.setTop (mkF m 11 #[.val (.int p0)] [])) (fun t k => XS.ifYes X0.here hx rfl (pc0 := 3) (pc' := 11) rfl (hb hby d1_3) rfl ((if0 _ _).trans (teq hc3_2).1) (by decide) (by decide) k) ?_
    refine own_via (s₁.setTop (mkF m 12 #[.val (.int p0)] [(.int p0)])) (fun t k => XS.iloadN X0.here hx rfl (hb hby d1_11) rfl  k) ?_
    refine own_via (s₁.setTop (mkF m 13 #[.val (.int p0)] [(.int (1 : Int32)), (.int p0)])) (fun t k => XS.iconst X0.here hx rfl (hb hby d1_12) k) ?_
    refine own_via (s₁.setTop (mkF m 14 #[.val (.int p0)] [(.int ((p0.toUInt32 >>> ((1 : Int32) &&& 31).toUInt32).toInt32))])) (fun t k => XS.iushr X0.here hx rfl (hb hby d1_13) rfl k) ?_
    refine own_via (s₁.setTop (mkF m 15 #[.val (.int p0)] [(.int (((p0.toUInt32 >>> ((1 : Int32) &&& 31).toUInt32).toInt32).toUInt32.toUInt16.toUInt32.toInt32))])) (fun t k => XS.i2c X0.here hx rfl (hb hby d1_14) rfl k) ?_
    refine own_leave X0 Bd.notSynchronized (v := some (.int (nar .char (((p0.toUInt32 >>> ((1 : Int32) &&& 31).toUInt32).toInt32).toUInt32.toUInt16.toUInt32.toInt32)))) (fun h => by rw [Bd.returns] at h; cases h) (fun fs hr => retN X0 hx (t := .char) Bd.returns (by simp) (hb hby d1_15) hr) ?_ (by decide) (by decide)
    refine ⟨?_, N0, e0⟩
    show some (Value.int _) = some (Value.int _); unfold own_f1; rw [if_pos hc3_2]
  · refine own_via (s₁.setTop (mkF m 6 #[.val (.int p0)] [])) (fun t k => XS.ifNo X0.here hx rfl (hb hby d1_3) rfl ((if0 _ _).trans (feq hc3_2).1) k) ?_
    refine own_via (s₁.setTop (mkF m 8 #[.val (.int p0)] [(.int (32 : Int32))])) (fun t k => XS.bipush X0.here hx rfl (hb hby d1_6) k) ?_
    refine own_via (s₁.setTop (mkF m 15 #[.val (.int p0)] [(.int (32 : Int32))])) (fun t k => XS.goto X0.here hx rfl (pc0 := 8) (pc' := 15) rfl (hb hby d1_8) (by decide) (by decide) k) ?_
    refine own_leave X0 Bd.notSynchronized (v := some (.int (32 : Int32))) (fun h => by rw [Bd.returns] at h; cases h) (fun fs hr => retN X0 hx (t := .char) Bd.returns (by simp) (hb hby d1_15) hr) ?_ (by decide) (by decide)
    refine ⟨?_, N0, e0⟩
    show some (Value.int _) = some (Value.int _); unfold own_f1; rw [if_neg hc3_2]
def own_f6 (p0 : Int32) (p1 : Int32) : Int32 := (if p0 < p1 then p1 else p0)
theorem d6_0 : decode jdk_29_method_65_code 0 = .ok (.iload_n 0, 1) := by decide +kernel
theorem d6_1 : decode jdk_29_method_65_code 1 = .ok (.iload_n 1, 1) := by decide +kernel
theorem d6_2 : decode jdk_29_method_65_code 2 = .ok (.if_icmp .lt 7, 3) := by decide +kernel
theorem d6_5 : decode jdk_29_method_65_code 5 = .ok (.iload_n 0, 1) := by decide +kernel
theorem d6_6 : decode jdk_29_method_65_code 6 = .ok (.goto 4, 3) := by decide +kernel
theorem d6_9 : decode jdk_29_method_65_code 9 = .ok (.iload_n 1, 1) := by decide +kernel
theorem d6_10 : decode jdk_29_method_65_code 10 = .ok (.ireturn, 1) := by decide +kernel
theorem ef_6 (m : MethodId) (p0 : Int32) (p1 : Int32) : entryFrame m #[(.int p0), (.int p1)] 2 = mkF m 0 #[.val (.int p0), .val (.int p1)] [] := by first | (simp [entryFrame, mkF, argsToLocals, Value.category]; done) | rfl
set_option maxRecDepth 65536 in
set_option maxHeartbeats 40000000 in
theorem rm6 (l : Launch) (Z : State) (a0 : Array Value) (hw : ∀ d ∈ tables_1, d.before a0 Z = true) (ws : List Jvm.Cond) (p0 : Int32) (p1 : Int32) (h0 : Heap) (n0 : Nat) (Z0 : n0 ≤ h0.size)  :
    MetFree l (⟨"java/lang/Math", "max", "(II)I"⟩ : MethodName) (head1 (Jvm.Cond.code (⟨"java/lang/Math", "max", "(II)I"⟩ : MethodName) jdk_29_method_65_code 2 (some .int) :: ws) ({ frames := 0, cells := 0, slots := 0, locals := 0 } : Room)) (fun a U => a = #[(.int p0), (.int p1)] ∧ Z.Warmed39 U.vm ∧ U.heap = h0) (fun _ _ _ _ _ => True) (fun _ U o U' => ∃ v L, o = .returned v ∧ (own_Q (some (.int (own_f6 p0 p1))) h0 n0) v U'.heap L ∧ FrameEnd U o U' L ({ frames := 0, cells := 0, slots := 0, locals := 0 } : Room).cells ({ frames := 0, cells := 0, slots := 0, locals := 0 } : Room).slots) := by
  refine MetFree.of_bodySF (Jvm.Free.JP.mathPlain rfl (by decide +kernel)) hisR ?_
  intro p e s m args below meth c s₁ Bd hml0 hP hK
  obtain ⟨rfl, hZ, hh⟩ := hP
  have hx := Bd.exec
  have hby := Bd.bytes
  have hml : c.maxLocals = 2 := hml0
  have hown : s.vm.findClass "java/lang/Math" = some m.cls := findClass_of_methodNamed Bd.named
  have hnm := (name_of_methodNamed Bd.named Bd.method).1
  have X0 : Stand p l e ({ frames := 0, cells := 0, slots := 0, locals := 0 } : Room) s m #[(.int p0), (.int p1)] below meth c s₁ [] 0 0 := Stand.of_body Bd
  have e0 : s₁.heap = h0 := by rw [← hh, Bd.state]; rfl
  have N0 := Fr.nil n0
  refine own_body (QQ := (own_Q (some (.int (own_f6 p0 p1))) h0 n0)) (ef_6 m p0 p1) ?_
  refine own_via (s₁.setTop (mkF m 1 #[.val (.int p0), .val (.int p1)] [(.int p0)])) (fun t k => XS.iloadN X0.here hx rfl (hb hby d6_0) rfl  k) ?_
  refine own_via (s₁.setTop (mkF m 2 #[.val (.int p0), .val (.int p1)] [(.int p1), (.int p0)])) (fun t k => XS.iloadN X0.here hx rfl (hb hby d6_1) rfl  k) ?_
  by_cases hc2_4 : p0 < p1
  · refine own_via (s₁.setTop (mkF m 9 #[.val (.int p0), .val (.int p1)] [])) (fun t k => XS.icmpYes X0.here hx rfl (pc0 := 2) (pc' := 9) rfl (hb hby d6_2) rfl (tlt hc2_4).1 (by decide) (by decide) k) ?_
    refine own_via (s₁.setTop (mkF m 10 #[.val (.int p0), .val (.int p1)] [(.int p1)])) (fun t k => XS.iloadN X0.here hx rfl (hb hby d6_9) rfl  k) ?_
    refine own_leave X0 Bd.notSynchronized (v := some (.int p1)) (fun h => by rw [Bd.returns] at h; cases h) (fun fs hr => retI X0 hx Bd.returns (hb hby d6_10) hr) ?_ (by decide) (by decide)
    refine ⟨?_, N0, e0⟩
    show some (Value.int _) = some (Value.int _); unfold own_f6; rw [if_pos hc2_4]
  · refine own_via (s₁.setTop (mkF m 5 #[.val (.int p0), .val (.int p1)] [])) (fun t k => XS.icmpNo X0.here hx rfl (hb hby d6_2) rfl (flt hc2_4).1 k) ?_
    refine own_via (s₁.setTop (mkF m 6 #[.val (.int p0), .val (.int p1)] [(.int p0)])) (fun t k => XS.iloadN X0.here hx rfl (hb hby d6_5) rfl  k) ?_
    refine own_via (s₁.setTop (mkF m 10 #[.val (.int p0), .val (.int p1)] [(.int p0)])) (fun t k => XS.goto X0.here hx rfl (pc0 := 6) (pc' := 10) rfl (hb hby d6_6) (by decide) (by decide) k) ?_
    refine own_leave X0 Bd.notSynchronized (v := some (.int p0)) (fun h => by rw [Bd.returns] at h; cases h) (fun fs hr => retI X0 hx Bd.returns (hb hby d6_10) hr) ?_ (by decide) (by decide)
    refine ⟨?_, N0, e0⟩
    show some (Value.int _) = some (Value.int _); unfold own_f6; rw [if_neg hc2_4]
def own_f13 (p1 : Int32) (f : Nat → Int32) : Int32 := (if (p1 + (1 : Int32)) < (5 : Int32) then (if (f (p1 + (1 : Int32)).toInt.toNat) = (32 : Int32) then (if (p1 + (2 : Int32)) < (5 : Int32) then (if (f (p1 + (2 : Int32)).toInt.toNat) = (32 : Int32) then (if (p1 + (3 : Int32)) < (5 : Int32) then (if (f (p1 + (3 : Int32)).toInt.toNat) = (32 : Int32) then (if (p1 + (4 : Int32)) < (5 : Int32) then (if (f (p1 + (4 : Int32)).toInt.toNat) = (32 : Int32) then (0 : Int32) else (1 : Int32)) else (0 : Int32)) else (1 : Int32)) else (if (p1 + (4 : Int32)) < (5 : Int32) then (if (f (p1 + (4 : Int32)).toInt.toNat) = (32 : Int32) then (0 : Int32) else (1 : Int32)) else (0 : Int32))) else (1 : Int32)) else (if (p1 + (3 : Int32)) < (5 : Int32) then (if (f (p1 + (3 : Int32)).toInt.toNat) = (32 : Int32) then (if (p1 + (4 : Int32)) < (5 : Int32) then (if (f (p1 + (4 : Int32)).toInt.toNat) = (32 : Int32) then (0 : Int32) else (1 : Int32)) else (0 : Int32)) else (1 : Int32)) else (if (p1 + (4 : Int32)) < (5 : Int32) then (if (f (p1 + (4 : Int32)).toInt.toNat) = (32 : Int32) then (0 : Int32) else (1 : Int32)) else (0 : Int32)))) else (1 : Int32)) else (if (p1 + (2 : Int32)) < (5 : Int32) then (if (f (p1 + (2 : Int32)).toInt.toNat) = (32 : Int32) then (if (p1 + (3 : Int32)) < (5 : Int32) then (if (f (p1 + (3 : Int32)).toInt.toNat) = (32 : Int32) then (if (p1 + (4 : Int32)) < (5 : Int32) then (if (f (p1 + (4 : Int32)).toInt.toNat) = (32 : Int32) then (0 : Int32) else (1 : Int32)) else (0 : Int32)) else (1 : Int32)) else (if (p1 + (4 : Int32)) < (5 : Int32) then (if (f (p1 + (4 : Int32)).toInt.toNat) = (32 : Int32) then (0 : Int32) else (1 : Int32)) else (0 : Int32))) else (1 : Int32)) else (if (p1 + (3 : Int32)) < (5 : Int32) then (if (f (p1 + (3 : Int32)).toInt.toNat) = (32 : Int32) then (if (p1 + (4 : Int32)) < (5 : Int32) then (if (f (p1 + (4 : Int32)).toInt.toNat) = (32 : Int32) then (0 : Int32) else (1 : Int32)) else (0 : Int32)) else (1 : Int32)) else (if (p1 + (4 : Int32)) < (5 : Int32) then (if (f (p1 + (4 : Int32)).toInt.toNat) = (32 : Int32) then (0 : Int32) else (1 : Int32)) else (0 : Int32)))))
def own_Q13 (Z : State) (p0 : Addr) (p1 : Int32) (f : Nat → Int32) (h0 : Heap) (n0 : Nat) (v : Option Value) (h : Heap) (L : List Loc) : Prop := v = some (.int (own_f13 p1 f)) ∧ Fr n0 L ∧ h = h0
theorem d13_0 : decode method_3_code 0 = .ok (.iload_n 1, 1) := by decide +kernel
theorem d13_1 : decode method_3_code 1 = .ok (.iconst 1, 1) := by decide +kernel
theorem d13_2 : decode method_3_code 2 = .ok (.iadd, 1) := by decide +kernel
theorem d13_3 : decode method_3_code 3 = .ok (.iconst 5, 1) := by decide +kernel
theorem d13_4 : decode method_3_code 4 = .ok (.if_icmp .ge 13, 3) := by decide +kernel
theorem d13_7 : decode method_3_code 7 = .ok (.aload_n 0, 1) := by decide +kernel
theorem d13_8 : decode method_3_code 8 = .ok (.iload_n 1, 1) := by decide +kernel
theorem d13_9 : decode method_3_code 9 = .ok (.iconst 1, 1) := by decide +kernel
theorem d13_10 : decode method_3_code 10 = .ok (.iadd, 1) := by decide +kernel
theorem d13_11 : decode method_3_code 11 = .ok (.caload, 1) := by decide +kernel
theorem d13_12 : decode method_3_code 12 = .ok (.bipush 32, 2) := by decide +kernel
theorem d13_14 : decode method_3_code 14 = .ok (.if_icmp .ne 54, 3) := by decide +kernel
theorem d13_17 : decode method_3_code 17 = .ok (.iload_n 1, 1) := by decide +kernel
theorem d13_18 : decode method_3_code 18 = .ok (.iconst 2, 1) := by decide +kernel
theorem d13_19 : decode method_3_code 19 = .ok (.iadd, 1) := by decide +kernel
theorem d13_20 : decode method_3_code 20 = .ok (.iconst 5, 1) := by decide +kernel
theorem d13_21 : decode method_3_code 21 = .ok (.if_icmp .ge 13, 3) := by decide +kernel
theorem d13_24 : decode method_3_code 24 = .ok (.aload_n 0, 1) := by decide +kernel
theorem d13_25 : decode method_3_code 25 = .ok (.iload_n 1, 1) := by decide +kernel
theorem d13_26 : decode method_3_code 26 = .ok (.iconst 2, 1) := by decide +kernel
theorem d13_27 : decode method_3_code 27 = .ok (.iadd, 1) := by decide +kernel
theorem d13_28 : decode method_3_code 28 = .ok (.caload, 1) := by decide +kernel
theorem d13_29 : decode method_3_code 29 = .ok (.bipush 32, 2) := by decide +kernel
theorem d13_31 : decode method_3_code 31 = .ok (.if_icmp .ne 37, 3) := by decide +kernel
theorem d13_34 : decode method_3_code 34 = .ok (.iload_n 1, 1) := by decide +kernel
theorem d13_35 : decode method_3_code 35 = .ok (.iconst 3, 1) := by decide +kernel
theorem d13_36 : decode method_3_code 36 = .ok (.iadd, 1) := by decide +kernel
theorem d13_37 : decode method_3_code 37 = .ok (.iconst 5, 1) := by decide +kernel
theorem d13_38 : decode method_3_code 38 = .ok (.if_icmp .ge 13, 3) := by decide +kernel
theorem d13_41 : decode method_3_code 41 = .ok (.aload_n 0, 1) := by decide +kernel
theorem d13_42 : decode method_3_code 42 = .ok (.iload_n 1, 1) := by decide +kernel
theorem d13_43 : decode method_3_code 43 = .ok (.iconst 3, 1) := by decide +kernel
theorem d13_44 : decode method_3_code 44 = .ok (.iadd, 1) := by decide +kernel
theorem d13_45 : decode method_3_code 45 = .ok (.caload, 1) := by decide +kernel
theorem d13_46 : decode method_3_code 46 = .ok (.bipush 32, 2) := by decide +kernel
theorem d13_48 : decode method_3_code 48 = .ok (.if_icmp .ne 20, 3) := by decide +kernel
theorem d13_51 : decode method_3_code 51 = .ok (.iload_n 1, 1) := by decide +kernel
theorem d13_52 : decode method_3_code 52 = .ok (.iconst 4, 1) := by decide +kernel
theorem d13_53 : decode method_3_code 53 = .ok (.iadd, 1) := by decide +kernel
theorem d13_54 : decode method_3_code 54 = .ok (.iconst 5, 1) := by decide +kernel
theorem d13_55 : decode method_3_code 55 = .ok (.if_icmp .ge 17, 3) := by decide +kernel
theorem d13_58 : decode method_3_code 58 = .ok (.aload_n 0, 1) := by decide +kernel
theorem d13_59 : decode method_3_code 59 = .ok (.iload_n 1, 1) := by decide +kernel
theorem d13_60 : decode method_3_code 60 = .ok (.iconst 4, 1) := by decide +kernel
theorem d13_61 : decode method_3_code 61 = .ok (.iadd, 1) := by decide +kernel
theorem d13_62 : decode method_3_code 62 = .ok (.caload, 1) := by decide +kernel
theorem d13_63 : decode method_3_code 63 = .ok (.bipush 32, 2) := by decide +kernel
theorem d13_65 : decode method_3_code 65 = .ok (.if_icmp .eq 7, 3) := by decide +kernel
theorem d13_68 : decode method_3_code 68 = .ok (.iconst 1, 1) := by decide +kernel
theorem d13_69 : decode method_3_code 69 = .ok (.goto 4, 3) := by decide +kernel
theorem d13_72 : decode method_3_code 72 = .ok (.iconst 0, 1) := by decide +kernel
theorem d13_73 : decode method_3_code 73 = .ok (.ireturn, 1) := by decide +kernel
theorem ef_13 (m : MethodId) (p0 : Addr) (p1 : Int32) : entryFrame m #[(.ref p0), (.int p1)] 2 = mkF m 0 #[.val (.ref p0), .val (.int p1)] [] := by first | (simp [entryFrame, mkF, argsToLocals, Value.category]; done) | rfl
set_option maxRecDepth 65536 in
set_option maxHeartbeats 40000000 in
theorem rm13 (l : Launch) (Z : State) (a0 : Array Value) (hw : ∀ d ∈ tables_1, d.before a0 Z = true) (ws : List Jvm.Cond) (p0 : Addr) (p1 : Int32) (h0 : Heap) (n0 : Nat) (Z0 : n0 ≤ h0.size) (f : Nat → Int32) (P0 : own_A Z h0 p0 .char 5 f) (hp : 0 ≤ p1.toInt ∧ p1.toInt < 5) :
    MetFree l (⟨"com/example/honeyguide/honeyguide/CharsCollapseSpacesPinLaw", "laterWord", "([CI)Z"⟩ : MethodName) (head1 (Jvm.Cond.code (⟨"com/example/honeyguide/honeyguide/CharsCollapseSpacesPinLaw", "laterWord", "([CI)Z"⟩ : MethodName) method_3_code 2 (some .boolean) :: ws) ({ frames := 0, cells := 0, slots := 0, locals := 0 } : Room)) (fun a U => a = #[(.ref p0), (.int p1)] ∧ Z.Warmed39 U.vm ∧ U.heap = h0) (fun _ _ _ _ _ => True) (fun _ U o U' => ∃ v L, o = .returned v ∧ (own_Q13 Z p0 p1 f h0 n0) v U'.heap L ∧ FrameEnd U o U' L ({ frames := 0, cells := 0, slots := 0, locals := 0 } : Room).cells ({ frames := 0, cells := 0, slots := 0, locals := 0 } : Room).slots) := by
  refine MetFree.of_bodySF (plainFor_of_name pn_com_example_honeyguide_honeyguide_CharsCollapseSpacesPinLaw) hisR ?_
  intro p e s m args below meth c s₁ Bd hml0 hP hK
  obtain ⟨rfl, hZ, hh⟩ := hP
  have hx := Bd.exec
  have hby := Bd.bytes
  have hml : c.maxLocals = 2 := hml0
  have hown : s.vm.findClass "com/example/honeyguide/honeyguide/CharsCollapseSpacesPinLaw" = some m.cls := findClass_of_methodNamed Bd.named
  have hnm := (name_of_methodNamed Bd.named Bd.method).1
  have X0 : Stand p l e ({ frames := 0, cells := 0, slots := 0, locals := 0 } : Room) s m #[(.ref p0), (.int p1)] below meth c s₁ [] 0 0 := Stand.of_body Bd
  have e0 : s₁.heap = h0 := by rw [← hh, Bd.state]; rfl
  have N0 := Fr.nil n0
  refine own_body (QQ := (own_Q13 Z p0 p1 f h0 n0)) (ef_13 m p0 p1) ?_
  refine own_via (s₁.setTop (mkF m 1 #[.val (.ref p0), .val (.int p1)] [(.int p1)])) (fun t k => XS.iloadN X0.here hx rfl (hb hby d13_0) rfl  k) ?_
  refine own_via (s₁.setTop (mkF m 2 #[.val (.ref p0), .val (.int p1)] [(.int (1 : Int32)), (.int p1)])) (fun t k => XS.iconst X0.here hx rfl (hb hby d13_1) k) ?_
  refine own_via (s₁.setTop (mkF m 3 #[.val (.ref p0), .val (.int p1)] [(.int (p1 + (1 : Int32)))])) (fun t k => XS.iadd X0.here hx rfl (hb hby d13_2) rfl k) ?_
  refine own_via (s₁.setTop (mkF m 4 #[.val (.ref p0), .val (.int p1)] [(.int (5 : Int32)), (.int (p1 + (1 : Int32)))])) (fun t k => XS.iconst X0.here hx rfl (hb hby d13_3) k) ?_
  by_cases h4 : (p1 + (1 : Int32)) < (5 : Int32)
  · refine own_via (s₁.setTop (mkF m 7 #[.val (.ref p0), .val (.int p1)] [])) (fun t k => XS.icmpNo X0.here hx rfl (hb hby d13_4) rfl (tlt h4).2.1 k) ?_
    refine own_via (s₁.setTop (mkF m 8 #[.val (.ref p0), .val (.int p1)] [(.ref p0)])) (fun t k => XS.aloadN X0.here hx rfl (hb hby d13_7) rfl rfl k) ?_
    refine own_via (s₁.setTop (mkF m 9 #[.val (.ref p0), .val (.int p1)] [(.int p1), (.ref p0)])) (fun t k => XS.iloadN X0.here hx rfl (hb hby d13_8) rfl  k) ?_
    refine own_via (s₁.setTop (mkF m 10 #[.val (.ref p0), .val (.int p1)] [(.int (1 : Int32)), (.int p1), (.ref p0)])) (fun t k => XS.iconst X0.here hx rfl (hb hby d13_9) k) ?_
    refine own_via (s₁.setTop (mkF m 11 #[.val (.ref p0), .val (.int p1)] [(.int (p1 + (1 : Int32))), (.ref p0)])) (fun t k => XS.iadd X0.here hx rfl (hb hby d13_10) rfl k) ?_
    obtain ⟨cl51, Ar51, S51, H51⟩ := id P0
    refine own_via (s₁.setTop (mkF m 12 #[.val (.ref p0), .val (.int p1)] [(.int (f (p1 + (1 : Int32)).toInt.toNat))])) (fun t k => X0.caload hx (j := (p1 + (1 : Int32))) (v := (.int (f (p1 + (1 : Int32)).toInt.toNat))) (by rw [e0]; exact Ar51.1) (State.isArrayOf_alike hZ.alike Ar51.2.1) Ar51.2.2 (own_in S51 (own_ix hp (by decide) h4)) (own_at H51 (own_ix hp (by decide) h4)) (g := (mkF m 11 #[.val (.ref p0), .val (.int p1)] [(.int (p1 + (1 : Int32))), (.ref p0)])) rfl rfl (hb hby d13_11) _ k) ?_
    refine own_via (s₁.setTop (mkF m 14 #[.val (.ref p0), .val (.int p1)] [(.int (32 : Int32)), (.int (f (p1 + (1 : Int32)).toInt.toNat))])) (fun t k => XS.bipush X0.here hx rfl (hb hby d13_12) k) ?_
    by_cases hc14_52 : (f (p1 + (1 : Int32)).toInt.toNat) = (32 : Int32)
    · refine own_via (s₁.setTop (mkF m 17 #[.val (.ref p0), .val (.int p1)] [])) (fun t k => XS.icmpNo X0.here hx rfl (hb hby d13_14) rfl (teq hc14_52).2 k) ?_
      refine own_via (s₁.setTop (mkF m 18 #[.val (.ref p0), .val (.int p1)] [(.int p1)])) (fun t k => XS.iloadN X0.here hx rfl (hb hby d13_17) rfl  k) ?_
      refine own_via (s₁.setTop (mkF m 19 #[.val (.ref p0), .val (.int p1)] [(.int (2 : Int32)), (.int p1)])) (fun t k => XS.iconst X0.here hx rfl (hb hby d13_18) k) ?_
      refine own_via (s₁.setTop (mkF m 20 #[.val (.ref p0), .val (.int p1)] [(.int (p1 + (2 : Int32)))])) (fun t k => XS.iadd X0.here hx rfl (hb hby d13_19) rfl k) ?_
      refine own_via (s₁.setTop (mkF m 21 #[.val (.ref p0), .val (.int p1)] [(.int (5 : Int32)), (.int (p1 + (2 : Int32)))])) (fun t k => XS.iconst X0.here hx rfl (hb hby d13_20) k) ?_
      by_cases h21 : (p1 + (2 : Int32)) < (5 : Int32)
      · refine own_via (s₁.setTop (mkF m 24 #[.val (.ref p0), .val (.int p1)] [])) (fun t k => XS.icmpNo X0.here hx rfl (hb hby d13_21) rfl (tlt h21).2.1 k) ?_
        refine own_via (s₁.setTop (mkF m 25 #[.val (.ref p0), .val (.int p1)] [(.ref p0)])) (fun t k => XS.aloadN X0.here hx rfl (hb hby d13_24) rfl rfl k) ?_
        refine own_via (s₁.setTop (mkF m 26 #[.val (.ref p0), .val (.int p1)] [(.int p1), (.ref p0)])) (fun t k => XS.iloadN X0.here hx rfl (hb hby d13_25) rfl  k) ?_
        refine own_via (s₁.setTop (mkF m 27 #[.val (.ref p0), .val (.int p1)] [(.int (2 : Int32)), (.int p1), (.ref p0)])) (fun t k => XS.iconst X0.here hx rfl (hb hby d13_26) k) ?_
        refine own_via (s₁.setTop (mkF m 28 #[.val (.ref p0), .val (.int p1)] [(.int (p1 + (2 : Int32))), (.ref p0)])) (fun t k => XS.iadd X0.here hx rfl (hb hby d13_27) rfl k) ?_
        obtain ⟨cl54, Ar54, S54, H54⟩ := id P0
        refine own_via (s₁.setTop (mkF m 29 #[.val (.ref p0), .val (.int p1)] [(.int (f (p1 + (2 : Int32)).toInt.toNat))])) (fun t k => X0.caload hx (j := (p1 + (2 : Int32))) (v := (.int (f (p1 + (2 : Int32)).toInt.toNat))) (by rw [e0]; exact Ar54.1) (State.isArrayOf_alike hZ.alike Ar54.2.1) Ar54.2.2 (own_in S54 (own_ix hp (by decide) h21)) (own_at H54 (own_ix hp (by decide) h21)) (g := (mkF m 28 #[.val (.ref p0), .val (.int p1)] [(.int (p1 + (2 : Int32))), (.ref p0)])) rfl rfl (hb hby d13_28) _ k) ?_
        refine own_via (s₁.setTop (mkF m 31 #[.val (.ref p0), .val (.int p1)] [(.int (32 : Int32)), (.int (f (p1 + (2 : Int32)).toInt.toNat))])) (fun t k => XS.bipush X0.here hx rfl (hb hby d13_29) k) ?_
        by_cases hc31_55 : (f (p1 + (2 : Int32)).toInt.toNat) = (32 : Int32)
        · refine own_via (s₁.setTop (mkF m 34 #[.val (.ref p0), .val (.int p1)] [])) (fun t k => XS.icmpNo X0.here hx rfl (hb hby d13_31) rfl (teq hc31_55).2 k) ?_
          refine own_via (s₁.setTop (mkF m 35 #[.val (.ref p0), .val (.int p1)] [(.int p1)])) (fun t k => XS.iloadN X0.here hx rfl (hb hby d13_34) rfl  k) ?_
          refine own_via (s₁.setTop (mkF m 36 #[.val (.ref p0), .val (.int p1)] [(.int (3 : Int32)), (.int p1)])) (fun t k => XS.iconst X0.here hx rfl (hb hby d13_35) k) ?_
          refine own_via (s₁.setTop (mkF m 37 #[.val (.ref p0), .val (.int p1)] [(.int (p1 + (3 : Int32)))])) (fun t k => XS.iadd X0.here hx rfl (hb hby d13_36) rfl k) ?_
          refine own_via (s₁.setTop (mkF m 38 #[.val (.ref p0), .val (.int p1)] [(.int (5 : Int32)), (.int (p1 + (3 : Int32)))])) (fun t k => XS.iconst X0.here hx rfl (hb hby d13_37) k) ?_
          by_cases h38 : (p1 + (3 : Int32)) < (5 : Int32)
          · refine own_via (s₁.setTop (mkF m 41 #[.val (.ref p0), .val (.int p1)] [])) (fun t k => XS.icmpNo X0.here hx rfl (hb hby d13_38) rfl (tlt h38).2.1 k) ?_
            refine own_via (s₁.setTop (mkF m 42 #[.val (.ref p0), .val (.int p1)] [(.ref p0)])) (fun t k => XS.aloadN X0.here hx rfl (hb hby d13_41) rfl rfl k) ?_
            refine own_via (s₁.setTop (mkF m 43 #[.val (.ref p0), .val (.int p1)] [(.int p1), (.ref p0)])) (fun t k => XS.iloadN X0.here hx rfl (hb hby d13_42) rfl  k) ?_
            refine own_via (s₁.setTop (mkF m 44 #[.val (.ref p0), .val (.int p1)] [(.int (3 : Int32)), (.int p1), (.ref p0)])) (fun t k => XS.iconst X0.here hx rfl (hb hby d13_43) k) ?_
            refine own_via (s₁.setTop (mkF m 45 #[.val (.ref p0), .val (.int p1)] [(.int (p1 + (3 : Int32))), (.ref p0)])) (fun t k => XS.iadd X0.here hx rfl (hb hby d13_44) rfl k) ?_
            obtain ⟨cl57, Ar57, S57, H57⟩ := id P0
            refine own_via (s₁.setTop (mkF m 46 #[.val (.ref p0), .val (.int p1)] [(.int (f (p1 + (3 : Int32)).toInt.toNat))])) (fun t k => X0.caload hx (j := (p1 + (3 : Int32))) (v := (.int (f (p1 + (3 : Int32)).toInt.toNat))) (by rw [e0]; exact Ar57.1) (State.isArrayOf_alike hZ.alike Ar57.2.1) Ar57.2.2 (own_in S57 (own_ix hp (by decide) h38)) (own_at H57 (own_ix hp (by decide) h38)) (g := (mkF m 45 #[.val (.ref p0), .val (.int p1)] [(.int (p1 + (3 : Int32))), (.ref p0)])) rfl rfl (hb hby d13_45) _ k) ?_
            refine own_via (s₁.setTop (mkF m 48 #[.val (.ref p0), .val (.int p1)] [(.int (32 : Int32)), (.int (f (p1 + (3 : Int32)).toInt.toNat))])) (fun t k => XS.bipush X0.here hx rfl (hb hby d13_46) k) ?_
            by_cases hc48_58 : (f (p1 + (3 : Int32)).toInt.toNat) = (32 : Int32)
            · refine own_via (s₁.setTop (mkF m 51 #[.val (.ref p0), .val (.int p1)] [])) (fun t k => XS.icmpNo X0.here hx rfl (hb hby d13_48) rfl (teq hc48_58).2 k) ?_
              refine own_via (s₁.setTop (mkF m 52 #[.val (.ref p0), .val (.int p1)] [(.int p1)])) (fun t k => XS.iloadN X0.here hx rfl (hb hby d13_51) rfl  k) ?_
              refine own_via (s₁.setTop (mkF m 53 #[.val (.ref p0), .val (.int p1)] [(.int (4 : Int32)), (.int p1)])) (fun t k => XS.iconst X0.here hx rfl (hb hby d13_52) k) ?_
              refine own_via (s₁.setTop (mkF m 54 #[.val (.ref p0), .val (.int p1)] [(.int (p1 + (4 : Int32)))])) (fun t k => XS.iadd X0.here hx rfl (hb hby d13_53) rfl k) ?_
              refine own_via (s₁.setTop (mkF m 55 #[.val (.ref p0), .val (.int p1)] [(.int (5 : Int32)), (.int (p1 + (4 : Int32)))])) (fun t k => XS.iconst X0.here hx rfl (hb hby d13_54) k) ?_
              by_cases h55 : (p1 + (4 : Int32)) < (5 : Int32)
              · refine own_via (s₁.setTop (mkF m 58 #[.val (.ref p0), .val (.int p1)] [])) (fun t k => XS.icmpNo X0.here hx rfl (hb hby d13_55) rfl (tlt h55).2.1 k) ?_
                refine own_via (s₁.setTop (mkF m 59 #[.val (.ref p0), .val (.int p1)] [(.ref p0)])) (fun t k => XS.aloadN X0.here hx rfl (hb hby d13_58) rfl rfl k) ?_
                refine own_via (s₁.setTop (mkF m 60 #[.val (.ref p0), .val (.int p1)] [(.int p1), (.ref p0)])) (fun t k => XS.iloadN X0.here hx rfl (hb hby d13_59) rfl  k) ?_
                refine own_via (s₁.setTop (mkF m 61 #[.val (.ref p0), .val (.int p1)] [(.int (4 : Int32)), (.int p1), (.ref p0)])) (fun t k => XS.iconst X0.here hx rfl (hb hby d13_60) k) ?_
                refine own_via (s₁.setTop (mkF m 62 #[.val (.ref p0), .val (.int p1)] [(.int (p1 + (4 : Int32))), (.ref p0)])) (fun t k => XS.iadd X0.here hx rfl (hb hby d13_61) rfl k) ?_
                obtain ⟨cl60, Ar60, S60, H60⟩ := id P0
                refine own_via (s₁.setTop (mkF m 63 #[.val (.ref p0), .val (.int p1)] [(.int (f (p1 + (4 : Int32)).toInt.toNat))])) (fun t k => X0.caload hx (j := (p1 + (4 : Int32))) (v := (.int (f (p1 + (4 : Int32)).toInt.toNat))) (by rw [e0]; exact Ar60.1) (State.isArrayOf_alike hZ.alike Ar60.2.1) Ar60.2.2 (own_in S60 (own_ix hp (by decide) h55)) (own_at H60 (own_ix hp (by decide) h55)) (g := (mkF m 62 #[.val (.ref p0), .val (.int p1)] [(.int (p1 + (4 : Int32))), (.ref p0)])) rfl rfl (hb hby d13_62) _ k) ?_
                refine own_via (s₁.setTop (mkF m 65 #[.val (.ref p0), .val (.int p1)] [(.int (32 : Int32)), (.int (f (p1 + (4 : Int32)).toInt.toNat))])) (fun t k => XS.bipush X0.here hx rfl (hb hby d13_63) k) ?_
                by_cases hc65_61 : (f (p1 + (4 : Int32)).toInt.toNat) = (32 : Int32)
                · refine own_via (s₁.setTop (mkF m 72 #[.val (.ref p0), .val (.int p1)] [])) (fun t k => XS.icmpYes X0.here hx rfl (pc0 := 65) (pc' := 72) rfl (hb hby d13_65) rfl (teq hc65_61).1 (by decide) (by decide) k) ?_
                  refine own_via (s₁.setTop (mkF m 73 #[.val (.ref p0), .val (.int p1)] [(.int (0 : Int32))])) (fun t k => XS.iconst X0.here hx rfl (hb hby d13_72) k) ?_
                  refine own_leave X0 Bd.notSynchronized (v := some (.int (0 : Int32))) (fun h => by rw [Bd.returns] at h; cases h) (fun fs hr => retN X0 hx (t := .boolean) Bd.returns (by simp) (hb hby d13_73) hr) ?_ (by decide) (by decide)
                  exact ⟨(by show some (Value.int _) = some (Value.int _); unfold own_f13; rw [if_pos h4, if_pos hc14_52, if_pos h21, if_pos hc31_55, if_pos h38, if_pos hc48_58, if_pos h55, if_pos hc65_61]), N0, e0⟩
                · refine own_via (s₁.setTop (mkF m 68 #[.val (.ref p0), .val (.int p1)] [])) (fun t k => XS.icmpNo X0.here hx rfl (hb hby d13_65) rfl (feq hc65_61).1 k) ?_
                  refine own_via (s₁.setTop (mkF m 69 #[.val (.ref p0), .val (.int p1)] [(.int (1 : Int32))])) (fun t k => XS.iconst X0.here hx rfl (hb hby d13_68) k) ?_
                  refine own_via (s₁.setTop (mkF m 73 #[.val (.ref p0), .val (.int p1)] [(.int (1 : Int32))])) (fun t k => XS.goto X0.here hx rfl (pc0 := 69) (pc' := 73) rfl (hb hby d13_69) (by decide) (by decide) k) ?_
                  refine own_leave X0 Bd.notSynchronized (v := some (.int (1 : Int32))) (fun h => by rw [Bd.returns] at h; cases h) (fun fs hr => retN X0 hx (t := .boolean) Bd.returns (by simp) (hb hby d13_73) hr) ?_ (by decide) (by decide)
                  exact ⟨(by show some (Value.int _) = some (Value.int _); unfold own_f13; rw [if_pos h4, if_pos hc14_52, if_pos h21, if_pos hc31_55, if_pos h38, if_pos hc48_58, if_pos h55, if_neg hc65_61]), N0, e0⟩
              · refine own_via (s₁.setTop (mkF m 72 #[.val (.ref p0), .val (.int p1)] [])) (fun t k => XS.icmpYes X0.here hx rfl (pc0 := 55) (pc' := 72) rfl (hb hby d13_55) rfl (flt h55).2.1 (by decide) (by decide) k) ?_
                refine own_via (s₁.setTop (mkF m 73 #[.val (.ref p0), .val (.int p1)] [(.int (0 : Int32))])) (fun t k => XS.iconst X0.here hx rfl (hb hby d13_72) k) ?_
                refine own_leave X0 Bd.notSynchronized (v := some (.int (0 : Int32))) (fun h => by rw [Bd.returns] at h; cases h) (fun fs hr => retN X0 hx (t := .boolean) Bd.returns (by simp) (hb hby d13_73) hr) ?_ (by decide) (by decide)
                exact ⟨(by show some (Value.int _) = some (Value.int _); unfold own_f13; rw [if_pos h4, if_pos hc14_52, if_pos h21, if_pos hc31_55, if_pos h38, if_pos hc48_58, if_neg h55]), N0, e0⟩
            · refine own_via (s₁.setTop (mkF m 68 #[.val (.ref p0), .val (.int p1)] [])) (fun t k => XS.icmpYes X0.here hx rfl (pc0 := 48) (pc' := 68) rfl (hb hby d13_48) rfl (feq hc48_58).2 (by decide) (by decide) k) ?_
              refine own_via (s₁.setTop (mkF m 69 #[.val (.ref p0), .val (.int p1)] [(.int (1 : Int32))])) (fun t k => XS.iconst X0.here hx rfl (hb hby d13_68) k) ?_
              refine own_via (s₁.setTop (mkF m 73 #[.val (.ref p0), .val (.int p1)] [(.int (1 : Int32))])) (fun t k => XS.goto X0.here hx rfl (pc0 := 69) (pc' := 73) rfl (hb hby d13_69) (by decide) (by decide) k) ?_
              refine own_leave X0 Bd.notSynchronized (v := some (.int (1 : Int32))) (fun h => by rw [Bd.returns] at h; cases h) (fun fs hr => retN X0 hx (t := .boolean) Bd.returns (by simp) (hb hby d13_73) hr) ?_ (by decide) (by decide)
              exact ⟨(by show some (Value.int _) = some (Value.int _); unfold own_f13; rw [if_pos h4, if_pos hc14_52, if_pos h21, if_pos hc31_55, if_pos h38, if_neg hc48_58]), N0, e0⟩
          · refine own_via (s₁.setTop (mkF m 51 #[.val (.ref p0), .val (.int p1)] [])) (fun t k => XS.icmpYes X0.here hx rfl (pc0 := 38) (pc' := 51) rfl (hb hby d13_38) rfl (flt h38).2.1 (by decide) (by decide) k) ?_
            refine own_via (s₁.setTop (mkF m 52 #[.val (.ref p0), .val (.int p1)] [(.int p1)])) (fun t k => XS.iloadN X0.here hx rfl (hb hby d13_51) rfl  k) ?_
            refine own_via (s₁.setTop (mkF m 53 #[.val (.ref p0), .val (.int p1)] [(.int (4 : Int32)), (.int p1)])) (fun t k => XS.iconst X0.here hx rfl (hb hby d13_52) k) ?_
            refine own_via (s₁.setTop (mkF m 54 #[.val (.ref p0), .val (.int p1)] [(.int (p1 + (4 : Int32)))])) (fun t k => XS.iadd X0.here hx rfl (hb hby d13_53) rfl k) ?_
            refine own_via (s₁.setTop (mkF m 55 #[.val (.ref p0), .val (.int p1)] [(.int (5 : Int32)), (.int (p1 + (4 : Int32)))])) (fun t k => XS.iconst X0.here hx rfl (hb hby d13_54) k) ?_
            by_cases h55 : (p1 + (4 : Int32)) < (5 : Int32)
            · refine own_via (s₁.setTop (mkF m 58 #[.val (.ref p0), .val (.int p1)] [])) (fun t k => XS.icmpNo X0.here hx rfl (hb hby d13_55) rfl (tlt h55).2.1 k) ?_
              refine own_via (s₁.setTop (mkF m 59 #[.val (.ref p0), .val (.int p1)] [(.ref p0)])) (fun t k => XS.aloadN X0.here hx rfl (hb hby d13_58) rfl rfl k) ?_
              refine own_via (s₁.setTop (mkF m 60 #[.val (.ref p0), .val (.int p1)] [(.int p1), (.ref p0)])) (fun t k => XS.iloadN X0.here hx rfl (hb hby d13_59) rfl  k) ?_
              refine own_via (s₁.setTop (mkF m 61 #[.val (.ref p0), .val (.int p1)] [(.int (4 : Int32)), (.int p1), (.ref p0)])) (fun t k => XS.iconst X0.here hx rfl (hb hby d13_60) k) ?_
              refine own_via (s₁.setTop (mkF m 62 #[.val (.ref p0), .val (.int p1)] [(.int (p1 + (4 : Int32))), (.ref p0)])) (fun t k => XS.iadd X0.here hx rfl (hb hby d13_61) rfl k) ?_
              obtain ⟨cl63, Ar63, S63, H63⟩ := id P0
              refine own_via (s₁.setTop (mkF m 63 #[.val (.ref p0), .val (.int p1)] [(.int (f (p1 + (4 : Int32)).toInt.toNat))])) (fun t k => X0.caload hx (j := (p1 + (4 : Int32))) (v := (.int (f (p1 + (4 : Int32)).toInt.toNat))) (by rw [e0]; exact Ar63.1) (State.isArrayOf_alike hZ.alike Ar63.2.1) Ar63.2.2 (own_in S63 (own_ix hp (by decide) h55)) (own_at H63 (own_ix hp (by decide) h55)) (g := (mkF m 62 #[.val (.ref p0), .val (.int p1)] [(.int (p1 + (4 : Int32))), (.ref p0)])) rfl rfl (hb hby d13_62) _ k) ?_
              refine own_via (s₁.setTop (mkF m 65 #[.val (.ref p0), .val (.int p1)] [(.int (32 : Int32)), (.int (f (p1 + (4 : Int32)).toInt.toNat))])) (fun t k => XS.bipush X0.here hx rfl (hb hby d13_63) k) ?_
              by_cases hc65_64 : (f (p1 + (4 : Int32)).toInt.toNat) = (32 : Int32)
              · refine own_via (s₁.setTop (mkF m 72 #[.val (.ref p0), .val (.int p1)] [])) (fun t k => XS.icmpYes X0.here hx rfl (pc0 := 65) (pc' := 72) rfl (hb hby d13_65) rfl (teq hc65_64).1 (by decide) (by decide) k) ?_
                refine own_via (s₁.setTop (mkF m 73 #[.val (.ref p0), .val (.int p1)] [(.int (0 : Int32))])) (fun t k => XS.iconst X0.here hx rfl (hb hby d13_72) k) ?_
                refine own_leave X0 Bd.notSynchronized (v := some (.int (0 : Int32))) (fun h => by rw [Bd.returns] at h; cases h) (fun fs hr => retN X0 hx (t := .boolean) Bd.returns (by simp) (hb hby d13_73) hr) ?_ (by decide) (by decide)
                exact ⟨(by show some (Value.int _) = some (Value.int _); unfold own_f13; rw [if_pos h4, if_pos hc14_52, if_pos h21, if_pos hc31_55, if_neg h38, if_pos h55, if_pos hc65_64]), N0, e0⟩
              · refine own_via (s₁.setTop (mkF m 68 #[.val (.ref p0), .val (.int p1)] [])) (fun t k => XS.icmpNo X0.here hx rfl (hb hby d13_65) rfl (feq hc65_64).1 k) ?_
                refine own_via (s₁.setTop (mkF m 69 #[.val (.ref p0), .val (.int p1)] [(.int (1 : Int32))])) (fun t k => XS.iconst X0.here hx rfl (hb hby d13_68) k) ?_
                refine own_via (s₁.setTop (mkF m 73 #[.val (.ref p0), .val (.int p1)] [(.int (1 : Int32))])) (fun t k => XS.goto X0.here hx rfl (pc0 := 69) (pc' := 73) rfl (hb hby d13_69) (by decide) (by decide) k) ?_
                refine own_leave X0 Bd.notSynchronized (v := some (.int (1 : Int32))) (fun h => by rw [Bd.returns] at h; cases h) (fun fs hr => retN X0 hx (t := .boolean) Bd.returns (by simp) (hb hby d13_73) hr) ?_ (by decide) (by decide)
                exact ⟨(by show some (Value.int _) = some (Value.int _); unfold own_f13; rw [if_pos h4, if_pos hc14_52, if_pos h21, if_pos hc31_55, if_neg h38, if_pos h55, if_neg hc65_64]), N0, e0⟩
            · refine own_via (s₁.setTop (mkF m 72 #[.val (.ref p0), .val (.int p1)] [])) (fun t k => XS.icmpYes X0.here hx rfl (pc0 := 55) (pc' := 72) rfl (hb hby d13_55) rfl (flt h55).2.1 (by decide) (by decide) k) ?_
              refine own_via (s₁.setTop (mkF m 73 #[.val (.ref p0), .val (.int p1)] [(.int (0 : Int32))])) (fun t k => XS.iconst X0.here hx rfl (hb hby d13_72) k) ?_
              refine own_leave X0 Bd.notSynchronized (v := some (.int (0 : Int32))) (fun h => by rw [Bd.returns] at h; cases h) (fun fs hr => retN X0 hx (t := .boolean) Bd.returns (by simp) (hb hby d13_73) hr) ?_ (by decide) (by decide)
              exact ⟨(by show some (Value.int _) = some (Value.int _); unfold own_f13; rw [if_pos h4, if_pos hc14_52, if_pos h21, if_pos hc31_55, if_neg h38, if_neg h55]), N0, e0⟩
        · refine own_via (s₁.setTop (mkF m 68 #[.val (.ref p0), .val (.int p1)] [])) (fun t k => XS.icmpYes X0.here hx rfl (pc0 := 31) (pc' := 68) rfl (hb hby d13_31) rfl (feq hc31_55).2 (by decide) (by decide) k) ?_
          refine own_via (s₁.setTop (mkF m 69 #[.val (.ref p0), .val (.int p1)] [(.int (1 : Int32))])) (fun t k => XS.iconst X0.here hx rfl (hb hby d13_68) k) ?_
          refine own_via (s₁.setTop (mkF m 73 #[.val (.ref p0), .val (.int p1)] [(.int (1 : Int32))])) (fun t k => XS.goto X0.here hx rfl (pc0 := 69) (pc' := 73) rfl (hb hby d13_69) (by decide) (by decide) k) ?_
          refine own_leave X0 Bd.notSynchronized (v := some (.int (1 : Int32))) (fun h => by rw [Bd.returns] at h; cases h) (fun fs hr => retN X0 hx (t := .boolean) Bd.returns (by simp) (hb hby d13_73) hr) ?_ (by decide) (by decide)
          exact ⟨(by show some (Value.int _) = some (Value.int _); unfold own_f13; rw [if_pos h4, if_pos hc14_52, if_pos h21, if_neg hc31_55]), N0, e0⟩
      · refine own_via (s₁.setTop (mkF m 34 #[.val (.ref p0), .val (.int p1)] [])) (fun t k => XS.icmpYes X0.here hx rfl (pc0 := 21) (pc' := 34) rfl (hb hby d13_21) rfl (flt h21).2.1 (by decide) (by decide) k) ?_
        refine own_via (s₁.setTop (mkF m 35 #[.val (.ref p0), .val (.int p1)] [(.int p1)])) (fun t k => XS.iloadN X0.here hx rfl (hb hby d13_34) rfl  k) ?_
        refine own_via (s₁.setTop (mkF m 36 #[.val (.ref p0), .val (.int p1)] [(.int (3 : Int32)), (.int p1)])) (fun t k => XS.iconst X0.here hx rfl (hb hby d13_35) k) ?_
        refine own_via (s₁.setTop (mkF m 37 #[.val (.ref p0), .val (.int p1)] [(.int (p1 + (3 : Int32)))])) (fun t k => XS.iadd X0.here hx rfl (hb hby d13_36) rfl k) ?_
        refine own_via (s₁.setTop (mkF m 38 #[.val (.ref p0), .val (.int p1)] [(.int (5 : Int32)), (.int (p1 + (3 : Int32)))])) (fun t k => XS.iconst X0.here hx rfl (hb hby d13_37) k) ?_
        by_cases h38 : (p1 + (3 : Int32)) < (5 : Int32)
        · refine own_via (s₁.setTop (mkF m 41 #[.val (.ref p0), .val (.int p1)] [])) (fun t k => XS.icmpNo X0.here hx rfl (hb hby d13_38) rfl (tlt h38).2.1 k) ?_
          refine own_via (s₁.setTop (mkF m 42 #[.val (.ref p0), .val (.int p1)] [(.ref p0)])) (fun t k => XS.aloadN X0.here hx rfl (hb hby d13_41) rfl rfl k) ?_
          refine own_via (s₁.setTop (mkF m 43 #[.val (.ref p0), .val (.int p1)] [(.int p1), (.ref p0)])) (fun t k => XS.iloadN X0.here hx rfl (hb hby d13_42) rfl  k) ?_
          refine own_via (s₁.setTop (mkF m 44 #[.val (.ref p0), .val (.int p1)] [(.int (3 : Int32)), (.int p1), (.ref p0)])) (fun t k => XS.iconst X0.here hx rfl (hb hby d13_43) k) ?_
          refine own_via (s₁.setTop (mkF m 45 #[.val (.ref p0), .val (.int p1)] [(.int (p1 + (3 : Int32))), (.ref p0)])) (fun t k => XS.iadd X0.here hx rfl (hb hby d13_44) rfl k) ?_
          obtain ⟨cl66, Ar66, S66, H66⟩ := id P0
          refine own_via (s₁.setTop (mkF m 46 #[.val (.ref p0), .val (.int p1)] [(.int (f (p1 + (3 : Int32)).toInt.toNat))])) (fun t k => X0.caload hx (j := (p1 + (3 : Int32))) (v := (.int (f (p1 + (3 : Int32)).toInt.toNat))) (by rw [e0]; exact Ar66.1) (State.isArrayOf_alike hZ.alike Ar66.2.1) Ar66.2.2 (own_in S66 (own_ix hp (by decide) h38)) (own_at H66 (own_ix hp (by decide) h38)) (g := (mkF m 45 #[.val (.ref p0), .val (.int p1)] [(.int (p1 + (3 : Int32))), (.ref p0)])) rfl rfl (hb hby d13_45) _ k) ?_
          refine own_via (s₁.setTop (mkF m 48 #[.val (.ref p0), .val (.int p1)] [(.int (32 : Int32)), (.int (f (p1 + (3 : Int32)).toInt.toNat))])) (fun t k => XS.bipush X0.here hx rfl (hb hby d13_46) k) ?_
          by_cases hc48_67 : (f (p1 + (3 : Int32)).toInt.toNat) = (32 : Int32)
          · refine own_via (s₁.setTop (mkF m 51 #[.val (.ref p0), .val (.int p1)] [])) (fun t k => XS.icmpNo X0.here hx rfl (hb hby d13_48) rfl (teq hc48_67).2 k) ?_
            refine own_via (s₁.setTop (mkF m 52 #[.val (.ref p0), .val (.int p1)] [(.int p1)])) (fun t k => XS.iloadN X0.here hx rfl (hb hby d13_51) rfl  k) ?_
            refine own_via (s₁.setTop (mkF m 53 #[.val (.ref p0), .val (.int p1)] [(.int (4 : Int32)), (.int p1)])) (fun t k => XS.iconst X0.here hx rfl (hb hby d13_52) k) ?_
            refine own_via (s₁.setTop (mkF m 54 #[.val (.ref p0), .val (.int p1)] [(.int (p1 + (4 : Int32)))])) (fun t k => XS.iadd X0.here hx rfl (hb hby d13_53) rfl k) ?_
            refine own_via (s₁.setTop (mkF m 55 #[.val (.ref p0), .val (.int p1)] [(.int (5 : Int32)), (.int (p1 + (4 : Int32)))])) (fun t k => XS.iconst X0.here hx rfl (hb hby d13_54) k) ?_
            by_cases h55 : (p1 + (4 : Int32)) < (5 : Int32)
            · refine own_via (s₁.setTop (mkF m 58 #[.val (.ref p0), .val (.int p1)] [])) (fun t k => XS.icmpNo X0.here hx rfl (hb hby d13_55) rfl (tlt h55).2.1 k) ?_
              refine own_via (s₁.setTop (mkF m 59 #[.val (.ref p0), .val (.int p1)] [(.ref p0)])) (fun t k => XS.aloadN X0.here hx rfl (hb hby d13_58) rfl rfl k) ?_
              refine own_via (s₁.setTop (mkF m 60 #[.val (.ref p0), .val (.int p1)] [(.int p1), (.ref p0)])) (fun t k => XS.iloadN X0.here hx rfl (hb hby d13_59) rfl  k) ?_
              refine own_via (s₁.setTop (mkF m 61 #[.val (.ref p0), .val (.int p1)] [(.int (4 : Int32)), (.int p1), (.ref p0)])) (fun t k => XS.iconst X0.here hx rfl (hb hby d13_60) k) ?_
              refine own_via (s₁.setTop (mkF m 62 #[.val (.ref p0), .val (.int p1)] [(.int (p1 + (4 : Int32))), (.ref p0)])) (fun t k => XS.iadd X0.here hx rfl (hb hby d13_61) rfl k) ?_
              obtain ⟨cl69, Ar69, S69, H69⟩ := id P0
              refine own_via (s₁.setTop (mkF m 63 #[.val (.ref p0), .val (.int p1)] [(.int (f (p1 + (4 : Int32)).toInt.toNat))])) (fun t k => X0.caload hx (j := (p1 + (4 : Int32))) (v := (.int (f (p1 + (4 : Int32)).toInt.toNat))) (by rw [e0]; exact Ar69.1) (State.isArrayOf_alike hZ.alike Ar69.2.1) Ar69.2.2 (own_in S69 (own_ix hp (by decide) h55)) (own_at H69 (own_ix hp (by decide) h55)) (g := (mkF m 62 #[.val (.ref p0), .val (.int p1)] [(.int (p1 + (4 : Int32))), (.ref p0)])) rfl rfl (hb hby d13_62) _ k) ?_
              refine own_via (s₁.setTop (mkF m 65 #[.val (.ref p0), .val (.int p1)] [(.int (32 : Int32)), (.int (f (p1 + (4 : Int32)).toInt.toNat))])) (fun t k => XS.bipush X0.here hx rfl (hb hby d13_63) k) ?_
              by_cases hc65_70 : (f (p1 + (4 : Int32)).toInt.toNat) = (32 : Int32)
              · refine own_via (s₁.setTop (mkF m 72 #[.val (.ref p0), .val (.int p1)] [])) (fun t k => XS.icmpYes X0.here hx rfl (pc0 := 65) (pc' := 72) rfl (hb hby d13_65) rfl (teq hc65_70).1 (by decide) (by decide) k) ?_
                refine own_via (s₁.setTop (mkF m 73 #[.val (.ref p0), .val (.int p1)] [(.int (0 : Int32))])) (fun t k => XS.iconst X0.here hx rfl (hb hby d13_72) k) ?_
                refine own_leave X0 Bd.notSynchronized (v := some (.int (0 : Int32))) (fun h => by rw [Bd.returns] at h; cases h) (fun fs hr => retN X0 hx (t := .boolean) Bd.returns (by simp) (hb hby d13_73) hr) ?_ (by decide) (by decide)
                exact ⟨(by show some (Value.int _) = some (Value.int _); unfold own_f13; rw [if_pos h4, if_pos hc14_52, if_neg h21, if_pos h38, if_pos hc48_67, if_pos h55, if_pos hc65_70]), N0, e0⟩
              · refine own_via (s₁.setTop (mkF m 68 #[.val (.ref p0), .val (.int p1)] [])) (fun t k => XS.icmpNo X0.here hx rfl (hb hby d13_65) rfl (feq hc65_70).1 k) ?_
                refine own_via (s₁.setTop (mkF m 69 #[.val (.ref p0), .val (.int p1)] [(.int (1 : Int32))])) (fun t k => XS.iconst X0.here hx rfl (hb hby d13_68) k) ?_
                refine own_via (s₁.setTop (mkF m 73 #[.val (.ref p0), .val (.int p1)] [(.int (1 : Int32))])) (fun t k => XS.goto X0.here hx rfl (pc0 := 69) (pc' := 73) rfl (hb hby d13_69) (by decide) (by decide) k) ?_
                refine own_leave X0 Bd.notSynchronized (v := some (.int (1 : Int32))) (fun h => by rw [Bd.returns] at h; cases h) (fun fs hr => retN X0 hx (t := .boolean) Bd.returns (by simp) (hb hby d13_73) hr) ?_ (by decide) (by decide)
                exact ⟨(by show some (Value.int _) = some (Value.int _); unfold own_f13; rw [if_pos h4, if_pos hc14_52, if_neg h21, if_pos h38, if_pos hc48_67, if_pos h55, if_neg hc65_70]), N0, e0⟩
            · refine own_via (s₁.setTop (mkF m 72 #[.val (.ref p0), .val (.int p1)] [])) (fun t k => XS.icmpYes X0.here hx rfl (pc0 := 55) (pc' := 72) rfl (hb hby d13_55) rfl (flt h55).2.1 (by decide) (by decide) k) ?_
              refine own_via (s₁.setTop (mkF m 73 #[.val (.ref p0), .val (.int p1)] [(.int (0 : Int32))])) (fun t k => XS.iconst X0.here hx rfl (hb hby d13_72) k) ?_
              refine own_leave X0 Bd.notSynchronized (v := some (.int (0 : Int32))) (fun h => by rw [Bd.returns] at h; cases h) (fun fs hr => retN X0 hx (t := .boolean) Bd.returns (by simp) (hb hby d13_73) hr) ?_ (by decide) (by decide)
              exact ⟨(by show some (Value.int _) = some (Value.int _); unfold own_f13; rw [if_pos h4, if_pos hc14_52, if_neg h21, if_pos h38, if_pos hc48_67, if_neg h55]), N0, e0⟩
          · refine own_via (s₁.setTop (mkF m 68 #[.val (.ref p0), .val (.int p1)] [])) (fun t k => XS.icmpYes X0.here hx rfl (pc0 := 48) (pc' := 68) rfl (hb hby d13_48) rfl (feq hc48_67).2 (by decide) (by decide) k) ?_
            refine own_via (s₁.setTop (mkF m 69 #[.val (.ref p0), .val (.int p1)] [(.int (1 : Int32))])) (fun t k => XS.iconst X0.here hx rfl (hb hby d13_68) k) ?_
            refine own_via (s₁.setTop (mkF m 73 #[.val (.ref p0), .val (.int p1)] [(.int (1 : Int32))])) (fun t k => XS.goto X0.here hx rfl (pc0 := 69) (pc' := 73) rfl (hb hby d13_69) (by decide) (by decide) k) ?_
            refine own_leave X0 Bd.notSynchronized (v := some (.int (1 : Int32))) (fun h => by rw [Bd.returns] at h; cases h) (fun fs hr => retN X0 hx (t := .boolean) Bd.returns (by simp) (hb hby d13_73) hr) ?_ (by decide) (by decide)
            exact ⟨(by show some (Value.int _) = some (Value.int _); unfold own_f13; rw [if_pos h4, if_pos hc14_52, if_neg h21, if_pos h38, if_neg hc48_67]), N0, e0⟩
        · refine own_via (s₁.setTop (mkF m 51 #[.val (.ref p0), .val (.int p1)] [])) (fun t k => XS.icmpYes X0.here hx rfl (pc0 := 38) (pc' := 51) rfl (hb hby d13_38) rfl (flt h38).2.1 (by decide) (by decide) k) ?_
          refine own_via (s₁.setTop (mkF m 52 #[.val (.ref p0), .val (.int p1)] [(.int p1)])) (fun t k => XS.iloadN X0.here hx rfl (hb hby d13_51) rfl  k) ?_
          refine own_via (s₁.setTop (mkF m 53 #[.val (.ref p0), .val (.int p1)] [(.int (4 : Int32)), (.int p1)])) (fun t k => XS.iconst X0.here hx rfl (hb hby d13_52) k) ?_
          refine own_via (s₁.setTop (mkF m 54 #[.val (.ref p0), .val (.int p1)] [(.int (p1 + (4 : Int32)))])) (fun t k => XS.iadd X0.here hx rfl (hb hby d13_53) rfl k) ?_
          refine own_via (s₁.setTop (mkF m 55 #[.val (.ref p0), .val (.int p1)] [(.int (5 : Int32)), (.int (p1 + (4 : Int32)))])) (fun t k => XS.iconst X0.here hx rfl (hb hby d13_54) k) ?_
          by_cases h55 : (p1 + (4 : Int32)) < (5 : Int32)
          · refine own_via (s₁.setTop (mkF m 58 #[.val (.ref p0), .val (.int p1)] [])) (fun t k => XS.icmpNo X0.here hx rfl (hb hby d13_55) rfl (tlt h55).2.1 k) ?_
            refine own_via (s₁.setTop (mkF m 59 #[.val (.ref p0), .val (.int p1)] [(.ref p0)])) (fun t k => XS.aloadN X0.here hx rfl (hb hby d13_58) rfl rfl k) ?_
            refine own_via (s₁.setTop (mkF m 60 #[.val (.ref p0), .val (.int p1)] [(.int p1), (.ref p0)])) (fun t k => XS.iloadN X0.here hx rfl (hb hby d13_59) rfl  k) ?_
            refine own_via (s₁.setTop (mkF m 61 #[.val (.ref p0), .val (.int p1)] [(.int (4 : Int32)), (.int p1), (.ref p0)])) (fun t k => XS.iconst X0.here hx rfl (hb hby d13_60) k) ?_
            refine own_via (s₁.setTop (mkF m 62 #[.val (.ref p0), .val (.int p1)] [(.int (p1 + (4 : Int32))), (.ref p0)])) (fun t k => XS.iadd X0.here hx rfl (hb hby d13_61) rfl k) ?_
            obtain ⟨cl72, Ar72, S72, H72⟩ := id P0
            refine own_via (s₁.setTop (mkF m 63 #[.val (.ref p0), .val (.int p1)] [(.int (f (p1 + (4 : Int32)).toInt.toNat))])) (fun t k => X0.caload hx (j := (p1 + (4 : Int32))) (v := (.int (f (p1 + (4 : Int32)).toInt.toNat))) (by rw [e0]; exact Ar72.1) (State.isArrayOf_alike hZ.alike Ar72.2.1) Ar72.2.2 (own_in S72 (own_ix hp (by decide) h55)) (own_at H72 (own_ix hp (by decide) h55)) (g := (mkF m 62 #[.val (.ref p0), .val (.int p1)] [(.int (p1 + (4 : Int32))), (.ref p0)])) rfl rfl (hb hby d13_62) _ k) ?_
            refine own_via (s₁.setTop (mkF m 65 #[.val (.ref p0), .val (.int p1)] [(.int (32 : Int32)), (.int (f (p1 + (4 : Int32)).toInt.toNat))])) (fun t k => XS.bipush X0.here hx rfl (hb hby d13_63) k) ?_
            by_cases hc65_73 : (f (p1 + (4 : Int32)).toInt.toNat) = (32 : Int32)
            · refine own_via (s₁.setTop (mkF m 72 #[.val (.ref p0), .val (.int p1)] [])) (fun t k => XS.icmpYes X0.here hx rfl (pc0 := 65) (pc' := 72) rfl (hb hby d13_65) rfl (teq hc65_73).1 (by decide) (by decide) k) ?_
              refine own_via (s₁.setTop (mkF m 73 #[.val (.ref p0), .val (.int p1)] [(.int (0 : Int32))])) (fun t k => XS.iconst X0.here hx rfl (hb hby d13_72) k) ?_
              refine own_leave X0 Bd.notSynchronized (v := some (.int (0 : Int32))) (fun h => by rw [Bd.returns] at h; cases h) (fun fs hr => retN X0 hx (t := .boolean) Bd.returns (by simp) (hb hby d13_73) hr) ?_ (by decide) (by decide)
              exact ⟨(by show some (Value.int _) = some (Value.int _); unfold own_f13; rw [if_pos h4, if_pos hc14_52, if_neg h21, if_neg h38, if_pos h55, if_pos hc65_73]), N0, e0⟩
            · refine own_via (s₁.setTop (mkF m 68 #[.val (.ref p0), .val (.int p1)] [])) (fun t k => XS.icmpNo X0.here hx rfl (hb hby d13_65) rfl (feq hc65_73).1 k) ?_
              refine own_via (s₁.setTop (mkF m 69 #[.val (.ref p0), .val (.int p1)] [(.int (1 : Int32))])) (fun t k => XS.iconst X0.here hx rfl (hb hby d13_68) k) ?_
              refine own_via (s₁.setTop (mkF m 73 #[.val (.ref p0), .val (.int p1)] [(.int (1 : Int32))])) (fun t k => XS.goto X0.here hx rfl (pc0 := 69) (pc' := 73) rfl (hb hby d13_69) (by decide) (by decide) k) ?_
              refine own_leave X0 Bd.notSynchronized (v := some (.int (1 : Int32))) (fun h => by rw [Bd.returns] at h; cases h) (fun fs hr => retN X0 hx (t := .boolean) Bd.returns (by simp) (hb hby d13_73) hr) ?_ (by decide) (by decide)
              exact ⟨(by show some (Value.int _) = some (Value.int _); unfold own_f13; rw [if_pos h4, if_pos hc14_52, if_neg h21, if_neg h38, if_pos h55, if_neg hc65_73]), N0, e0⟩
          · refine own_via (s₁.setTop (mkF m 72 #[.val (.ref p0), .val (.int p1)] [])) (fun t k => XS.icmpYes X0.here hx rfl (pc0 := 55) (pc' := 72) rfl (hb hby d13_55) rfl (flt h55).2.1 (by decide) (by decide) k) ?_
            refine own_via (s₁.setTop (mkF m 73 #[.val (.ref p0), .val (.int p1)] [(.int (0 : Int32))])) (fun t k => XS.iconst X0.here hx rfl (hb hby d13_72) k) ?_
            refine own_leave X0 Bd.notSynchronized (v := some (.int (0 : Int32))) (fun h => by rw [Bd.returns] at h; cases h) (fun fs hr => retN X0 hx (t := .boolean) Bd.returns (by simp) (hb hby d13_73) hr) ?_ (by decide) (by decide)
            exact ⟨(by show some (Value.int _) = some (Value.int _); unfold own_f13; rw [if_pos h4, if_pos hc14_52, if_neg h21, if_neg h38, if_neg h55]), N0, e0⟩
    · refine own_via (s₁.setTop (mkF m 68 #[.val (.ref p0), .val (.int p1)] [])) (fun t k => XS.icmpYes X0.here hx rfl (pc0 := 14) (pc' := 68) rfl (hb hby d13_14) rfl (feq hc14_52).2 (by decide) (by decide) k) ?_
      refine own_via (s₁.setTop (mkF m 69 #[.val (.ref p0), .val (.int p1)] [(.int (1 : Int32))])) (fun t k => XS.iconst X0.here hx rfl (hb hby d13_68) k) ?_
      refine own_via (s₁.setTop (mkF m 73 #[.val (.ref p0), .val (.int p1)] [(.int (1 : Int32))])) (fun t k => XS.goto X0.here hx rfl (pc0 := 69) (pc' := 73) rfl (hb hby d13_69) (by decide) (by decide) k) ?_
      refine own_leave X0 Bd.notSynchronized (v := some (.int (1 : Int32))) (fun h => by rw [Bd.returns] at h; cases h) (fun fs hr => retN X0 hx (t := .boolean) Bd.returns (by simp) (hb hby d13_73) hr) ?_ (by decide) (by decide)
      exact ⟨(by show some (Value.int _) = some (Value.int _); unfold own_f13; rw [if_pos h4, if_neg hc14_52]), N0, e0⟩
  · refine own_via (s₁.setTop (mkF m 17 #[.val (.ref p0), .val (.int p1)] [])) (fun t k => XS.icmpYes X0.here hx rfl (pc0 := 4) (pc' := 17) rfl (hb hby d13_4) rfl (flt h4).2.1 (by decide) (by decide) k) ?_
    refine own_via (s₁.setTop (mkF m 18 #[.val (.ref p0), .val (.int p1)] [(.int p1)])) (fun t k => XS.iloadN X0.here hx rfl (hb hby d13_17) rfl  k) ?_
    refine own_via (s₁.setTop (mkF m 19 #[.val (.ref p0), .val (.int p1)] [(.int (2 : Int32)), (.int p1)])) (fun t k => XS.iconst X0.here hx rfl (hb hby d13_18) k) ?_
    refine own_via (s₁.setTop (mkF m 20 #[.val (.ref p0), .val (.int p1)] [(.int (p1 + (2 : Int32)))])) (fun t k => XS.iadd X0.here hx rfl (hb hby d13_19) rfl k) ?_
    refine own_via (s₁.setTop (mkF m 21 #[.val (.ref p0), .val (.int p1)] [(.int (5 : Int32)), (.int (p1 + (2 : Int32)))])) (fun t k => XS.iconst X0.here hx rfl (hb hby d13_20) k) ?_
    by_cases h21 : (p1 + (2 : Int32)) < (5 : Int32)
    · refine own_via (s₁.setTop (mkF m 24 #[.val (.ref p0), .val (.int p1)] [])) (fun t k => XS.icmpNo X0.here hx rfl (hb hby d13_21) rfl (tlt h21).2.1 k) ?_
      refine own_via (s₁.setTop (mkF m 25 #[.val (.ref p0), .val (.int p1)] [(.ref p0)])) (fun t k => XS.aloadN X0.here hx rfl (hb hby d13_24) rfl rfl k) ?_
      refine own_via (s₁.setTop (mkF m 26 #[.val (.ref p0), .val (.int p1)] [(.int p1), (.ref p0)])) (fun t k => XS.iloadN X0.here hx rfl (hb hby d13_25) rfl  k) ?_
      refine own_via (s₁.setTop (mkF m 27 #[.val (.ref p0), .val (.int p1)] [(.int (2 : Int32)), (.int p1), (.ref p0)])) (fun t k => XS.iconst X0.here hx rfl (hb hby d13_26) k) ?_
      refine own_via (s₁.setTop (mkF m 28 #[.val (.ref p0), .val (.int p1)] [(.int (p1 + (2 : Int32))), (.ref p0)])) (fun t k => XS.iadd X0.here hx rfl (hb hby d13_27) rfl k) ?_
      obtain ⟨cl75, Ar75, S75, H75⟩ := id P0
      refine own_via (s₁.setTop (mkF m 29 #[.val (.ref p0), .val (.int p1)] [(.int (f (p1 + (2 : Int32)).toInt.toNat))])) (fun t k => X0.caload hx (j := (p1 + (2 : Int32))) (v := (.int (f (p1 + (2 : Int32)).toInt.toNat))) (by rw [e0]; exact Ar75.1) (State.isArrayOf_alike hZ.alike Ar75.2.1) Ar75.2.2 (own_in S75 (own_ix hp (by decide) h21)) (own_at H75 (own_ix hp (by decide) h21)) (g := (mkF m 28 #[.val (.ref p0), .val (.int p1)] [(.int (p1 + (2 : Int32))), (.ref p0)])) rfl rfl (hb hby d13_28) _ k) ?_
      refine own_via (s₁.setTop (mkF m 31 #[.val (.ref p0), .val (.int p1)] [(.int (32 : Int32)), (.int (f (p1 + (2 : Int32)).toInt.toNat))])) (fun t k => XS.bipush X0.here hx rfl (hb hby d13_29) k) ?_
      by_cases hc31_76 : (f (p1 + (2 : Int32)).toInt.toNat) = (32 : Int32)
      · refine own_via (s₁.setTop (mkF m 34 #[.val (.ref p0), .val (.int p1)] [])) (fun t k => XS.icmpNo X0.here hx rfl (hb hby d13_31) rfl (teq hc31_76).2 k) ?_
        refine own_via (s₁.setTop (mkF m 35 #[.val (.ref p0), .val (.int p1)] [(.int p1)])) (fun t k => XS.iloadN X0.here hx rfl (hb hby d13_34) rfl  k) ?_
        refine own_via (s₁.setTop (mkF m 36 #[.val (.ref p0), .val (.int p1)] [(.int (3 : Int32)), (.int p1)])) (fun t k => XS.iconst X0.here hx rfl (hb hby d13_35) k) ?_
        refine own_via (s₁.setTop (mkF m 37 #[.val (.ref p0), .val (.int p1)] [(.int (p1 + (3 : Int32)))])) (fun t k => XS.iadd X0.here hx rfl (hb hby d13_36) rfl k) ?_
        refine own_via (s₁.setTop (mkF m 38 #[.val (.ref p0), .val (.int p1)] [(.int (5 : Int32)), (.int (p1 + (3 : Int32)))])) (fun t k => XS.iconst X0.here hx rfl (hb hby d13_37) k) ?_
        by_cases h38 : (p1 + (3 : Int32)) < (5 : Int32)
        · refine own_via (s₁.setTop (mkF m 41 #[.val (.ref p0), .val (.int p1)] [])) (fun t k => XS.icmpNo X0.here hx rfl (hb hby d13_38) rfl (tlt h38).2.1 k) ?_
          refine own_via (s₁.setTop (mkF m 42 #[.val (.ref p0), .val (.int p1)] [(.ref p0)])) (fun t k => XS.aloadN X0.here hx rfl (hb hby d13_41) rfl rfl k) ?_
          refine own_via (s₁.setTop (mkF m 43 #[.val (.ref p0), .val (.int p1)] [(.int p1), (.ref p0)])) (fun t k => XS.iloadN X0.here hx rfl (hb hby d13_42) rfl  k) ?_
          refine own_via (s₁.setTop (mkF m 44 #[.val (.ref p0), .val (.int p1)] [(.int (3 : Int32)), (.int p1), (.ref p0)])) (fun t k => XS.iconst X0.here hx rfl (hb hby d13_43) k) ?_
          refine own_via (s₁.setTop (mkF m 45 #[.val (.ref p0), .val (.int p1)] [(.int (p1 + (3 : Int32))), (.ref p0)])) (fun t k => XS.iadd X0.here hx rfl (hb hby d13_44) rfl k) ?_
          obtain ⟨cl78, Ar78, S78, H78⟩ := id P0
          refine own_via (s₁.setTop (mkF m 46 #[.val (.ref p0), .val (.int p1)] [(.int (f (p1 + (3 : Int32)).toInt.toNat))])) (fun t k => X0.caload hx (j := (p1 + (3 : Int32))) (v := (.int (f (p1 + (3 : Int32)).toInt.toNat))) (by rw [e0]; exact Ar78.1) (State.isArrayOf_alike hZ.alike Ar78.2.1) Ar78.2.2 (own_in S78 (own_ix hp (by decide) h38)) (own_at H78 (own_ix hp (by decide) h38)) (g := (mkF m 45 #[.val (.ref p0), .val (.int p1)] [(.int (p1 + (3 : Int32))), (.ref p0)])) rfl rfl (hb hby d13_45) _ k) ?_
          refine own_via (s₁.setTop (mkF m 48 #[.val (.ref p0), .val (.int p1)] [(.int (32 : Int32)), (.int (f (p1 + (3 : Int32)).toInt.toNat))])) (fun t k => XS.bipush X0.here hx rfl (hb hby d13_46) k) ?_
          by_cases hc48_79 : (f (p1 + (3 : Int32)).toInt.toNat) = (32 : Int32)
          · refine own_via (s₁.setTop (mkF m 51 #[.val (.ref p0), .val (.int p1)] [])) (fun t k => XS.icmpNo X0.here hx rfl (hb hby d13_48) rfl (teq hc48_79).2 k) ?_
            refine own_via (s₁.setTop (mkF m 52 #[.val (.ref p0), .val (.int p1)] [(.int p1)])) (fun t k => XS.iloadN X0.here hx rfl (hb hby d13_51) rfl  k) ?_
            refine own_via (s₁.setTop (mkF m 53 #[.val (.ref p0), .val (.int p1)] [(.int (4 : Int32)), (.int p1)])) (fun t k => XS.iconst X0.here hx rfl (hb hby d13_52) k) ?_
            refine own_via (s₁.setTop (mkF m 54 #[.val (.ref p0), .val (.int p1)] [(.int (p1 + (4 : Int32)))])) (fun t k => XS.iadd X0.here hx rfl (hb hby d13_53) rfl k) ?_
            refine own_via (s₁.setTop (mkF m 55 #[.val (.ref p0), .val (.int p1)] [(.int (5 : Int32)), (.int (p1 + (4 : Int32)))])) (fun t k => XS.iconst X0.here hx rfl (hb hby d13_54) k) ?_
            by_cases h55 : (p1 + (4 : Int32)) < (5 : Int32)
            · refine own_via (s₁.setTop (mkF m 58 #[.val (.ref p0), .val (.int p1)] [])) (fun t k => XS.icmpNo X0.here hx rfl (hb hby d13_55) rfl (tlt h55).2.1 k) ?_
              refine own_via (s₁.setTop (mkF m 59 #[.val (.ref p0), .val (.int p1)] [(.ref p0)])) (fun t k => XS.aloadN X0.here hx rfl (hb hby d13_58) rfl rfl k) ?_
              refine own_via (s₁.setTop (mkF m 60 #[.val (.ref p0), .val (.int p1)] [(.int p1), (.ref p0)])) (fun t k => XS.iloadN X0.here hx rfl (hb hby d13_59) rfl  k) ?_
              refine own_via (s₁.setTop (mkF m 61 #[.val (.ref p0), .val (.int p1)] [(.int (4 : Int32)), (.int p1), (.ref p0)])) (fun t k => XS.iconst X0.here hx rfl (hb hby d13_60) k) ?_
              refine own_via (s₁.setTop (mkF m 62 #[.val (.ref p0), .val (.int p1)] [(.int (p1 + (4 : Int32))), (.ref p0)])) (fun t k => XS.iadd X0.here hx rfl (hb hby d13_61) rfl k) ?_
              obtain ⟨cl81, Ar81, S81, H81⟩ := id P0
              refine own_via (s₁.setTop (mkF m 63 #[.val (.ref p0), .val (.int p1)] [(.int (f (p1 + (4 : Int32)).toInt.toNat))])) (fun t k => X0.caload hx (j := (p1 + (4 : Int32))) (v := (.int (f (p1 + (4 : Int32)).toInt.toNat))) (by rw [e0]; exact Ar81.1) (State.isArrayOf_alike hZ.alike Ar81.2.1) Ar81.2.2 (own_in S81 (own_ix hp (by decide) h55)) (own_at H81 (own_ix hp (by decide) h55)) (g := (mkF m 62 #[.val (.ref p0), .val (.int p1)] [(.int (p1 + (4 : Int32))), (.ref p0)])) rfl rfl (hb hby d13_62) _ k) ?_
              refine own_via (s₁.setTop (mkF m 65 #[.val (.ref p0), .val (.int p1)] [(.int (32 : Int32)), (.int (f (p1 + (4 : Int32)).toInt.toNat))])) (fun t k => XS.bipush X0.here hx rfl (hb hby d13_63) k) ?_
              by_cases hc65_82 : (f (p1 + (4 : Int32)).toInt.toNat) = (32 : Int32)
              · refine own_via (s₁.setTop (mkF m 72 #[.val (.ref p0), .val (.int p1)] [])) (fun t k => XS.icmpYes X0.here hx rfl (pc0 := 65) (pc' := 72) rfl (hb hby d13_65) rfl (teq hc65_82).1 (by decide) (by decide) k) ?_
                refine own_via (s₁.setTop (mkF m 73 #[.val (.ref p0), .val (.int p1)] [(.int (0 : Int32))])) (fun t k => XS.iconst X0.here hx rfl (hb hby d13_72) k) ?_
                refine own_leave X0 Bd.notSynchronized (v := some (.int (0 : Int32))) (fun h => by rw [Bd.returns] at h; cases h) (fun fs hr => retN X0 hx (t := .boolean) Bd.returns (by simp) (hb hby d13_73) hr) ?_ (by decide) (by decide)
                exact ⟨(by show some (Value.int _) = some (Value.int _); unfold own_f13; rw [if_neg h4, if_pos h21, if_pos hc31_76, if_pos h38, if_pos hc48_79, if_pos h55, if_pos hc65_82]), N0, e0⟩
              · refine own_via (s₁.setTop (mkF m 68 #[.val (.ref p0), .val (.int p1)] [])) (fun t k => XS.icmpNo X0.here hx rfl (hb hby d13_65) rfl (feq hc65_82).1 k) ?_
                refine own_via (s₁.setTop (mkF m 69 #[.val (.ref p0), .val (.int p1)] [(.int (1 : Int32))])) (fun t k => XS.iconst X0.here hx rfl (hb hby d13_68) k) ?_
                refine own_via (s₁.setTop (mkF m 73 #[.val (.ref p0), .val (.int p1)] [(.int (1 : Int32))])) (fun t k => XS.goto X0.here hx rfl (pc0 := 69) (pc' := 73) rfl (hb hby d13_69) (by decide) (by decide) k) ?_
                refine own_leave X0 Bd.notSynchronized (v := some (.int (1 : Int32))) (fun h => by rw [Bd.returns] at h; cases h) (fun fs hr => retN X0 hx (t := .boolean) Bd.returns (by simp) (hb hby d13_73) hr) ?_ (by decide) (by decide)
                exact ⟨(by show some (Value.int _) = some (Value.int _); unfold own_f13; rw [if_neg h4, if_pos h21, if_pos hc31_76, if_pos h38, if_pos hc48_79, if_pos h55, if_neg hc65_82]), N0, e0⟩
            · refine own_via (s₁.setTop (mkF m 72 #[.val (.ref p0), .val (.int p1)] [])) (fun t k => XS.icmpYes X0.here hx rfl (pc0 := 55) (pc' := 72) rfl (hb hby d13_55) rfl (flt h55).2.1 (by decide) (by decide) k) ?_
              refine own_via (s₁.setTop (mkF m 73 #[.val (.ref p0), .val (.int p1)] [(.int (0 : Int32))])) (fun t k => XS.iconst X0.here hx rfl (hb hby d13_72) k) ?_
              refine own_leave X0 Bd.notSynchronized (v := some (.int (0 : Int32))) (fun h => by rw [Bd.returns] at h; cases h) (fun fs hr => retN X0 hx (t := .boolean) Bd.returns (by simp) (hb hby d13_73) hr) ?_ (by decide) (by decide)
              exact ⟨(by show some (Value.int _) = some (Value.int _); unfold own_f13; rw [if_neg h4, if_pos h21, if_pos hc31_76, if_pos h38, if_pos hc48_79, if_neg h55]), N0, e0⟩
          · refine own_via (s₁.setTop (mkF m 68 #[.val (.ref p0), .val (.int p1)] [])) (fun t k => XS.icmpYes X0.here hx rfl (pc0 := 48) (pc' := 68) rfl (hb hby d13_48) rfl (feq hc48_79).2 (by decide) (by decide) k) ?_
            refine own_via (s₁.setTop (mkF m 69 #[.val (.ref p0), .val (.int p1)] [(.int (1 : Int32))])) (fun t k => XS.iconst X0.here hx rfl (hb hby d13_68) k) ?_
            refine own_via (s₁.setTop (mkF m 73 #[.val (.ref p0), .val (.int p1)] [(.int (1 : Int32))])) (fun t k => XS.goto X0.here hx rfl (pc0 := 69) (pc' := 73) rfl (hb hby d13_69) (by decide) (by decide) k) ?_
            refine own_leave X0 Bd.notSynchronized (v := some (.int (1 : Int32))) (fun h => by rw [Bd.returns] at h; cases h) (fun fs hr => retN X0 hx (t := .boolean) Bd.returns (by simp) (hb hby d13_73) hr) ?_ (by decide) (by decide)
            exact ⟨(by show some (Value.int _) = some (Value.int _); unfold own_f13; rw [if_neg h4, if_pos h21, if_pos hc31_76, if_pos h38, if_neg hc48_79]), N0, e0⟩
        · refine own_via (s₁.setTop (mkF m 51 #[.val (.ref p0), .val (.int p1)] [])) (fun t k => XS.icmpYes X0.here hx rfl (pc0 := 38) (pc' := 51) rfl (hb hby d13_38) rfl (flt h38).2.1 (by decide) (by decide) k) ?_
          refine own_via (s₁.setTop (mkF m 52 #[.val (.ref p0), .val (.int p1)] [(.int p1)])) (fun t k => XS.iloadN X0.here hx rfl (hb hby d13_51) rfl  k) ?_
          refine own_via (s₁.setTop (mkF m 53 #[.val (.ref p0), .val (.int p1)] [(.int (4 : Int32)), (.int p1)])) (fun t k => XS.iconst X0.here hx rfl (hb hby d13_52) k) ?_
          refine own_via (s₁.setTop (mkF m 54 #[.val (.ref p0), .val (.int p1)] [(.int (p1 + (4 : Int32)))])) (fun t k => XS.iadd X0.here hx rfl (hb hby d13_53) rfl k) ?_
          refine own_via (s₁.setTop (mkF m 55 #[.val (.ref p0), .val (.int p1)] [(.int (5 : Int32)), (.int (p1 + (4 : Int32)))])) (fun t k => XS.iconst X0.here hx rfl (hb hby d13_54) k) ?_
          by_cases h55 : (p1 + (4 : Int32)) < (5 : Int32)
          · refine own_via (s₁.setTop (mkF m 58 #[.val (.ref p0), .val (.int p1)] [])) (fun t k => XS.icmpNo X0.here hx rfl (hb hby d13_55) rfl (tlt h55).2.1 k) ?_
            refine own_via (s₁.setTop (mkF m 59 #[.val (.ref p0), .val (.int p1)] [(.ref p0)])) (fun t k => XS.aloadN X0.here hx rfl (hb hby d13_58) rfl rfl k) ?_
            refine own_via (s₁.setTop (mkF m 60 #[.val (.ref p0), .val (.int p1)] [(.int p1), (.ref p0)])) (fun t k => XS.iloadN X0.here hx rfl (hb hby d13_59) rfl  k) ?_
            refine own_via (s₁.setTop (mkF m 61 #[.val (.ref p0), .val (.int p1)] [(.int (4 : Int32)), (.int p1), (.ref p0)])) (fun t k => XS.iconst X0.here hx rfl (hb hby d13_60) k) ?_
            refine own_via (s₁.setTop (mkF m 62 #[.val (.ref p0), .val (.int p1)] [(.int (p1 + (4 : Int32))), (.ref p0)])) (fun t k => XS.iadd X0.here hx rfl (hb hby d13_61) rfl k) ?_
            obtain ⟨cl84, Ar84, S84, H84⟩ := id P0
            refine own_via (s₁.setTop (mkF m 63 #[.val (.ref p0), .val (.int p1)] [(.int (f (p1 + (4 : Int32)).toInt.toNat))])) (fun t k => X0.caload hx (j := (p1 + (4 : Int32))) (v := (.int (f (p1 + (4 : Int32)).toInt.toNat))) (by rw [e0]; exact Ar84.1) (State.isArrayOf_alike hZ.alike Ar84.2.1) Ar84.2.2 (own_in S84 (own_ix hp (by decide) h55)) (own_at H84 (own_ix hp (by decide) h55)) (g := (mkF m 62 #[.val (.ref p0), .val (.int p1)] [(.int (p1 + (4 : Int32))), (.ref p0)])) rfl rfl (hb hby d13_62) _ k) ?_
            refine own_via (s₁.setTop (mkF m 65 #[.val (.ref p0), .val (.int p1)] [(.int (32 : Int32)), (.int (f (p1 + (4 : Int32)).toInt.toNat))])) (fun t k => XS.bipush X0.here hx rfl (hb hby d13_63) k) ?_
            by_cases hc65_85 : (f (p1 + (4 : Int32)).toInt.toNat) = (32 : Int32)
            · refine own_via (s₁.setTop (mkF m 72 #[.val (.ref p0), .val (.int p1)] [])) (fun t k => XS.icmpYes X0.here hx rfl (pc0 := 65) (pc' := 72) rfl (hb hby d13_65) rfl (teq hc65_85).1 (by decide) (by decide) k) ?_
              refine own_via (s₁.setTop (mkF m 73 #[.val (.ref p0), .val (.int p1)] [(.int (0 : Int32))])) (fun t k => XS.iconst X0.here hx rfl (hb hby d13_72) k) ?_
              refine own_leave X0 Bd.notSynchronized (v := some (.int (0 : Int32))) (fun h => by rw [Bd.returns] at h; cases h) (fun fs hr => retN X0 hx (t := .boolean) Bd.returns (by simp) (hb hby d13_73) hr) ?_ (by decide) (by decide)
              exact ⟨(by show some (Value.int _) = some (Value.int _); unfold own_f13; rw [if_neg h4, if_pos h21, if_pos hc31_76, if_neg h38, if_pos h55, if_pos hc65_85]), N0, e0⟩
            · refine own_via (s₁.setTop (mkF m 68 #[.val (.ref p0), .val (.int p1)] [])) (fun t k => XS.icmpNo X0.here hx rfl (hb hby d13_65) rfl (feq hc65_85).1 k) ?_
              refine own_via (s₁.setTop (mkF m 69 #[.val (.ref p0), .val (.int p1)] [(.int (1 : Int32))])) (fun t k => XS.iconst X0.here hx rfl (hb hby d13_68) k) ?_
              refine own_via (s₁.setTop (mkF m 73 #[.val (.ref p0), .val (.int p1)] [(.int (1 : Int32))])) (fun t k => XS.goto X0.here hx rfl (pc0 := 69) (pc' := 73) rfl (hb hby d13_69) (by decide) (by decide) k) ?_
              refine own_leave X0 Bd.notSynchronized (v := some (.int (1 : Int32))) (fun h => by rw [Bd.returns] at h; cases h) (fun fs hr => retN X0 hx (t := .boolean) Bd.returns (by simp) (hb hby d13_73) hr) ?_ (by decide) (by decide)
              exact ⟨(by show some (Value.int _) = some (Value.int _); unfold own_f13; rw [if_neg h4, if_pos h21, if_pos hc31_76, if_neg h38, if_pos h55, if_neg hc65_85]), N0, e0⟩
          · refine own_via (s₁.setTop (mkF m 72 #[.val (.ref p0), .val (.int p1)] [])) (fun t k => XS.icmpYes X0.here hx rfl (pc0 := 55) (pc' := 72) rfl (hb hby d13_55) rfl (flt h55).2.1 (by decide) (by decide) k) ?_
            refine own_via (s₁.setTop (mkF m 73 #[.val (.ref p0), .val (.int p1)] [(.int (0 : Int32))])) (fun t k => XS.iconst X0.here hx rfl (hb hby d13_72) k) ?_
            refine own_leave X0 Bd.notSynchronized (v := some (.int (0 : Int32))) (fun h => by rw [Bd.returns] at h; cases h) (fun fs hr => retN X0 hx (t := .boolean) Bd.returns (by simp) (hb hby d13_73) hr) ?_ (by decide) (by decide)
            exact ⟨(by show some (Value.int _) = some (Value.int _); unfold own_f13; rw [if_neg h4, if_pos h21, if_pos hc31_76, if_neg h38, if_neg h55]), N0, e0⟩
      · refine own_via (s₁.setTop (mkF m 68 #[.val (.ref p0), .val (.int p1)] [])) (fun t k => XS.icmpYes X0.here hx rfl (pc0 := 31) (pc' := 68) rfl (hb hby d13_31) rfl (feq hc31_76).2 (by decide) (by decide) k) ?_
        refine own_via (s₁.setTop (mkF m 69 #[.val (.ref p0), .val (.int p1)] [(.int (1 : Int32))])) (fun t k => XS.iconst X0.here hx rfl (hb hby d13_68) k) ?_
        refine own_via (s₁.setTop (mkF m 73 #[.val (.ref p0), .val (.int p1)] [(.int (1 : Int32))])) (fun t k => XS.goto X0.here hx rfl (pc0 := 69) (pc' := 73) rfl (hb hby d13_69) (by decide) (by decide) k) ?_
        refine own_leave X0 Bd.notSynchronized (v := some (.int (1 : Int32))) (fun h => by rw [Bd.returns] at h; cases h) (fun fs hr => retN X0 hx (t := .boolean) Bd.returns (by simp) (hb hby d13_73) hr) ?_ (by decide) (by decide)
        exact ⟨(by show some (Value.int _) = some (Value.int _); unfold own_f13; rw [if_neg h4, if_pos h21, if_neg hc31_76]), N0, e0⟩
    · refine own_via (s₁.setTop (mkF m 34 #[.val (.ref p0), .val (.int p1)] [])) (fun t k => XS.icmpYes X0.here hx rfl (pc0 := 21) (pc' := 34) rfl (hb hby d13_21) rfl (flt h21).2.1 (by decide) (by decide) k) ?_
      refine own_via (s₁.setTop (mkF m 35 #[.val (.ref p0), .val (.int p1)] [(.int p1)])) (fun t k => XS.iloadN X0.here hx rfl (hb hby d13_34) rfl  k) ?_
      refine own_via (s₁.setTop (mkF m 36 #[.val (.ref p0), .val (.int p1)] [(.int (3 : Int32)), (.int p1)])) (fun t k => XS.iconst X0.here hx rfl (hb hby d13_35) k) ?_
      refine own_via (s₁.setTop (mkF m 37 #[.val (.ref p0), .val (.int p1)] [(.int (p1 + (3 : Int32)))])) (fun t k => XS.iadd X0.here hx rfl (hb hby d13_36) rfl k) ?_
      refine own_via (s₁.setTop (mkF m 38 #[.val (.ref p0), .val (.int p1)] [(.int (5 : Int32)), (.int (p1 + (3 : Int32)))])) (fun t k => XS.iconst X0.here hx rfl (hb hby d13_37) k) ?_
      by_cases h38 : (p1 + (3 : Int32)) < (5 : Int32)
      · refine own_via (s₁.setTop (mkF m 41 #[.val (.ref p0), .val (.int p1)] [])) (fun t k => XS.icmpNo X0.here hx rfl (hb hby d13_38) rfl (tlt h38).2.1 k) ?_
        refine own_via (s₁.setTop (mkF m 42 #[.val (.ref p0), .val (.int p1)] [(.ref p0)])) (fun t k => XS.aloadN X0.here hx rfl (hb hby d13_41) rfl rfl k) ?_
        refine own_via (s₁.setTop (mkF m 43 #[.val (.ref p0), .val (.int p1)] [(.int p1), (.ref p0)])) (fun t k => XS.iloadN X0.here hx rfl (hb hby d13_42) rfl  k) ?_
        refine own_via (s₁.setTop (mkF m 44 #[.val (.ref p0), .val (.int p1)] [(.int (3 : Int32)), (.int p1), (.ref p0)])) (fun t k => XS.iconst X0.here hx rfl (hb hby d13_43) k) ?_
        refine own_via (s₁.setTop (mkF m 45 #[.val (.ref p0), .val (.int p1)] [(.int (p1 + (3 : Int32))), (.ref p0)])) (fun t k => XS.iadd X0.here hx rfl (hb hby d13_44) rfl k) ?_
        obtain ⟨cl87, Ar87, S87, H87⟩ := id P0
        refine own_via (s₁.setTop (mkF m 46 #[.val (.ref p0), .val (.int p1)] [(.int (f (p1 + (3 : Int32)).toInt.toNat))])) (fun t k => X0.caload hx (j := (p1 + (3 : Int32))) (v := (.int (f (p1 + (3 : Int32)).toInt.toNat))) (by rw [e0]; exact Ar87.1) (State.isArrayOf_alike hZ.alike Ar87.2.1) Ar87.2.2 (own_in S87 (own_ix hp (by decide) h38)) (own_at H87 (own_ix hp (by decide) h38)) (g := (mkF m 45 #[.val (.ref p0), .val (.int p1)] [(.int (p1 + (3 : Int32))), (.ref p0)])) rfl rfl (hb hby d13_45) _ k) ?_
        refine own_via (s₁.setTop (mkF m 48 #[.val (.ref p0), .val (.int p1)] [(.int (32 : Int32)), (.int (f (p1 + (3 : Int32)).toInt.toNat))])) (fun t k => XS.bipush X0.here hx rfl (hb hby d13_46) k) ?_
        by_cases hc48_88 : (f (p1 + (3 : Int32)).toInt.toNat) = (32 : Int32)
        · refine own_via (s₁.setTop (mkF m 51 #[.val (.ref p0), .val (.int p1)] [])) (fun t k => XS.icmpNo X0.here hx rfl (hb hby d13_48) rfl (teq hc48_88).2 k) ?_
          refine own_via (s₁.setTop (mkF m 52 #[.val (.ref p0), .val (.int p1)] [(.int p1)])) (fun t k => XS.iloadN X0.here hx rfl (hb hby d13_51) rfl  k) ?_
          refine own_via (s₁.setTop (mkF m 53 #[.val (.ref p0), .val (.int p1)] [(.int (4 : Int32)), (.int p1)])) (fun t k => XS.iconst X0.here hx rfl (hb hby d13_52) k) ?_
          refine own_via (s₁.setTop (mkF m 54 #[.val (.ref p0), .val (.int p1)] [(.int (p1 + (4 : Int32)))])) (fun t k => XS.iadd X0.here hx rfl (hb hby d13_53) rfl k) ?_
          refine own_via (s₁.setTop (mkF m 55 #[.val (.ref p0), .val (.int p1)] [(.int (5 : Int32)), (.int (p1 + (4 : Int32)))])) (fun t k => XS.iconst X0.here hx rfl (hb hby d13_54) k) ?_
          by_cases h55 : (p1 + (4 : Int32)) < (5 : Int32)
          · refine own_via (s₁.setTop (mkF m 58 #[.val (.ref p0), .val (.int p1)] [])) (fun t k => XS.icmpNo X0.here hx rfl (hb hby d13_55) rfl (tlt h55).2.1 k) ?_
            refine own_via (s₁.setTop (mkF m 59 #[.val (.ref p0), .val (.int p1)] [(.ref p0)])) (fun t k => XS.aloadN X0.here hx rfl (hb hby d13_58) rfl rfl k) ?_
            refine own_via (s₁.setTop (mkF m 60 #[.val (.ref p0), .val (.int p1)] [(.int p1), (.ref p0)])) (fun t k => XS.iloadN X0.here hx rfl (hb hby d13_59) rfl  k) ?_
            refine own_via (s₁.setTop (mkF m 61 #[.val (.ref p0), .val (.int p1)] [(.int (4 : Int32)), (.int p1), (.ref p0)])) (fun t k => XS.iconst X0.here hx rfl (hb hby d13_60) k) ?_
            refine own_via (s₁.setTop (mkF m 62 #[.val (.ref p0), .val (.int p1)] [(.int (p1 + (4 : Int32))), (.ref p0)])) (fun t k => XS.iadd X0.here hx rfl (hb hby d13_61) rfl k) ?_
            obtain ⟨cl90, Ar90, S90, H90⟩ := id P0
            refine own_via (s₁.setTop (mkF m 63 #[.val (.ref p0), .val (.int p1)] [(.int (f (p1 + (4 : Int32)).toInt.toNat))])) (fun t k => X0.caload hx (j := (p1 + (4 : Int32))) (v := (.int (f (p1 + (4 : Int32)).toInt.toNat))) (by rw [e0]; exact Ar90.1) (State.isArrayOf_alike hZ.alike Ar90.2.1) Ar90.2.2 (own_in S90 (own_ix hp (by decide) h55)) (own_at H90 (own_ix hp (by decide) h55)) (g := (mkF m 62 #[.val (.ref p0), .val (.int p1)] [(.int (p1 + (4 : Int32))), (.ref p0)])) rfl rfl (hb hby d13_62) _ k) ?_
            refine own_via (s₁.setTop (mkF m 65 #[.val (.ref p0), .val (.int p1)] [(.int (32 : Int32)), (.int (f (p1 + (4 : Int32)).toInt.toNat))])) (fun t k => XS.bipush X0.here hx rfl (hb hby d13_63) k) ?_
            by_cases hc65_91 : (f (p1 + (4 : Int32)).toInt.toNat) = (32 : Int32)
            · refine own_via (s₁.setTop (mkF m 72 #[.val (.ref p0), .val (.int p1)] [])) (fun t k => XS.icmpYes X0.here hx rfl (pc0 := 65) (pc' := 72) rfl (hb hby d13_65) rfl (teq hc65_91).1 (by decide) (by decide) k) ?_
              refine own_via (s₁.setTop (mkF m 73 #[.val (.ref p0), .val (.int p1)] [(.int (0 : Int32))])) (fun t k => XS.iconst X0.here hx rfl (hb hby d13_72) k) ?_
              refine own_leave X0 Bd.notSynchronized (v := some (.int (0 : Int32))) (fun h => by rw [Bd.returns] at h; cases h) (fun fs hr => retN X0 hx (t := .boolean) Bd.returns (by simp) (hb hby d13_73) hr) ?_ (by decide) (by decide)
              exact ⟨(by show some (Value.int _) = some (Value.int _); unfold own_f13; rw [if_neg h4, if_neg h21, if_pos h38, if_pos hc48_88, if_pos h55, if_pos hc65_91]), N0, e0⟩
            · refine own_via (s₁.setTop (mkF m 68 #[.val (.ref p0), .val (.int p1)] [])) (fun t k => XS.icmpNo X0.here hx rfl (hb hby d13_65) rfl (feq hc65_91).1 k) ?_
              refine own_via (s₁.setTop (mkF m 69 #[.val (.ref p0), .val (.int p1)] [(.int (1 : Int32))])) (fun t k => XS.iconst X0.here hx rfl (hb hby d13_68) k) ?_
              refine own_via (s₁.setTop (mkF m 73 #[.val (.ref p0), .val (.int p1)] [(.int (1 : Int32))])) (fun t k => XS.goto X0.here hx rfl (pc0 := 69) (pc' := 73) rfl (hb hby d13_69) (by decide) (by decide) k) ?_
              refine own_leave X0 Bd.notSynchronized (v := some (.int (1 : Int32))) (fun h => by rw [Bd.returns] at h; cases h) (fun fs hr => retN X0 hx (t := .boolean) Bd.returns (by simp) (hb hby d13_73) hr) ?_ (by decide) (by decide)
              exact ⟨(by show some (Value.int _) = some (Value.int _); unfold own_f13; rw [if_neg h4, if_neg h21, if_pos h38, if_pos hc48_88, if_pos h55, if_neg hc65_91]), N0, e0⟩
          · refine own_via (s₁.setTop (mkF m 72 #[.val (.ref p0), .val (.int p1)] [])) (fun t k => XS.icmpYes X0.here hx rfl (pc0 := 55) (pc' := 72) rfl (hb hby d13_55) rfl (flt h55).2.1 (by decide) (by decide) k) ?_
            refine own_via (s₁.setTop (mkF m 73 #[.val (.ref p0), .val (.int p1)] [(.int (0 : Int32))])) (fun t k => XS.iconst X0.here hx rfl (hb hby d13_72) k) ?_
            refine own_leave X0 Bd.notSynchronized (v := some (.int (0 : Int32))) (fun h => by rw [Bd.returns] at h; cases h) (fun fs hr => retN X0 hx (t := .boolean) Bd.returns (by simp) (hb hby d13_73) hr) ?_ (by decide) (by decide)
            exact ⟨(by show some (Value.int _) = some (Value.int _); unfold own_f13; rw [if_neg h4, if_neg h21, if_pos h38, if_pos hc48_88, if_neg h55]), N0, e0⟩
        · refine own_via (s₁.setTop (mkF m 68 #[.val (.ref p0), .val (.int p1)] [])) (fun t k => XS.icmpYes X0.here hx rfl (pc0 := 48) (pc' := 68) rfl (hb hby d13_48) rfl (feq hc48_88).2 (by decide) (by decide) k) ?_
          refine own_via (s₁.setTop (mkF m 69 #[.val (.ref p0), .val (.int p1)] [(.int (1 : Int32))])) (fun t k => XS.iconst X0.here hx rfl (hb hby d13_68) k) ?_
          refine own_via (s₁.setTop (mkF m 73 #[.val (.ref p0), .val (.int p1)] [(.int (1 : Int32))])) (fun t k => XS.goto X0.here hx rfl (pc0 := 69) (pc' := 73) rfl (hb hby d13_69) (by decide) (by decide) k) ?_
          refine own_leave X0 Bd.notSynchronized (v := some (.int (1 : Int32))) (fun h => by rw [Bd.returns] at h; cases h) (fun fs hr => retN X0 hx (t := .boolean) Bd.returns (by simp) (hb hby d13_73) hr) ?_ (by decide) (by decide)
          exact ⟨(by show some (Value.int _) = some (Value.int _); unfold own_f13; rw [if_neg h4, if_neg h21, if_pos h38, if_neg hc48_88]), N0, e0⟩
      · refine own_via (s₁.setTop (mkF m 51 #[.val (.ref p0), .val (.int p1)] [])) (fun t k => XS.icmpYes X0.here hx rfl (pc0 := 38) (pc' := 51) rfl (hb hby d13_38) rfl (flt h38).2.1 (by decide) (by decide) k) ?_
        refine own_via (s₁.setTop (mkF m 52 #[.val (.ref p0), .val (.int p1)] [(.int p1)])) (fun t k => XS.iloadN X0.here hx rfl (hb hby d13_51) rfl  k) ?_
        refine own_via (s₁.setTop (mkF m 53 #[.val (.ref p0), .val (.int p1)] [(.int (4 : Int32)), (.int p1)])) (fun t k => XS.iconst X0.here hx rfl (hb hby d13_52) k) ?_
        refine own_via (s₁.setTop (mkF m 54 #[.val (.ref p0), .val (.int p1)] [(.int (p1 + (4 : Int32)))])) (fun t k => XS.iadd X0.here hx rfl (hb hby d13_53) rfl k) ?_
        refine own_via (s₁.setTop (mkF m 55 #[.val (.ref p0), .val (.int p1)] [(.int (5 : Int32)), (.int (p1 + (4 : Int32)))])) (fun t k => XS.iconst X0.here hx rfl (hb hby d13_54) k) ?_
        by_cases h55 : (p1 + (4 : Int32)) < (5 : Int32)
        · refine own_via (s₁.setTop (mkF m 58 #[.val (.ref p0), .val (.int p1)] [])) (fun t k => XS.icmpNo X0.here hx rfl (hb hby d13_55) rfl (tlt h55).2.1 k) ?_
          refine own_via (s₁.setTop (mkF m 59 #[.val (.ref p0), .val (.int p1)] [(.ref p0)])) (fun t k => XS.aloadN X0.here hx rfl (hb hby d13_58) rfl rfl k) ?_
          refine own_via (s₁.setTop (mkF m 60 #[.val (.ref p0), .val (.int p1)] [(.int p1), (.ref p0)])) (fun t k => XS.iloadN X0.here hx rfl (hb hby d13_59) rfl  k) ?_
          refine own_via (s₁.setTop (mkF m 61 #[.val (.ref p0), .val (.int p1)] [(.int (4 : Int32)), (.int p1), (.ref p0)])) (fun t k => XS.iconst X0.here hx rfl (hb hby d13_60) k) ?_
          refine own_via (s₁.setTop (mkF m 62 #[.val (.ref p0), .val (.int p1)] [(.int (p1 + (4 : Int32))), (.ref p0)])) (fun t k => XS.iadd X0.here hx rfl (hb hby d13_61) rfl k) ?_
          obtain ⟨cl93, Ar93, S93, H93⟩ := id P0
          refine own_via (s₁.setTop (mkF m 63 #[.val (.ref p0), .val (.int p1)] [(.int (f (p1 + (4 : Int32)).toInt.toNat))])) (fun t k => X0.caload hx (j := (p1 + (4 : Int32))) (v := (.int (f (p1 + (4 : Int32)).toInt.toNat))) (by rw [e0]; exact Ar93.1) (State.isArrayOf_alike hZ.alike Ar93.2.1) Ar93.2.2 (own_in S93 (own_ix hp (by decide) h55)) (own_at H93 (own_ix hp (by decide) h55)) (g := (mkF m 62 #[.val (.ref p0), .val (.int p1)] [(.int (p1 + (4 : Int32))), (.ref p0)])) rfl rfl (hb hby d13_62) _ k) ?_
          refine own_via (s₁.setTop (mkF m 65 #[.val (.ref p0), .val (.int p1)] [(.int (32 : Int32)), (.int (f (p1 + (4 : Int32)).toInt.toNat))])) (fun t k => XS.bipush X0.here hx rfl (hb hby d13_63) k) ?_
          by_cases hc65_94 : (f (p1 + (4 : Int32)).toInt.toNat) = (32 : Int32)
          · refine own_via (s₁.setTop (mkF m 72 #[.val (.ref p0), .val (.int p1)] [])) (fun t k => XS.icmpYes X0.here hx rfl (pc0 := 65) (pc' := 72) rfl (hb hby d13_65) rfl (teq hc65_94).1 (by decide) (by decide) k) ?_
            refine own_via (s₁.setTop (mkF m 73 #[.val (.ref p0), .val (.int p1)] [(.int (0 : Int32))])) (fun t k => XS.iconst X0.here hx rfl (hb hby d13_72) k) ?_
            refine own_leave X0 Bd.notSynchronized (v := some (.int (0 : Int32))) (fun h => by rw [Bd.returns] at h; cases h) (fun fs hr => retN X0 hx (t := .boolean) Bd.returns (by simp) (hb hby d13_73) hr) ?_ (by decide) (by decide)
            exact ⟨(by show some (Value.int _) = some (Value.int _); unfold own_f13; rw [if_neg h4, if_neg h21, if_neg h38, if_pos h55, if_pos hc65_94]), N0, e0⟩
          · refine own_via (s₁.setTop (mkF m 68 #[.val (.ref p0), .val (.int p1)] [])) (fun t k => XS.icmpNo X0.here hx rfl (hb hby d13_65) rfl (feq hc65_94).1 k) ?_
            refine own_via (s₁.setTop (mkF m 69 #[.val (.ref p0), .val (.int p1)] [(.int (1 : Int32))])) (fun t k => XS.iconst X0.here hx rfl (hb hby d13_68) k) ?_
            refine own_via (s₁.setTop (mkF m 73 #[.val (.ref p0), .val (.int p1)] [(.int (1 : Int32))])) (fun t k => XS.goto X0.here hx rfl (pc0 := 69) (pc' := 73) rfl (hb hby d13_69) (by decide) (by decide) k) ?_
            refine own_leave X0 Bd.notSynchronized (v := some (.int (1 : Int32))) (fun h => by rw [Bd.returns] at h; cases h) (fun fs hr => retN X0 hx (t := .boolean) Bd.returns (by simp) (hb hby d13_73) hr) ?_ (by decide) (by decide)
            exact ⟨(by show some (Value.int _) = some (Value.int _); unfold own_f13; rw [if_neg h4, if_neg h21, if_neg h38, if_pos h55, if_neg hc65_94]), N0, e0⟩
        · refine own_via (s₁.setTop (mkF m 72 #[.val (.ref p0), .val (.int p1)] [])) (fun t k => XS.icmpYes X0.here hx rfl (pc0 := 55) (pc' := 72) rfl (hb hby d13_55) rfl (flt h55).2.1 (by decide) (by decide) k) ?_
          refine own_via (s₁.setTop (mkF m 73 #[.val (.ref p0), .val (.int p1)] [(.int (0 : Int32))])) (fun t k => XS.iconst X0.here hx rfl (hb hby d13_72) k) ?_
          refine own_leave X0 Bd.notSynchronized (v := some (.int (0 : Int32))) (fun h => by rw [Bd.returns] at h; cases h) (fun fs hr => retN X0 hx (t := .boolean) Bd.returns (by simp) (hb hby d13_73) hr) ?_ (by decide) (by decide)
          exact ⟨(by show some (Value.int _) = some (Value.int _); unfold own_f13; rw [if_neg h4, if_neg h21, if_neg h38, if_neg h55]), N0, e0⟩
def own_f3 (p1 : Int32) (p2 : Int32) (f : Nat → Int32) : Int32 := (if (f p2.toInt.toNat) = (32 : Int32) then (if (p2 - (1 : Int32)) < p1 then (0 : Int32) else (if (f (p2 - (1 : Int32)).toInt.toNat) = (32 : Int32) then (0 : Int32) else (nar .boolean (own_f13 p2 f)))) else (1 : Int32))
def own_Q3 (Z : State) (p0 : Addr) (p1 : Int32) (p2 : Int32) (f : Nat → Int32) (h0 : Heap) (n0 : Nat) (v : Option Value) (h : Heap) (L : List Loc) : Prop := v = some (.int (own_f3 p1 p2 f)) ∧ Fr n0 L ∧ h = h0
theorem d3_0 : decode method_4_code 0 = .ok (.aload_n 0, 1) := by decide +kernel
theorem d3_1 : decode method_4_code 1 = .ok (.iload_n 2, 1) := by decide +kernel
theorem d3_2 : decode method_4_code 2 = .ok (.caload, 1) := by decide +kernel
theorem d3_3 : decode method_4_code 3 = .ok (.bipush 32, 2) := by decide +kernel
theorem d3_5 : decode method_4_code 5 = .ok (.if_icmp .eq 5, 3) := by decide +kernel
theorem d3_8 : decode method_4_code 8 = .ok (.iconst 1, 1) := by decide +kernel
theorem d3_9 : decode method_4_code 9 = .ok (.ireturn, 1) := by decide +kernel
theorem d3_10 : decode method_4_code 10 = .ok (.iload_n 2, 1) := by decide +kernel
theorem d3_11 : decode method_4_code 11 = .ok (.iconst 1, 1) := by decide +kernel
theorem d3_12 : decode method_4_code 12 = .ok (.isub, 1) := by decide +kernel
theorem d3_13 : decode method_4_code 13 = .ok (.iload_n 1, 1) := by decide +kernel
theorem d3_14 : decode method_4_code 14 = .ok (.if_icmp .ge 5, 3) := by decide +kernel
theorem d3_17 : decode method_4_code 17 = .ok (.iconst 0, 1) := by decide +kernel
theorem d3_18 : decode method_4_code 18 = .ok (.ireturn, 1) := by decide +kernel
theorem d3_19 : decode method_4_code 19 = .ok (.aload_n 0, 1) := by decide +kernel
theorem d3_20 : decode method_4_code 20 = .ok (.iload_n 2, 1) := by decide +kernel
theorem d3_21 : decode method_4_code 21 = .ok (.iconst 1, 1) := by decide +kernel
theorem d3_22 : decode method_4_code 22 = .ok (.isub, 1) := by decide +kernel
theorem d3_23 : decode method_4_code 23 = .ok (.caload, 1) := by decide +kernel
theorem d3_24 : decode method_4_code 24 = .ok (.bipush 32, 2) := by decide +kernel
theorem d3_26 : decode method_4_code 26 = .ok (.if_icmp .ne 5, 3) := by decide +kernel
theorem d3_29 : decode method_4_code 29 = .ok (.iconst 0, 1) := by decide +kernel
theorem d3_30 : decode method_4_code 30 = .ok (.ireturn, 1) := by decide +kernel
theorem d3_31 : decode method_4_code 31 = .ok (.aload_n 0, 1) := by decide +kernel
theorem d3_32 : decode method_4_code 32 = .ok (.iload_n 2, 1) := by decide +kernel
theorem d3_33 : decode method_4_code 33 = .ok (.invokestatic 7, 3) := by decide +kernel
theorem d3_36 : decode method_4_code 36 = .ok (.ireturn, 1) := by decide +kernel
theorem pd_0 : parseMethodDescriptor "([CI)Z" = some ⟨[(.array .char), .int], some .boolean⟩ := by decide +kernel
theorem ef_3 (m : MethodId) (p0 : Addr) (p1 : Int32) (p2 : Int32) : entryFrame m #[(.ref p0), (.int p1), (.int p2)] 3 = mkF m 0 #[.val (.ref p0), .val (.int p1), .val (.int p2)] [] := by first | (simp [entryFrame, mkF, argsToLocals, Value.category]; done) | rfl
set_option maxRecDepth 65536 in
set_option maxHeartbeats 40000000 in
theorem rm3 (l : Launch) (Z : State) (a0 : Array Value) (hw : ∀ d ∈ tables_1, d.before a0 Z = true) (ws : List Jvm.Cond) (p0 : Addr) (p1 : Int32) (p2 : Int32) (h0 : Heap) (n0 : Nat) (Z0 : n0 ≤ h0.size) (f : Nat → Int32) (P0 : own_A Z h0 p0 .char 5 f) (hp : 0 ≤ p2.toInt ∧ p2.toInt < 5) (hs : 0 ≤ p1.toInt) :
    MetFree l (⟨"com/example/honeyguide/honeyguide/CharsCollapseSpacesPinLaw", "kept", "([CII)Z"⟩ : MethodName) (head1 (Jvm.Cond.code (⟨"com/example/honeyguide/honeyguide/CharsCollapseSpacesPinLaw", "kept", "([CII)Z"⟩ : MethodName) method_4_code 3 (some .boolean) :: ws) ({ frames := 1, cells := 0, slots := 0, locals := 13 } : Room)) (fun a U => a = #[(.ref p0), (.int p1), (.int p2)] ∧ Z.Warmed39 U.vm ∧ U.heap = h0) (fun _ _ _ _ _ => True) (fun _ U o U' => ∃ v L, o = .returned v ∧ (own_Q3 Z p0 p1 p2 f h0 n0) v U'.heap L ∧ FrameEnd U o U' L ({ frames := 1, cells := 0, slots := 0, locals := 13 } : Room).cells ({ frames := 1, cells := 0, slots := 0, locals := 13 } : Room).slots) := by
  refine MetFree.of_bodySF (plainFor_of_name pn_com_example_honeyguide_honeyguide_CharsCollapseSpacesPinLaw) hisR ?_
  intro p e s m args below meth c s₁ Bd hml0 hP hK
  obtain ⟨rfl, hZ, hh⟩ := hP
  have hx := Bd.exec
  have hby := Bd.bytes
  have hml : c.maxLocals = 3 := hml0
  have hown : s.vm.findClass "com/example/honeyguide/honeyguide/CharsCollapseSpacesPinLaw" = some m.cls := findClass_of_methodNamed Bd.named
  have hnm := (name_of_methodNamed Bd.named Bd.method).1
  have X0 : Stand p l e ({ frames := 1, cells := 0, slots := 0, locals := 13 } : Room) s m #[(.ref p0), (.int p1), (.int p2)] below meth c s₁ [] 0 0 := Stand.of_body Bd
  have e0 : s₁.heap = h0 := by rw [← hh, Bd.state]; rfl
  have N0 := Fr.nil n0
  refine own_body (QQ := (own_Q3 Z p0 p1 p2 f h0 n0)) (ef_3 m p0 p1 p2) ?_
  refine own_via (s₁.setTop (mkF m 1 #[.val (.ref p0), .val (.int p1), .val (.int p2)] [(.ref p0)])) (fun t k => XS.aloadN X0.here hx rfl (hb hby d3_0) rfl rfl k) ?_
  refine own_via (s₁.setTop (mkF m 2 #[.val (.ref p0), .val (.int p1), .val (.int p2)] [(.int p2), (.ref p0)])) (fun t k => XS.iloadN X0.here hx rfl (hb hby d3_1) rfl  k) ?_
  obtain ⟨cl103, Ar103, S103, H103⟩ := id P0
  refine own_via (s₁.setTop (mkF m 3 #[.val (.ref p0), .val (.int p1), .val (.int p2)] [(.int (f p2.toInt.toNat))])) (fun t k => X0.caload hx (j := p2) (v := (.int (f p2.toInt.toNat))) (by rw [e0]; exact Ar103.1) (State.isArrayOf_alike hZ.alike Ar103.2.1) Ar103.2.2 (own_in S103 hp) (own_at H103 hp) (g := (mkF m 2 #[.val (.ref p0), .val (.int p1), .val (.int p2)] [(.int p2), (.ref p0)])) rfl rfl (hb hby d3_2) _ k) ?_
  refine own_via (s₁.setTop (mkF m 5 #[.val (.ref p0), .val (.int p1), .val (.int p2)] [(.int (32 : Int32)), (.int (f p2.toInt.toNat))])) (fun t k => XS.bipush X0.here hx rfl (hb hby d3_3) k) ?_
  by_cases hc5_104 : (f p2.toInt.toNat) = (32 : Int32)
  · refine own_via (s₁.setTop (mkF m 10 #[.val (.ref p0), .val (.int p1), .val (.int p2)] [])) (fun t k => XS.icmpYes X0.here hx rfl (pc0 := 5) (pc' := 10) rfl (hb hby d3_5) rfl (teq hc5_104).1 (by decide) (by decide) k) ?_
    refine own_via (s₁.setTop (mkF m 11 #[.val (.ref p0), .val (.int p1), .val (.int p2)] [(.int p2)])) (fun t k => XS.iloadN X0.here hx rfl (hb hby d3_10) rfl  k) ?_
    refine own_via (s₁.setTop (mkF m 12 #[.val (.ref p0), .val (.int p1), .val (.int p2)] [(.int (1 : Int32)), (.int p2)])) (fun t k => XS.iconst X0.here hx rfl (hb hby d3_11) k) ?_
    refine own_via (s₁.setTop (mkF m 13 #[.val (.ref p0), .val (.int p1), .val (.int p2)] [(.int (p2 - (1 : Int32)))])) (fun t k => XS.isub X0.here hx rfl (hb hby d3_12) rfl k) ?_
    refine own_via (s₁.setTop (mkF m 14 #[.val (.ref p0), .val (.int p1), .val (.int p2)] [(.int p1), (.int (p2 - (1 : Int32)))])) (fun t k => XS.iloadN X0.here hx rfl (hb hby d3_13) rfl  k) ?_
    by_cases h14 : (p2 - (1 : Int32)) < p1
    · refine own_via (s₁.setTop (mkF m 17 #[.val (.ref p0), .val (.int p1), .val (.int p2)] [])) (fun t k => XS.icmpNo X0.here hx rfl (hb hby d3_14) rfl (tlt h14).2.1 k) ?_
      refine own_via (s₁.setTop (mkF m 18 #[.val (.ref p0), .val (.int p1), .val (.int p2)] [(.int (0 : Int32))])) (fun t k => XS.iconst X0.here hx rfl (hb hby d3_17) k) ?_
      refine own_leave X0 Bd.notSynchronized (v := some (.int (0 : Int32))) (fun h => by rw [Bd.returns] at h; cases h) (fun fs hr => retN X0 hx (t := .boolean) Bd.returns (by simp) (hb hby d3_18) hr) ?_ (by decide) (by decide)
      exact ⟨(by show some (Value.int _) = some (Value.int _); unfold own_f3; rw [if_pos hc5_104, if_pos h14]), N0, e0⟩
    · refine own_via (s₁.setTop (mkF m 19 #[.val (.ref p0), .val (.int p1), .val (.int p2)] [])) (fun t k => XS.icmpYes X0.here hx rfl (pc0 := 14) (pc' := 19) rfl (hb hby d3_14) rfl (flt h14).2.1 (by decide) (by decide) k) ?_
      refine own_via (s₁.setTop (mkF m 20 #[.val (.ref p0), .val (.int p1), .val (.int p2)] [(.ref p0)])) (fun t k => XS.aloadN X0.here hx rfl (hb hby d3_19) rfl rfl k) ?_
      refine own_via (s₁.setTop (mkF m 21 #[.val (.ref p0), .val (.int p1), .val (.int p2)] [(.int p2), (.ref p0)])) (fun t k => XS.iloadN X0.here hx rfl (hb hby d3_20) rfl  k) ?_
      refine own_via (s₁.setTop (mkF m 22 #[.val (.ref p0), .val (.int p1), .val (.int p2)] [(.int (1 : Int32)), (.int p2), (.ref p0)])) (fun t k => XS.iconst X0.here hx rfl (hb hby d3_21) k) ?_
      refine own_via (s₁.setTop (mkF m 23 #[.val (.ref p0), .val (.int p1), .val (.int p2)] [(.int (p2 - (1 : Int32))), (.ref p0)])) (fun t k => XS.isub X0.here hx rfl (hb hby d3_22) rfl k) ?_
      obtain ⟨cl106, Ar106, S106, H106⟩ := id P0
      refine own_via (s₁.setTop (mkF m 24 #[.val (.ref p0), .val (.int p1), .val (.int p2)] [(.int (f (p2 - (1 : Int32)).toInt.toNat))])) (fun t k => X0.caload hx (j := (p2 - (1 : Int32))) (v := (.int (f (p2 - (1 : Int32)).toInt.toNat))) (by rw [e0]; exact Ar106.1) (State.isArrayOf_alike hZ.alike Ar106.2.1) Ar106.2.2 (own_in S106 (own_iy hp hs h14)) (own_at H106 (own_iy hp hs h14)) (g := (mkF m 23 #[.val (.ref p0), .val (.int p1), .val (.int p2)] [(.int (p2 - (1 : Int32))), (.ref p0)])) rfl rfl (hb hby d3_23) _ k) ?_
      refine own_via (s₁.setTop (mkF m 26 #[.val (.ref p0), .val (.int p1), .val (.int p2)] [(.int (32 : Int32)), (.int (f (p2 - (1 : Int32)).toInt.toNat))])) (fun t k => XS.bipush X0.here hx rfl (hb hby d3_24) k) ?_
      by_cases hc26_107 : (f (p2 - (1 : Int32)).toInt.toNat) = (32 : Int32)
      · refine own_via (s₁.setTop (mkF m 29 #[.val (.ref p0), .val (.int p1), .val (.int p2)] [])) (fun t k => XS.icmpNo X0.here hx rfl (hb hby d3_26) rfl (teq hc26_107).2 k) ?_
        refine own_via (s₁.setTop (mkF m 30 #[.val (.ref p0), .val (.int p1), .val (.int p2)] [(.int (0 : Int32))])) (fun t k => XS.iconst X0.here hx rfl (hb hby d3_29) k) ?_
        refine own_leave X0 Bd.notSynchronized (v := some (.int (0 : Int32))) (fun h => by rw [Bd.returns] at h; cases h) (fun fs hr => retN X0 hx (t := .boolean) Bd.returns (by simp) (hb hby d3_30) hr) ?_ (by decide) (by decide)
        exact ⟨(by show some (Value.int _) = some (Value.int _); unfold own_f3; rw [if_pos hc5_104, if_neg h14, if_pos hc26_107]), N0, e0⟩
      · refine own_via (s₁.setTop (mkF m 31 #[.val (.ref p0), .val (.int p1), .val (.int p2)] [])) (fun t k => XS.icmpYes X0.here hx rfl (pc0 := 26) (pc' := 31) rfl (hb hby d3_26) rfl (feq hc26_107).2 (by decide) (by decide) k) ?_
        refine own_via (s₁.setTop (mkF m 32 #[.val (.ref p0), .val (.int p1), .val (.int p2)] [(.ref p0)])) (fun t k => XS.aloadN X0.here hx rfl (hb hby d3_31) rfl rfl k) ?_
        refine own_via (s₁.setTop (mkF m 33 #[.val (.ref p0), .val (.int p1), .val (.int p2)] [(.int p2), (.ref p0)])) (fun t k => XS.iloadN X0.here hx rfl (hb hby d3_32) rfl  k) ?_
        obtain ⟨_, _, ⟨T108, L108, k108, n108⟩, -, X108, ⟨Lc108, hQ108, l108, y108, z108⟩, st108⟩ := Jvm.LawKit.callS X0 hx (y := (⟨"com/example/honeyguide/honeyguide/CharsCollapseSpacesPinLaw", "laterWord", "([CI)Z"⟩ : MethodName)) hown (mvT hZ (hw _ (List.mem_of_getElem? (i := 56) rfl))) (mvT hZ (hw _ (List.mem_of_getElem? (i := 57) rfl))) (mvT hZ (hw _ (List.mem_of_getElem? (i := 3) rfl))) (mvT hZ (hw _ (List.mem_of_getElem? (i := 58) rfl))) (by decide) (backOf (W := 0) (rm13 l Z a0 hw [] p0 p2 h0 n0 (Nat.le_trans Z0 (Keep.refl h0 []).1) f P0 hp) hZ (hw _ (List.mem_of_getElem? (i := 58) rfl)) (hw _ (List.mem_of_getElem? (i := 3) rfl)) (by decide) (by decide)) (g := (mkF m 33 #[.val (.ref p0), .val (.int p1), .val (.int p2)] [(.int p2), (.ref p0)])) rfl (by rw [hml]; rfl) (argsL := [(.ref p0), (.int p2)]) (rest := []) (lenOf pd_0 rfl) rfl (by show 2 * 0 + _ ≤ _; exact Nat.le_of_eq rfl) (hb hby d3_33) (fun _ _ => ⟨rfl, e0, (by decide : 0 + 0 ≤ _), (by decide : 0 + 0 ≤ _)⟩)
        dsimp only [Pt.U, Pt.locs, Pt.cells, Pt.slots] at X108 l108 y108 z108 st108 hQ108
        rw [y108, z108] at X108
        have X108 : Stand _ _ _ _ _ _ _ _ _ _ T108 L108 0 0 := X108
        obtain ⟨rfl, N108q, e108⟩ := hQ108
        have N108 : Fr n0 L108 := by rw [l108]; exact Fr.app N0 N108q
        refine own_via (T108.setTop (mkF m 36 #[.val (.ref p0), .val (.int p1), .val (.int p2)] [(.int (own_f13 p2 f))])) (fun t k => st108 t k) ?_
        refine own_leave X108 Bd.notSynchronized (v := some (.int (nar .boolean (own_f13 p2 f)))) (fun h => by rw [Bd.returns] at h; cases h) (fun fs hr => retN X108 hx (t := .boolean) Bd.returns (by simp) (hb hby d3_36) hr) ?_ (by decide) (by decide)
        exact ⟨(by show some (Value.int _) = some (Value.int _); unfold own_f3; rw [if_pos hc5_104, if_neg h14, if_neg hc26_107]), N108, e108⟩
  · refine own_via (s₁.setTop (mkF m 8 #[.val (.ref p0), .val (.int p1), .val (.int p2)] [])) (fun t k => XS.icmpNo X0.here hx rfl (hb hby d3_5) rfl (feq hc5_104).1 k) ?_
    refine own_via (s₁.setTop (mkF m 9 #[.val (.ref p0), .val (.int p1), .val (.int p2)] [(.int (1 : Int32))])) (fun t k => XS.iconst X0.here hx rfl (hb hby d3_8) k) ?_
    refine own_leave X0 Bd.notSynchronized (v := some (.int (1 : Int32))) (fun h => by rw [Bd.returns] at h; cases h) (fun fs hr => retN X0 hx (t := .boolean) Bd.returns (by simp) (hb hby d3_9) hr) ?_ (by decide) (by decide)
    exact ⟨(by show some (Value.int _) = some (Value.int _); unfold own_f3; rw [if_neg hc5_104]), N0, e0⟩
def own_pk (f : Nat → Int32) (s i : Int32) : Int32 := if i < s then 1 else own_f3 s i f
def own_pn (f : Nat → Int32) (n s i : Int32) : Int32 := if own_pk f s i = 0 then n else n + (1 : Int32)
def own_pe (e f : Nat → Int32) (n s i : Int32) : Nat → Int32 := if own_pk f s i = 0 then e else own_up e n.toInt.toNat (nar .char (f i.toInt.toNat))
theorem own_pnb {f : Nat → Int32} {n s i : Int32} {K : Int} (h : 0 ≤ n.toInt ∧ n.toInt ≤ K) (hK : K ≤ 100) : 0 ≤ (own_pn f n s i).toInt ∧ (own_pn f n s i).toInt ≤ K + 1 := by
  unfold own_pn
  have e : (1 : Int32).toInt = 1 := rfl
  have := c_iadd n (1 : Int32); have := rng32 (n + (1 : Int32))
  split <;> omega
theorem own_ln {x : Int32} (h : 0 ≤ x.toInt ∧ x.toInt ≤ 31) : ¬ (own_f6 x (16 : Int32)) < 0 ∧ (own_f6 x (16 : Int32)).toNatClampNeg ≤ 32 := by
  have e0 : (0 : Int32).toInt = 0 := rfl
  have e : (16 : Int32).toInt = 16 := rfl
  have ek : ∀ j : Int32, j.toNatClampNeg = j.toInt.toNat := fun _ => rfl
  rw [Int32.lt_iff_toInt_lt, ek]
  unfold own_f6
  split <;> omega
theorem own_Nb {x : Int32} (h : 0 ≤ x.toInt ∧ x.toInt ≤ 31) : 16 ≤ (own_f6 x (16 : Int32)).toNatClampNeg ∧ (own_f6 x (16 : Int32)).toNatClampNeg ≤ 31 := by
  have e : (16 : Int32).toInt = 16 := rfl
  have ek : ∀ j : Int32, j.toNatClampNeg = j.toInt.toNat := fun _ => rfl
  rw [ek]
  unfold own_f6
  split
  · rename_i q; rw [Int32.lt_iff_toInt_lt] at q; omega
  · rename_i q; rw [Int32.lt_iff_toInt_lt] at q; omega
theorem own_t32 {N : Nat} (h : N ≤ 31) : (Nat.toInt32 N).toInt = N := by
  have : ∀ k : Fin 32, (Nat.toInt32 k.val).toInt = k.val := by decide +kernel
  exact this ⟨N, by omega⟩
theorem own_room {N : Nat} {len : Int32} (hN : 16 ≤ N ∧ N ≤ 31) (hl : 0 ≤ len.toInt ∧ len.toInt < 5) : ¬ ((Nat.toInt32 N) - len) < (1 : Int32) := by
  have e : (1 : Int32).toInt = 1 := rfl
  have := own_t32 hN.2
  have := c_isub (Nat.toInt32 N) len; have := rng32 ((Nat.toInt32 N) - len)
  rw [Int32.lt_iff_toInt_lt]; omega
theorem own_app {N : Nat} {len : Int32} (hN : 16 ≤ N ∧ N ≤ 31) (hl : 0 ≤ len.toInt ∧ len.toInt < 5) : 0 ≤ len.toInt ∧ len.toInt < N := by omega
/-- the loop of collapseSpaces: k places left; the array, the place to write, whether a space stood last -/
def own_col : Nat → (Nat → Int32) → Int32 → Int32 → Int32 → (Nat → Int32) × Int32 × Int32
  | 0, g, q, lst, _ => (g, q, lst)
  | k + 1, g, q, lst, i => if g i.toInt.toNat = (32 : Int32) then (if lst = (0 : Int32) then own_col k (own_up g q.toInt.toNat (nar .char (g i.toInt.toNat))) (q + (1 : Int32)) (1 : Int32) (i + (1 : Int32)) else own_col k g q (1 : Int32) (i + (1 : Int32))) else own_col k (own_up g q.toInt.toNat (nar .char (g i.toInt.toNat))) (q + (1 : Int32)) (0 : Int32) (i + (1 : Int32))
theorem own_colA {k : Nat} {g : Nat → Int32} {q lst i : Int32} (h1 : g i.toInt.toNat = (32 : Int32)) (h2 : lst = (0 : Int32)) : own_col (k + 1) g q lst i = own_col k (own_up g q.toInt.toNat (nar .char (g i.toInt.toNat))) (q + (1 : Int32)) (1 : Int32) (i + (1 : Int32)) := by rw [own_col, if_pos h1, if_pos h2]
theorem own_colB {k : Nat} {g : Nat → Int32} {q lst i : Int32} (h1 : g i.toInt.toNat = (32 : Int32)) (h2 : ¬ lst = (0 : Int32)) : own_col (k + 1) g q lst i = own_col k g q (1 : Int32) (i + (1 : Int32)) := by rw [own_col, if_pos h1, if_neg h2]
theorem own_colC {k : Nat} {g : Nat → Int32} {q lst i : Int32} (h1 : ¬ g i.toInt.toNat = (32 : Int32)) : own_col (k + 1) g q lst i = own_col k (own_up g q.toInt.toNat (nar .char (g i.toInt.toNat))) (q + (1 : Int32)) (0 : Int32) (i + (1 : Int32)) := by rw [own_col, if_neg h1]
def own_colx (p1 : Int32) (f : Nat → Int32) : (Nat → Int32) × Int32 × Int32 := own_col (5 - p1.toInt).toNat f p1 (1 : Int32) p1
def own_cl (p1 : Int32) (t : (Nat → Int32) × Int32 × Int32) : Int32 := if p1 < t.2.1 then (if t.2.2 = (0 : Int32) then t.2.1 else (t.2.1 + (-1 : Int32))) else t.2.1
theorem own_colx0 {p1 : Int32} {f : Nat → Int32} {k : Nat} (h : p1.toInt + k = 5) : own_col k f p1 (1 : Int32) p1 = own_colx p1 f := by
  unfold own_colx; rw [show (5 - p1.toInt).toNat = k by omega]
theorem own_c0 {len i : Int32} (hl : len.toInt = 5) (h : i.toInt + (0 : Nat) = 5) : ¬ i < len := by rw [Int32.lt_iff_toInt_lt]; omega
theorem own_c1 {len i : Int32} {k : Nat} (hl : len.toInt = 5) (h : i.toInt + (k + 1 : Nat) = 5) : i < len := by rw [Int32.lt_iff_toInt_lt]; omega
theorem own_inc {i : Int32} (h : 0 ≤ i.toInt ∧ i.toInt ≤ 100) : (i + (1 : Int32)).toInt = i.toInt + 1 := by
  have e : (1 : Int32).toInt = 1 := rfl
  have := c_iadd i (1 : Int32); have := rng32 (i + (1 : Int32)); omega
theorem own_jN {N : Nat} {j : Int32} (hp : 0 ≤ j.toInt ∧ j.toInt < 5) (hN : 16 ≤ N ∧ N ≤ 31) : 0 ≤ j.toInt ∧ j.toInt < N := by omega
def own_Q2 (Z : State) (p0 : Addr) (p1 : Int32) (p2 : Addr) (p3 : Int32) (p4 : Int32) (e_ : Nat → Int32) (f : Nat → Int32) (h0 : Heap) (n0 : Nat) (v : Option Value) (h : Heap) (L : List Loc) : Prop := v = some (.int (own_pn f p1 p3 p4)) ∧ Fr n0 L ∧ Keep h0 h [p0] ∧ own_A Z h p0 .char 5 (own_pe e_ f p1 p3 p4)
theorem d2_0 : decode method_5_code 0 = .ok (.iload 4, 2) := by decide +kernel
theorem d2_2 : decode method_5_code 2 = .ok (.iload_n 3, 1) := by decide +kernel
theorem d2_3 : decode method_5_code 3 = .ok (.if_icmp .lt 13, 3) := by decide +kernel
theorem d2_6 : decode method_5_code 6 = .ok (.aload_n 2, 1) := by decide +kernel
theorem d2_7 : decode method_5_code 7 = .ok (.iload_n 3, 1) := by decide +kernel
theorem d2_8 : decode method_5_code 8 = .ok (.iload 4, 2) := by decide +kernel
theorem d2_10 : decode method_5_code 10 = .ok (.invokestatic 13, 3) := by decide +kernel
theorem d2_13 : decode method_5_code 13 = .ok (.ifCond .eq 14, 3) := by decide +kernel
theorem d2_16 : decode method_5_code 16 = .ok (.aload_n 0, 1) := by decide +kernel
theorem d2_17 : decode method_5_code 17 = .ok (.iload_n 1, 1) := by decide +kernel
theorem d2_18 : decode method_5_code 18 = .ok (.aload_n 2, 1) := by decide +kernel
theorem d2_19 : decode method_5_code 19 = .ok (.iload 4, 2) := by decide +kernel
theorem d2_21 : decode method_5_code 21 = .ok (.caload, 1) := by decide +kernel
theorem d2_22 : decode method_5_code 22 = .ok (.castore, 1) := by decide +kernel
theorem d2_23 : decode method_5_code 23 = .ok (.iload_n 1, 1) := by decide +kernel
theorem d2_24 : decode method_5_code 24 = .ok (.iconst 1, 1) := by decide +kernel
theorem d2_25 : decode method_5_code 25 = .ok (.iadd, 1) := by decide +kernel
theorem d2_26 : decode method_5_code 26 = .ok (.ireturn, 1) := by decide +kernel
theorem d2_27 : decode method_5_code 27 = .ok (.iload_n 1, 1) := by decide +kernel
theorem d2_28 : decode method_5_code 28 = .ok (.ireturn, 1) := by decide +kernel
theorem pd_1 : parseMethodDescriptor "([CII)Z" = some ⟨[(.array .char), .int, .int], some .boolean⟩ := by decide +kernel
theorem ef_2 (m : MethodId) (p0 : Addr) (p1 : Int32) (p2 : Addr) (p3 : Int32) (p4 : Int32) : entryFrame m #[(.ref p0), (.int p1), (.ref p2), (.int p3), (.int p4)] 5 = mkF m 0 #[.val (.ref p0), .val (.int p1), .val (.ref p2), .val (.int p3), .val (.int p4)] [] := by first | (simp [entryFrame, mkF, argsToLocals, Value.category]; done) | rfl
set_option maxRecDepth 65536 in
set_option maxHeartbeats 40000000 in
theorem rm2 (l : Launch) (Z : State) (a0 : Array Value) (hw : ∀ d ∈ tables_1, d.before a0 Z = true) (ws : List Jvm.Cond) (p0 : Addr) (p1 : Int32) (p2 : Addr) (p3 : Int32) (p4 : Int32) (h0 : Heap) (n0 : Nat) (Z0 : n0 ≤ h0.size) (e_ : Nat → Int32) (f : Nat → Int32) (P0 : own_A Z h0 p0 .char 5 e_) (P1 : own_A Z h0 p2 .char 5 f) (gg_p0 : n0 ≤ p0) (hp : 0 ≤ p4.toInt ∧ p4.toInt < 5) (hs : 0 ≤ p3.toInt) (hn : 0 ≤ p1.toInt ∧ p1.toInt < 5) (hne : p2 ≠ p0) :
    MetFree l (⟨"com/example/honeyguide/honeyguide/CharsCollapseSpacesPinLaw", "put", "([CI[CII)I"⟩ : MethodName) (head1 (Jvm.Cond.code (⟨"com/example/honeyguide/honeyguide/CharsCollapseSpacesPinLaw", "put", "([CI[CII)I"⟩ : MethodName) method_5_code 5 (some .int) :: ws) ({ frames := 2, cells := 0, slots := 0, locals := 27 } : Room)) (fun a U => a = #[(.ref p0), (.int p1), (.ref p2), (.int p3), (.int p4)] ∧ Z.Warmed39 U.vm ∧ U.heap = h0) (fun _ _ _ _ _ => True) (fun _ U o U' => ∃ v L, o = .returned v ∧ (own_Q2 Z p0 p1 p2 p3 p4 e_ f h0 n0) v U'.heap L ∧ FrameEnd U o U' L ({ frames := 2, cells := 0, slots := 0, locals := 27 } : Room).cells ({ frames := 2, cells := 0, slots := 0, locals := 27 } : Room).slots) := by
  refine MetFree.of_bodySF (plainFor_of_name pn_com_example_honeyguide_honeyguide_CharsCollapseSpacesPinLaw) hisR ?_
  intro p e s m args below meth c s₁ Bd hml0 hP hK
  obtain ⟨rfl, hZ, hh⟩ := hP
  have hx := Bd.exec
  have hby := Bd.bytes
  have hml : c.maxLocals = 5 := hml0
  have hown : s.vm.findClass "com/example/honeyguide/honeyguide/CharsCollapseSpacesPinLaw" = some m.cls := findClass_of_methodNamed Bd.named
  have hnm := (name_of_methodNamed Bd.named Bd.method).1
  have X0 : Stand p l e ({ frames := 2, cells := 0, slots := 0, locals := 27 } : Room) s m #[(.ref p0), (.int p1), (.ref p2), (.int p3), (.int p4)] below meth c s₁ [] 0 0 := Stand.of_body Bd
  have e0 : s₁.heap = h0 := by rw [← hh, Bd.state]; rfl
  have N0 := Fr.nil n0
  refine own_body (QQ := (own_Q2 Z p0 p1 p2 p3 p4 e_ f h0 n0)) (ef_2 m p0 p1 p2 p3 p4) ?_
  refine own_via (s₁.setTop (mkF m 2 #[.val (.ref p0), .val (.int p1), .val (.ref p2), .val (.int p3), .val (.int p4)] [(.int p4)])) (fun t k => XS.iload X0.here hx rfl (hb hby d2_0) rfl  k) ?_
  refine own_via (s₁.setTop (mkF m 3 #[.val (.ref p0), .val (.int p1), .val (.ref p2), .val (.int p3), .val (.int p4)] [(.int p3), (.int p4)])) (fun t k => XS.iloadN X0.here hx rfl (hb hby d2_2) rfl  k) ?_
  by_cases hc3_109 : p4 < p3
  · refine own_via (s₁.setTop (mkF m 16 #[.val (.ref p0), .val (.int p1), .val (.ref p2), .val (.int p3), .val (.int p4)] [])) (fun t k => XS.icmpYes X0.here hx rfl (pc0 := 3) (pc' := 16) rfl (hb hby d2_3) rfl (tlt hc3_109).1 (by decide) (by decide) k) ?_
    refine own_via (s₁.setTop (mkF m 17 #[.val (.ref p0), .val (.int p1), .val (.ref p2), .val (.int p3), .val (.int p4)] [(.ref p0)])) (fun t k => XS.aloadN X0.here hx rfl (hb hby d2_16) rfl rfl k) ?_
    refine own_via (s₁.setTop (mkF m 18 #[.val (.ref p0), .val (.int p1), .val (.ref p2), .val (.int p3), .val (.int p4)] [(.int p1), (.ref p0)])) (fun t k => XS.iloadN X0.here hx rfl (hb hby d2_17) rfl  k) ?_
    refine own_via (s₁.setTop (mkF m 19 #[.val (.ref p0), .val (.int p1), .val (.ref p2), .val (.int p3), .val (.int p4)] [(.ref p2), (.int p1), (.ref p0)])) (fun t k => XS.aloadN X0.here hx rfl (hb hby d2_18) rfl rfl k) ?_
    refine own_via (s₁.setTop (mkF m 21 #[.val (.ref p0), .val (.int p1), .val (.ref p2), .val (.int p3), .val (.int p4)] [(.int p4), (.ref p2), (.int p1), (.ref p0)])) (fun t k => XS.iload X0.here hx rfl (hb hby d2_19) rfl  k) ?_
    obtain ⟨cl111, Ar111, S111, H111⟩ := id P1
    refine own_via (s₁.setTop (mkF m 22 #[.val (.ref p0), .val (.int p1), .val (.ref p2), .val (.int p3), .val (.int p4)] [(.int (f p4.toInt.toNat)), (.int p1), (.ref p0)])) (fun t k => X0.caload hx (j := p4) (v := (.int (f p4.toInt.toNat))) (by rw [e0]; exact Ar111.1) (State.isArrayOf_alike hZ.alike Ar111.2.1) Ar111.2.2 (own_in S111 hp) (own_at H111 hp) (g := (mkF m 21 #[.val (.ref p0), .val (.int p1), .val (.ref p2), .val (.int p3), .val (.int p4)] [(.int p4), (.ref p2), (.int p1), (.ref p0)])) rfl rfl (hb hby d2_21) _ k) ?_
    obtain ⟨cl113, Ar113, S113, H113⟩ := id P0
    obtain ⟨T112, h112, X112, e112, W112, st112⟩ := stC X0 hx hZ e0 Ar113 (j := p1) (own_in S113 hn) (g := (mkF m 22 #[.val (.ref p0), .val (.int p1), .val (.ref p2), .val (.int p3), .val (.int p4)] [(.int (f p4.toInt.toNat)), (.int p1), (.ref p0)])) rfl rfl (hb hby d2_22)
    have V112 : own_A Z h112 p0 .char 5 (own_up e_ p1.toInt.toNat (nar .char (f p4.toInt.toNat))) := own_A.set P0 W112
    have N112 := Fr.snoc X112 N0 gg_p0
    have K114 : Keep h0 h112 [p0] := (Keep.refl h0 [p0]).wr W112 (Or.inl (List.mem_of_getElem? (i := 0) rfl))
    refine own_via (T112.setTop (mkF m 23 #[.val (.ref p0), .val (.int p1), .val (.ref p2), .val (.int p3), .val (.int p4)] [])) (fun t k => st112 t k) ?_
    refine own_via (T112.setTop (mkF m 24 #[.val (.ref p0), .val (.int p1), .val (.ref p2), .val (.int p3), .val (.int p4)] [(.int p1)])) (fun t k => XS.iloadN X112.here hx rfl (hb hby d2_23) rfl  k) ?_
    refine own_via (T112.setTop (mkF m 25 #[.val (.ref p0), .val (.int p1), .val (.ref p2), .val (.int p3), .val (.int p4)] [(.int (1 : Int32)), (.int p1)])) (fun t k => XS.iconst X112.here hx rfl (hb hby d2_24) k) ?_
    refine own_via (T112.setTop (mkF m 26 #[.val (.ref p0), .val (.int p1), .val (.ref p2), .val (.int p3), .val (.int p4)] [(.int (p1 + (1 : Int32)))])) (fun t k => XS.iadd X112.here hx rfl (hb hby d2_25) rfl k) ?_
    refine own_leave X112 Bd.notSynchronized (v := some (.int (p1 + (1 : Int32)))) (fun h => by rw [Bd.returns] at h; cases h) (fun fs hr => retI X112 hx Bd.returns (hb hby d2_26) hr) ?_ (by decide) (by decide)
    have hk : ¬ own_pk f p3 p4 = 0 := by unfold own_pk; rw [if_pos hc3_109]; decide
    show (own_Q2 Z p0 p1 p2 p3 p4 e_ f h0 n0) _ T112.heap _
    rw [e112]
    exact ⟨by unfold own_pn; rw [if_neg hk], N112, K114, by unfold own_pe; rw [if_neg hk]; exact V112⟩
  · refine own_via (s₁.setTop (mkF m 6 #[.val (.ref p0), .val (.int p1), .val (.ref p2), .val (.int p3), .val (.int p4)] [])) (fun t k => XS.icmpNo X0.here hx rfl (hb hby d2_3) rfl (flt hc3_109).1 k) ?_
    refine own_via (s₁.setTop (mkF m 7 #[.val (.ref p0), .val (.int p1), .val (.ref p2), .val (.int p3), .val (.int p4)] [(.ref p2)])) (fun t k => XS.aloadN X0.here hx rfl (hb hby d2_6) rfl rfl k) ?_
    refine own_via (s₁.setTop (mkF m 8 #[.val (.ref p0), .val (.int p1), .val (.ref p2), .val (.int p3), .val (.int p4)] [(.int p3), (.ref p2)])) (fun t k => XS.iloadN X0.here hx rfl (hb hby d2_7) rfl  k) ?_
    refine own_via (s₁.setTop (mkF m 10 #[.val (.ref p0), .val (.int p1), .val (.ref p2), .val (.int p3), .val (.int p4)] [(.int p4), (.int p3), (.ref p2)])) (fun t k => XS.iload X0.here hx rfl (hb hby d2_8) rfl  k) ?_
    obtain ⟨_, _, ⟨T115, L115, k115, n115⟩, -, X115, ⟨Lc115, hQ115, l115, y115, z115⟩, st115⟩ := Jvm.LawKit.callS X0 hx (y := (⟨"com/example/honeyguide/honeyguide/CharsCollapseSpacesPinLaw", "kept", "([CII)Z"⟩ : MethodName)) hown (mvT hZ (hw _ (List.mem_of_getElem? (i := 9) rfl))) (mvT hZ (hw _ (List.mem_of_getElem? (i := 10) rfl))) (mvT hZ (hw _ (List.mem_of_getElem? (i := 3) rfl))) (mvT hZ (hw _ (List.mem_of_getElem? (i := 11) rfl))) (by decide) (backOf (W := 0) (rm3 l Z a0 hw [] p2 p3 p4 h0 n0 (Nat.le_trans Z0 (Keep.refl h0 [p0]).1) f P1 hp hs) hZ (hw _ (List.mem_of_getElem? (i := 11) rfl)) (hw _ (List.mem_of_getElem? (i := 3) rfl)) (by decide) (by decide)) (g := (mkF m 10 #[.val (.ref p0), .val (.int p1), .val (.ref p2), .val (.int p3), .val (.int p4)] [(.int p4), (.int p3), (.ref p2)])) rfl (by rw [hml]; rfl) (argsL := [(.ref p2), (.int p3), (.int p4)]) (rest := []) (lenOf pd_1 rfl) rfl (by show 2 * 0 + _ ≤ _; exact Nat.le_of_eq rfl) (hb hby d2_10) (fun _ _ => ⟨rfl, e0, (by decide : 0 + 0 ≤ _), (by decide : 0 + 0 ≤ _)⟩)
    dsimp only [Pt.U, Pt.locs, Pt.cells, Pt.slots] at X115 l115 y115 z115 st115 hQ115
    rw [y115, z115] at X115
    have X115 : Stand _ _ _ _ _ _ _ _ _ _ T115 L115 0 0 := X115
    obtain ⟨rfl, N115q, e115⟩ := hQ115
    have N115 : Fr n0 L115 := by rw [l115]; exact Fr.app N0 N115q
    refine own_via (T115.setTop (mkF m 13 #[.val (.ref p0), .val (.int p1), .val (.ref p2), .val (.int p3), .val (.int p4)] [(.int (own_f3 p3 p4 f))])) (fun t k => st115 t k) ?_
    by_cases hc13_116 : (own_f3 p3 p4 f) = (0 : Int32)
    · refine own_via (T115.setTop (mkF m 27 #[.val (.ref p0), .val (.int p1), .val (.ref p2), .val (.int p3), .val (.int p4)] [])) (fun t k => XS.ifYes X115.here hx rfl (pc0 := 13) (pc' := 27) rfl (hb hby d2_13) rfl ((if0 _ _).trans (teq hc13_116).1) (by decide) (by decide) k) ?_
      refine own_via (T115.setTop (mkF m 28 #[.val (.ref p0), .val (.int p1), .val (.ref p2), .val (.int p3), .val (.int p4)] [(.int p1)])) (fun t k => XS.iloadN X115.here hx rfl (hb hby d2_27) rfl  k) ?_
      refine own_leave X115 Bd.notSynchronized (v := some (.int p1)) (fun h => by rw [Bd.returns] at h; cases h) (fun fs hr => retI X115 hx Bd.returns (hb hby d2_28) hr) ?_ (by decide) (by decide)
      have hk : own_pk f p3 p4 = 0 := by unfold own_pk; rw [if_neg hc3_109]; exact hc13_116
      show (own_Q2 Z p0 p1 p2 p3 p4 e_ f h0 n0) _ T115.heap _
      rw [e115]
      exact ⟨by unfold own_pn; rw [if_pos hk], N115, (Keep.refl h0 [p0]), by unfold own_pe; rw [if_pos hk]; exact P0⟩
    · refine own_via (T115.setTop (mkF m 16 #[.val (.ref p0), .val (.int p1), .val (.ref p2), .val (.int p3), .val (.int p4)] [])) (fun t k => XS.ifNo X115.here hx rfl (hb hby d2_13) rfl ((if0 _ _).trans (feq hc13_116).1) k) ?_
      refine own_via (T115.setTop (mkF m 17 #[.val (.ref p0), .val (.int p1), .val (.ref p2), .val (.int p3), .val (.int p4)] [(.ref p0)])) (fun t k => XS.aloadN X115.here hx rfl (hb hby d2_16) rfl rfl k) ?_
      refine own_via (T115.setTop (mkF m 18 #[.val (.ref p0), .val (.int p1), .val (.ref p2), .val (.int p3), .val (.int p4)] [(.int p1), (.ref p0)])) (fun t k => XS.iloadN X115.here hx rfl (hb hby d2_17) rfl  k) ?_
      refine own_via (T115.setTop (mkF m 19 #[.val (.ref p0), .val (.int p1), .val (.ref p2), .val (.int p3), .val (.int p4)] [(.ref p2), (.int p1), (.ref p0)])) (fun t k => XS.aloadN X115.here hx rfl (hb hby d2_18) rfl rfl k) ?_
      refine own_via (T115.setTop (mkF m 21 #[.val (.ref p0), .val (.int p1), .val (.ref p2), .val (.int p3), .val (.int p4)] [(.int p4), (.ref p2), (.int p1), (.ref p0)])) (fun t k => XS.iload X115.here hx rfl (hb hby d2_19) rfl  k) ?_
      obtain ⟨cl118, Ar118, S118, H118⟩ := id P1
      refine own_via (T115.setTop (mkF m 22 #[.val (.ref p0), .val (.int p1), .val (.ref p2), .val (.int p3), .val (.int p4)] [(.int (f p4.toInt.toNat)), (.int p1), (.ref p0)])) (fun t k => X115.caload hx (j := p4) (v := (.int (f p4.toInt.toNat))) (by rw [e115]; exact Ar118.1) (State.isArrayOf_alike hZ.alike Ar118.2.1) Ar118.2.2 (own_in S118 hp) (own_at H118 hp) (g := (mkF m 21 #[.val (.ref p0), .val (.int p1), .val (.ref p2), .val (.int p3), .val (.int p4)] [(.int p4), (.ref p2), (.int p1), (.ref p0)])) rfl rfl (hb hby d2_21) _ k) ?_
      obtain ⟨cl120, Ar120, S120, H120⟩ := id P0
      obtain ⟨T119, h119, X119, e119, W119, st119⟩ := stC X115 hx hZ e115 Ar120 (j := p1) (own_in S120 hn) (g := (mkF m 22 #[.val (.ref p0), .val (.int p1), .val (.ref p2), .val (.int p3), .val (.int p4)] [(.int (f p4.toInt.toNat)), (.int p1), (.ref p0)])) rfl rfl (hb hby d2_22)
      have V119 : own_A Z h119 p0 .char 5 (own_up e_ p1.toInt.toNat (nar .char (f p4.toInt.toNat))) := own_A.set P0 W119
      have N119 := Fr.snoc X119 N115 gg_p0
      have K121 : Keep h0 h119 [p0] := (Keep.refl h0 [p0]).wr W119 (Or.inl (List.mem_of_getElem? (i := 0) rfl))
      refine own_via (T119.setTop (mkF m 23 #[.val (.ref p0), .val (.int p1), .val (.ref p2), .val (.int p3), .val (.int p4)] [])) (fun t k => st119 t k) ?_
      refine own_via (T119.setTop (mkF m 24 #[.val (.ref p0), .val (.int p1), .val (.ref p2), .val (.int p3), .val (.int p4)] [(.int p1)])) (fun t k => XS.iloadN X119.here hx rfl (hb hby d2_23) rfl  k) ?_
      refine own_via (T119.setTop (mkF m 25 #[.val (.ref p0), .val (.int p1), .val (.ref p2), .val (.int p3), .val (.int p4)] [(.int (1 : Int32)), (.int p1)])) (fun t k => XS.iconst X119.here hx rfl (hb hby d2_24) k) ?_
      refine own_via (T119.setTop (mkF m 26 #[.val (.ref p0), .val (.int p1), .val (.ref p2), .val (.int p3), .val (.int p4)] [(.int (p1 + (1 : Int32)))])) (fun t k => XS.iadd X119.here hx rfl (hb hby d2_25) rfl k) ?_
      refine own_leave X119 Bd.notSynchronized (v := some (.int (p1 + (1 : Int32)))) (fun h => by rw [Bd.returns] at h; cases h) (fun fs hr => retI X119 hx Bd.returns (hb hby d2_26) hr) ?_ (by decide) (by decide)
      have hk : ¬ own_pk f p3 p4 = 0 := by unfold own_pk; rw [if_neg hc3_109]; exact hc13_116
      show (own_Q2 Z p0 p1 p2 p3 p4 e_ f h0 n0) _ T119.heap _
      rw [e119]
      exact ⟨by unfold own_pn; rw [if_neg hk], N119, K121, by unfold own_pe; rw [if_neg hk]; exact V119⟩
def own_Q4 (Z : State) (p0 : Addr) (p1 : Int32)  (h0 : Heap) (n0 : Nat) (v : Option Value) (h : Heap) (L : List Loc) : Prop := ∃ (r : Addr), v = none ∧ Fr n0 L ∧ Keep h0 h [p0] ∧ n0 ≤ r ∧ h0.size ≤ r ∧ Exa Z h p0 "com/example/honeyguide/honeyguide/Chars" ∧ Fld Z h p0 "com/example/honeyguide/honeyguide/Chars" "length" "I" (.int (0 : Int32)) ∧ Fld Z h p0 "com/example/honeyguide/honeyguide/Chars" "chars" "[C" (.ref r) ∧ own_A Z h r .char (own_f6 p1 (16 : Int32)).toNatClampNeg (fun _ => (0 : Int32))
theorem d4_0 : decode prog_11_method_1_code 0 = .ok (.aload_n 0, 1) := by decide +kernel
theorem d4_1 : decode prog_11_method_1_code 1 = .ok (.invokespecial 1, 3) := by decide +kernel
theorem d4_4 : decode prog_11_method_1_code 4 = .ok (.aload_n 0, 1) := by decide +kernel
theorem d4_5 : decode prog_11_method_1_code 5 = .ok (.iload_n 1, 1) := by decide +kernel
theorem d4_6 : decode prog_11_method_1_code 6 = .ok (.bipush 16, 2) := by decide +kernel
theorem d4_8 : decode prog_11_method_1_code 8 = .ok (.invokestatic 9, 3) := by decide +kernel
theorem d4_11 : decode prog_11_method_1_code 11 = .ok (.newarray .char, 2) := by decide +kernel
theorem d4_13 : decode prog_11_method_1_code 13 = .ok (.putfield 15, 3) := by decide +kernel
theorem d4_16 : decode prog_11_method_1_code 16 = .ok (.return_, 1) := by decide +kernel
theorem pd_2 : parseMethodDescriptor "(II)I" = some ⟨[.int, .int], some .int⟩ := by decide +kernel
theorem pn_com_example_honeyguide_honeyguide_Chars : plainName "com/example/honeyguide/honeyguide/Chars" = true := by first | (simp [plainName, overriddenIn]; done) | decide +kernel
theorem ef_4 (m : MethodId) (p0 : Addr) (p1 : Int32) : entryFrame m #[(.ref p0), (.int p1)] 2 = mkF m 0 #[.val (.ref p0), .val (.int p1)] [] := by first | (simp [entryFrame, mkF, argsToLocals, Value.category]; done) | rfl
set_option maxRecDepth 65536 in
set_option maxHeartbeats 40000000 in
theorem rm4 (l : Launch) (Z : State) (a0 : Array Value) (hw : ∀ d ∈ tables_1, d.before a0 Z = true) (ws : List Jvm.Cond) (p0 : Addr) (p1 : Int32) (h0 : Heap) (n0 : Nat) (Z0 : n0 ≤ h0.size) (P0 : Fld Z h0 p0 "com/example/honeyguide/honeyguide/Chars" "chars" "[C" .null) (P1 : Fld Z h0 p0 "com/example/honeyguide/honeyguide/Chars" "length" "I" (.int (0 : Int32))) (P2 : Exa Z h0 p0 "com/example/honeyguide/honeyguide/Chars") (gg_p0 : n0 ≤ p0) (hr : 0 ≤ p1.toInt ∧ p1.toInt ≤ 31) :
    MetFree l (⟨"com/example/honeyguide/honeyguide/Chars", "<init>", "(I)V"⟩ : MethodName) (head1 (Jvm.Cond.code (⟨"com/example/honeyguide/honeyguide/Chars", "<init>", "(I)V"⟩ : MethodName) prog_11_method_1_code 2 none :: ws) ({ frames := 1, cells := 1, slots := 32, locals := 14 } : Room)) (fun a U => a = #[(.ref p0), (.int p1)] ∧ Z.Warmed39 U.vm ∧ U.heap = h0) (fun _ _ _ _ _ => True) (fun _ U o U' => ∃ v L, o = .returned v ∧ (own_Q4 Z p0 p1  h0 n0) v U'.heap L ∧ FrameEnd U o U' L ({ frames := 1, cells := 1, slots := 32, locals := 14 } : Room).cells ({ frames := 1, cells := 1, slots := 32, locals := 14 } : Room).slots) := by
  refine MetFree.of_bodySF (plainFor_of_name pn_com_example_honeyguide_honeyguide_Chars) hisR ?_
  intro p e s m args below meth c s₁ Bd hml0 hP hK
  obtain ⟨rfl, hZ, hh⟩ := hP
  have hx := Bd.exec
  have hby := Bd.bytes
  have hml : c.maxLocals = 2 := hml0
  have hown : s.vm.findClass "com/example/honeyguide/honeyguide/Chars" = some m.cls := findClass_of_methodNamed Bd.named
  have hnm := (name_of_methodNamed Bd.named Bd.method).1
  have X0 : Stand p l e ({ frames := 1, cells := 1, slots := 32, locals := 14 } : Room) s m #[(.ref p0), (.int p1)] below meth c s₁ [] 0 0 := Stand.of_body Bd
  have e0 : s₁.heap = h0 := by rw [← hh, Bd.state]; rfl
  have N0 := Fr.nil n0
  refine own_body (QQ := (own_Q4 Z p0 p1  h0 n0)) (ef_4 m p0 p1) ?_
  refine own_via (s₁.setTop (mkF m 1 #[.val (.ref p0), .val (.int p1)] [(.ref p0)])) (fun t k => XS.aloadN X0.here hx rfl (hb hby d4_0) rfl rfl k) ?_
  obtain ⟨T122, X122, e122, st122⟩ := initO X0 hx hZ hown (hw _ (List.mem_of_getElem? (i := 18) rfl)) (hw _ (List.mem_of_getElem? (i := 19) rfl)) (hw _ (List.mem_of_getElem? (i := 20) rfl)) e0 (g := (mkF m 1 #[.val (.ref p0), .val (.int p1)] [(.ref p0)])) rfl (by rw [hml]; rfl) rfl (hb hby d4_1) (by decide) (W := 0) (by show 2 * 0 + _ ≤ _; exact Nat.le_of_eq rfl) (by decide)
  refine own_via (T122.setTop (mkF m 4 #[.val (.ref p0), .val (.int p1)] [])) (fun t k => st122 t k) ?_
  refine own_via (T122.setTop (mkF m 5 #[.val (.ref p0), .val (.int p1)] [(.ref p0)])) (fun t k => XS.aloadN X122.here hx rfl (hb hby d4_4) rfl rfl k) ?_
  refine own_via (T122.setTop (mkF m 6 #[.val (.ref p0), .val (.int p1)] [(.int p1), (.ref p0)])) (fun t k => XS.iloadN X122.here hx rfl (hb hby d4_5) rfl  k) ?_
  refine own_via (T122.setTop (mkF m 8 #[.val (.ref p0), .val (.int p1)] [(.int (16 : Int32)), (.int p1), (.ref p0)])) (fun t k => XS.bipush X122.here hx rfl (hb hby d4_6) k) ?_
  obtain ⟨_, _, ⟨T123, L123, k123, n123⟩, -, X123, ⟨Lc123, hQ123, l123, y123, z123⟩, st123⟩ := Jvm.LawKit.callS X122 hx (y := (⟨"java/lang/Math", "max", "(II)I"⟩ : MethodName)) hown (mvT hZ (hw _ (List.mem_of_getElem? (i := 21) rfl))) (mvT hZ (hw _ (List.mem_of_getElem? (i := 22) rfl))) (mvT hZ (hw _ (List.mem_of_getElem? (i := 23) rfl))) (mvT hZ (hw _ (List.mem_of_getElem? (i := 24) rfl))) (by decide) (backOf (W := 1) (rm6 l Z a0 hw [] p1 (16 : Int32) h0 n0 (Nat.le_trans Z0 (Keep.refl h0 [p0]).1)) hZ (hw _ (List.mem_of_getElem? (i := 24) rfl)) (hw _ (List.mem_of_getElem? (i := 23) rfl)) (by decide) (by decide)) (g := (mkF m 8 #[.val (.ref p0), .val (.int p1)] [(.int (16 : Int32)), (.int p1), (.ref p0)])) rfl (by rw [hml]; rfl) (argsL := [(.int p1), (.int (16 : Int32))]) (rest := [(.ref p0)]) (lenOf pd_2 rfl) rfl (by show 2 * 0 + _ ≤ _; exact Nat.le_of_eq rfl) (hb hby d4_8) (fun _ _ => ⟨rfl, e122, (by decide : 0 + 0 ≤ _), (by decide : 0 + 0 ≤ _)⟩)
  dsimp only [Pt.U, Pt.locs, Pt.cells, Pt.slots] at X123 l123 y123 z123 st123 hQ123
  rw [y123, z123] at X123
  have X123 : Stand _ _ _ _ _ _ _ _ _ _ T123 L123 0 0 := X123
  obtain ⟨rfl, N123q, e123⟩ := hQ123
  have N123 : Fr n0 L123 := by rw [l123]; exact Fr.app N0 N123q
  refine own_via (T123.setTop (mkF m 11 #[.val (.ref p0), .val (.int p1)] [(.int (own_f6 p1 (16 : Int32))), (.ref p0)])) (fun t k => st123 t k) ?_
  obtain ⟨T124, h124, k124, X124, e124, E124, A124, st124⟩ := newP X123 hx hZ (hw _ (List.mem_of_getElem? (i := 0) rfl)) e123 (g := (mkF m 11 #[.val (.ref p0), .val (.int p1)] [(.int (own_f6 p1 (16 : Int32))), (.ref p0)])) rfl (hb hby d4_11) rfl (own_ln hr).1 (cap := 32) (own_ln hr).2 (by decide) (by decide) (by decide)
  obtain ⟨b124, g124⟩ : ∃ z, z = h0.size := ⟨_, rfl⟩
  rw [← g124] at A124 st124
  have gg_b124 : n0 ≤ b124 := Nat.le_trans (Nat.le_trans Z0 (Keep.refl h0 [p0]).1) (Nat.le_of_eq g124.symm)
  have sz_b124 : h0.size ≤ b124 := Nat.le_trans (Keep.refl h0 [p0]).1 (Nat.le_of_eq g124.symm)
  have ne_p0_b124 : p0 ≠ b124 := Nat.ne_of_lt (Nat.lt_of_lt_of_le P0.lt (Nat.le_of_eq g124.symm))
  have V124 : Arv Z h124 b124 k124 .char (own_f6 p1 (16 : Int32)) [] (.int (0 : Int32)) := (Arv.new A124 (own_ln hr).1)
  have K125 : Keep h0 h124 [p0] := (Keep.refl h0 [p0]).ext E124
  have U124 : own_A Z h124 b124 .char (own_f6 p1 (16 : Int32)).toNatClampNeg (fun _ => (0 : Int32)) := own_A.of (f := fun _ => (0 : Int32)) V124 (fun i hi => by simp)
  refine own_via (T124.setTop (mkF m 13 #[.val (.ref p0), .val (.int p1)] [(.ref b124), (.ref p0)])) (fun t k => st124 t k) ?_
  have F127 := (P0.ext E124)
  have F128 := (P2.ext E124)
  obtain ⟨T126, h126, X126, e126, W126, st126⟩ := putF X124 hx hZ hown (host := "") (Or.inl (hw _ (List.mem_of_getElem? (i := 25) rfl))) Via.refl e124 F127 F128 (Or.inl (hw _ (List.mem_of_getElem? (i := 26) rfl))) (hw _ (List.mem_of_getElem? (i := 13) rfl)) (ty := (.array .char)) (by decide) rfl rfl (g := (mkF m 13 #[.val (.ref p0), .val (.int p1)] [(.ref b124), (.ref p0)])) rfl rfl (hb hby d4_13)
  have Fw126 := F127.same W126
  have N126 := Fr.snoc X126 N123 gg_p0
  have K129 : Keep h0 h126 [p0] := K125.wr W126 (Or.inl (List.mem_of_getElem? (i := 0) rfl))
  refine own_via (T126.setTop (mkF m 16 #[.val (.ref p0), .val (.int p1)] [])) (fun t k => st126 t k) ?_
  refine own_leave X126 Bd.notSynchronized (v := none) (fun _ => rfl) (fun fs hr => X126.returnOut hx Bd.returns (hb hby d4_16) hr) ?_ (by decide) (by decide)
  have F130 := (F128.wr W126)
  have F131 := ((P1.ext E124).other W126 (Or.inr (slot_ne (Or.inl (hw _ (List.mem_of_getElem? (i := 37) rfl))) (Or.inl (hw _ (List.mem_of_getElem? (i := 26) rfl))) (by decide) (t := .int) (t' := (.array .char)) (by decide) (by decide))))
  have F132 := (U124.other W126 (Ne.symm ne_p0_b124))
  show (own_Q4 Z p0 p1  h0 n0) _ T126.heap _
  rw [e126]
  exact ⟨b124, rfl, N126, K129, gg_b124, sz_b124, F130, F131, Fw126, F132⟩
def own_Q8 (Z : State) (p0 : Addr) (p1 : Int32) (r : Addr) (len : Int32) (N : Nat) (f : Nat → Int32) (h0 : Heap) (n0 : Nat) (v : Option Value) (h : Heap) (L : List Loc) : Prop := v = none ∧ Fr n0 L ∧ h = h0
theorem d8_0 : decode prog_11_method_10_code 0 = .ok (.iload_n 1, 1) := by decide +kernel
theorem d8_1 : decode prog_11_method_10_code 1 = .ok (.aload_n 0, 1) := by decide +kernel
theorem d8_2 : decode prog_11_method_10_code 2 = .ok (.getfield 15, 3) := by decide +kernel
theorem d8_5 : decode prog_11_method_10_code 5 = .ok (.arraylength, 1) := by decide +kernel
theorem d8_6 : decode prog_11_method_10_code 6 = .ok (.aload_n 0, 1) := by decide +kernel
theorem d8_7 : decode prog_11_method_10_code 7 = .ok (.getfield 19, 3) := by decide +kernel
theorem d8_10 : decode prog_11_method_10_code 10 = .ok (.isub, 1) := by decide +kernel
theorem d8_11 : decode prog_11_method_10_code 11 = .ok (.if_icmp .le 44, 3) := by decide +kernel
theorem d8_55 : decode prog_11_method_10_code 55 = .ok (.return_, 1) := by decide +kernel
theorem ef_8 (m : MethodId) (p0 : Addr) (p1 : Int32) : entryFrame m #[(.ref p0), (.int p1)] 4 = mkF m 0 #[.val (.ref p0), .val (.int p1), .unset, .unset] [] := by first | (simp [entryFrame, mkF, argsToLocals, Value.category]; done) | rfl
set_option maxRecDepth 65536 in
set_option maxHeartbeats 40000000 in
theorem rm8 (l : Launch) (Z : State) (a0 : Array Value) (hw : ∀ d ∈ tables_1, d.before a0 Z = true) (ws : List Jvm.Cond) (p0 : Addr) (p1 : Int32) (h0 : Heap) (n0 : Nat) (Z0 : n0 ≤ h0.size) (r : Addr) (len : Int32) (N : Nat) (f : Nat → Int32) (P0 : Fld Z h0 p0 "com/example/honeyguide/honeyguide/Chars" "chars" "[C" (.ref r)) (P1 : Fld Z h0 p0 "com/example/honeyguide/honeyguide/Chars" "length" "I" (.int len)) (P2 : Exa Z h0 p0 "com/example/honeyguide/honeyguide/Chars") (P3 : own_A Z h0 r .char N f) (hr : ¬ ((Nat.toInt32 N) - len) < p1) :
    MetFree l (⟨"com/example/honeyguide/honeyguide/Chars", "room", "(I)V"⟩ : MethodName) (head1 (Jvm.Cond.code (⟨"com/example/honeyguide/honeyguide/Chars", "room", "(I)V"⟩ : MethodName) prog_11_method_10_code 4 none :: ws) ({ frames := 0, cells := 0, slots := 0, locals := 0 } : Room)) (fun a U => a = #[(.ref p0), (.int p1)] ∧ Z.Warmed39 U.vm ∧ U.heap = h0) (fun _ _ _ _ _ => True) (fun _ U o U' => ∃ v L, o = .returned v ∧ (own_Q8 Z p0 p1 r len N f h0 n0) v U'.heap L ∧ FrameEnd U o U' L ({ frames := 0, cells := 0, slots := 0, locals := 0 } : Room).cells ({ frames := 0, cells := 0, slots := 0, locals := 0 } : Room).slots) := by
  refine MetFree.of_bodySF (plainFor_of_name pn_com_example_honeyguide_honeyguide_Chars) hisR ?_
  intro p e s m args below meth c s₁ Bd hml0 hP hK
  obtain ⟨rfl, hZ, hh⟩ := hP
  have hx := Bd.exec
  have hby := Bd.bytes
  have hml : c.maxLocals = 4 := hml0
  have hown : s.vm.findClass "com/example/honeyguide/honeyguide/Chars" = some m.cls := findClass_of_methodNamed Bd.named
  have hnm := (name_of_methodNamed Bd.named Bd.method).1
  have X0 : Stand p l e ({ frames := 0, cells := 0, slots := 0, locals := 0 } : Room) s m #[(.ref p0), (.int p1)] below meth c s₁ [] 0 0 := Stand.of_body Bd
  have e0 : s₁.heap = h0 := by rw [← hh, Bd.state]; rfl
  have N0 := Fr.nil n0
  refine own_body (QQ := (own_Q8 Z p0 p1 r len N f h0 n0)) (ef_8 m p0 p1) ?_
  refine own_via (s₁.setTop (mkF m 1 #[.val (.ref p0), .val (.int p1), .unset, .unset] [(.int p1)])) (fun t k => XS.iloadN X0.here hx rfl (hb hby d8_0) rfl  k) ?_
  refine own_via (s₁.setTop (mkF m 2 #[.val (.ref p0), .val (.int p1), .unset, .unset] [(.ref p0), (.int p1)])) (fun t k => XS.aloadN X0.here hx rfl (hb hby d8_1) rfl rfl k) ?_
  obtain ⟨T133, X133, e133, st133⟩ := getF X0 hx hZ hown (host := "") (Or.inl (hw _ (List.mem_of_getElem? (i := 25) rfl))) Via.refl e0 P0 (g := (mkF m 2 #[.val (.ref p0), .val (.int p1), .unset, .unset] [(.ref p0), (.int p1)])) rfl rfl (hb hby d8_2)
  refine own_via (T133.setTop (mkF m 5 #[.val (.ref p0), .val (.int p1), .unset, .unset] [(.ref r), (.int p1)])) (fun t k => st133 t k) ?_
  obtain ⟨cl135, Ar135, S135, H135⟩ := id P3
  refine own_via (T133.setTop (mkF m 6 #[.val (.ref p0), .val (.int p1), .unset, .unset] [(.int (Nat.toInt32 N)), (.int p1)])) (fun t k => X133.arraylength hx (by rw [e133]; exact Ar135.1) (State.isArrayOf_alike hZ.alike Ar135.2.1) (g := (mkF m 5 #[.val (.ref p0), .val (.int p1), .unset, .unset] [(.ref r), (.int p1)])) rfl rfl (hb hby d8_5) _ (by rw [S135]; exact k)) ?_
  refine own_via (T133.setTop (mkF m 7 #[.val (.ref p0), .val (.int p1), .unset, .unset] [(.ref p0), (.int (Nat.toInt32 N)), (.int p1)])) (fun t k => XS.aloadN X133.here hx rfl (hb hby d8_6) rfl rfl k) ?_
  obtain ⟨T136, X136, e136, st136⟩ := getF X133 hx hZ hown (host := "") (Or.inl (hw _ (List.mem_of_getElem? (i := 36) rfl))) Via.refl e133 P1 (g := (mkF m 7 #[.val (.ref p0), .val (.int p1), .unset, .unset] [(.ref p0), (.int (Nat.toInt32 N)), (.int p1)])) rfl rfl (hb hby d8_7)
  refine own_via (T136.setTop (mkF m 10 #[.val (.ref p0), .val (.int p1), .unset, .unset] [(.int len), (.int (Nat.toInt32 N)), (.int p1)])) (fun t k => st136 t k) ?_
  refine own_via (T136.setTop (mkF m 11 #[.val (.ref p0), .val (.int p1), .unset, .unset] [(.int ((Nat.toInt32 N) - len)), (.int p1)])) (fun t k => XS.isub X136.here hx rfl (hb hby d8_10) rfl k) ?_
  refine own_via (T136.setTop (mkF m 55 #[.val (.ref p0), .val (.int p1), .unset, .unset] [])) (fun t k => XS.icmpYes X136.here hx rfl (pc0 := 11) (pc' := 55) rfl (hb hby d8_11) rfl (flt hr).2.2.2 (by decide) (by decide) k) ?_
  refine own_leave X136 Bd.notSynchronized (v := none) (fun _ => rfl) (fun fs hr => X136.returnOut hx Bd.returns (hb hby d8_55) hr) ?_ (by decide) (by decide)
  exact ⟨rfl, N0, e136⟩
def own_Q7 (Z : State) (p0 : Addr) (p1 : Int32) (r : Addr) (len : Int32) (N : Nat) (f : Nat → Int32) (h0 : Heap) (n0 : Nat) (v : Option Value) (h : Heap) (L : List Loc) : Prop := v = none ∧ Fr n0 L ∧ Keep h0 h [p0, r] ∧ Exa Z h p0 "com/example/honeyguide/honeyguide/Chars" ∧ Fld Z h p0 "com/example/honeyguide/honeyguide/Chars" "chars" "[C" (.ref r) ∧ Fld Z h p0 "com/example/honeyguide/honeyguide/Chars" "length" "I" (.int (len + (1 : Int32))) ∧ own_A Z h r .char N (own_up f len.toInt.toNat (nar .char p1))
theorem d7_0 : decode prog_11_method_5_code 0 = .ok (.aload_n 0, 1) := by decide +kernel
theorem d7_1 : decode prog_11_method_5_code 1 = .ok (.iconst 1, 1) := by decide +kernel
theorem d7_2 : decode prog_11_method_5_code 2 = .ok (.invokevirtual 23, 3) := by decide +kernel
theorem d7_5 : decode prog_11_method_5_code 5 = .ok (.aload_n 0, 1) := by decide +kernel
theorem d7_6 : decode prog_11_method_5_code 6 = .ok (.getfield 15, 3) := by decide +kernel
theorem d7_9 : decode prog_11_method_5_code 9 = .ok (.aload_n 0, 1) := by decide +kernel
theorem d7_10 : decode prog_11_method_5_code 10 = .ok (.dup, 1) := by decide +kernel
theorem d7_11 : decode prog_11_method_5_code 11 = .ok (.getfield 19, 3) := by decide +kernel
theorem d7_14 : decode prog_11_method_5_code 14 = .ok (.dup_x1, 1) := by decide +kernel
theorem d7_15 : decode prog_11_method_5_code 15 = .ok (.iconst 1, 1) := by decide +kernel
theorem d7_16 : decode prog_11_method_5_code 16 = .ok (.iadd, 1) := by decide +kernel
theorem d7_17 : decode prog_11_method_5_code 17 = .ok (.putfield 19, 3) := by decide +kernel
theorem d7_20 : decode prog_11_method_5_code 20 = .ok (.iload_n 1, 1) := by decide +kernel
theorem d7_21 : decode prog_11_method_5_code 21 = .ok (.castore, 1) := by decide +kernel
theorem d7_22 : decode prog_11_method_5_code 22 = .ok (.return_, 1) := by decide +kernel
theorem pd_3 : parseMethodDescriptor "(I)V" = some ⟨[.int], none⟩ := by decide +kernel
theorem ef_7 (m : MethodId) (p0 : Addr) (p1 : Int32) : entryFrame m #[(.ref p0), (.int p1)] 2 = mkF m 0 #[.val (.ref p0), .val (.int p1)] [] := by first | (simp [entryFrame, mkF, argsToLocals, Value.category]; done) | rfl
set_option maxRecDepth 65536 in
set_option maxHeartbeats 40000000 in
theorem rm7 (l : Launch) (Z : State) (a0 : Array Value) (hw : ∀ d ∈ tables_1, d.before a0 Z = true) (ws : List Jvm.Cond) (p0 : Addr) (p1 : Int32) (h0 : Heap) (n0 : Nat) (Z0 : n0 ≤ h0.size) (r : Addr) (len : Int32) (N : Nat) (f : Nat → Int32) (P0 : Fld Z h0 p0 "com/example/honeyguide/honeyguide/Chars" "chars" "[C" (.ref r)) (P1 : Fld Z h0 p0 "com/example/honeyguide/honeyguide/Chars" "length" "I" (.int len)) (P2 : Exa Z h0 p0 "com/example/honeyguide/honeyguide/Chars") (P3 : own_A Z h0 r .char N f) (gg_p0 : n0 ≤ p0) (gg_r : n0 ≤ r) (hN : 16 ≤ N ∧ N ≤ 31) (hl : 0 ≤ len.toInt ∧ len.toInt < 5) (hne : p0 ≠ r) :
    MetFree l (⟨"com/example/honeyguide/honeyguide/Chars", "append", "(C)V"⟩ : MethodName) (head1 (Jvm.Cond.code (⟨"com/example/honeyguide/honeyguide/Chars", "append", "(C)V"⟩ : MethodName) prog_11_method_5_code 2 none :: ws) ({ frames := 1, cells := 0, slots := 0, locals := 15 } : Room)) (fun a U => a = #[(.ref p0), (.int p1)] ∧ Z.Warmed39 U.vm ∧ U.heap = h0) (fun _ _ _ _ _ => True) (fun _ U o U' => ∃ v L, o = .returned v ∧ (own_Q7 Z p0 p1 r len N f h0 n0) v U'.heap L ∧ FrameEnd U o U' L ({ frames := 1, cells := 0, slots := 0, locals := 15 } : Room).cells ({ frames := 1, cells := 0, slots := 0, locals := 15 } : Room).slots) := by
  refine MetFree.of_bodySF (plainFor_of_name pn_com_example_honeyguide_honeyguide_Chars) hisR ?_
  intro p e s m args below meth c s₁ Bd hml0 hP hK
  obtain ⟨rfl, hZ, hh⟩ := hP
  have hx := Bd.exec
  have hby := Bd.bytes
  have hml : c.maxLocals = 2 := hml0
  have hown : s.vm.findClass "com/example/honeyguide/honeyguide/Chars" = some m.cls := findClass_of_methodNamed Bd.named
  have hnm := (name_of_methodNamed Bd.named Bd.method).1
  have X0 : Stand p l e ({ frames := 1, cells := 0, slots := 0, locals := 15 } : Room) s m #[(.ref p0), (.int p1)] below meth c s₁ [] 0 0 := Stand.of_body Bd
  have e0 : s₁.heap = h0 := by rw [← hh, Bd.state]; rfl
  have N0 := Fr.nil n0
  refine own_body (QQ := (own_Q7 Z p0 p1 r len N f h0 n0)) (ef_7 m p0 p1) ?_
  refine own_via (s₁.setTop (mkF m 1 #[.val (.ref p0), .val (.int p1)] [(.ref p0)])) (fun t k => XS.aloadN X0.here hx rfl (hb hby d7_0) rfl rfl k) ?_
  refine own_via (s₁.setTop (mkF m 2 #[.val (.ref p0), .val (.int p1)] [(.int (1 : Int32)), (.ref p0)])) (fun t k => XS.iconst X0.here hx rfl (hb hby d7_1) k) ?_
  obtain ⟨cq137, q137, q137b⟩ := P2.cell
  obtain ⟨_, _, ⟨T137, L137, k137, n137⟩, -, X137, ⟨Lc137, hQ137, l137, y137, z137⟩, st137⟩ := X0.privateBack hx (y := (⟨"com/example/honeyguide/honeyguide/Chars", "room", "(I)V"⟩ : MethodName)) hown (mvT hZ (hw _ (List.mem_of_getElem? (i := 32) rfl))) (mvT hZ (hw _ (List.mem_of_getElem? (i := 33) rfl))) (own_selpriv (mvT hZ (hw _ (List.mem_of_getElem? (i := 13) rfl))) (Cond.privateMethod_at (mvP hZ (hw _ (List.mem_of_getElem? (i := 34) rfl)) (args := #[]))) (mvT hZ (hw _ (List.mem_of_getElem? (i := 33) rfl))) (by decide)) (Cond.privateMethod_at (mvP hZ (hw _ (List.mem_of_getElem? (i := 34) rfl)) (args := #[]))) (mvT hZ (hw _ (List.mem_of_getElem? (i := 35) rfl))) (by decide) (backOf (W := 0) (rm8 l Z a0 hw [] p0 (1 : Int32) h0 n0 (Nat.le_trans Z0 (Keep.refl h0 [p0, r]).1) r len N f P0 P1 P2 P3 (own_room hN hl)) hZ (hw _ (List.mem_of_getElem? (i := 35) rfl)) (hw _ (List.mem_of_getElem? (i := 14) rfl)) (by decide) (by decide)) (g := (mkF m 2 #[.val (.ref p0), .val (.int p1)] [(.int (1 : Int32)), (.ref p0)])) rfl (by rw [hml]; rfl) (Steps.refl _) (a := p0) (by rw [e0]; exact q137) q137b (argsL := [(.int (1 : Int32))]) (rest := []) (lenOf pd_3 rfl) rfl (by show 2 * 0 + _ ≤ _; exact Nat.le_of_eq rfl) (hb hby d7_2) (fun _ _ => ⟨rfl, e0, (by decide : 0 + 0 ≤ _), (by decide : 0 + 0 ≤ _)⟩)
  dsimp only [Pt.U, Pt.locs, Pt.cells, Pt.slots] at X137 l137 y137 z137 st137 hQ137
  rw [y137, z137] at X137
  have X137 : Stand _ _ _ _ _ _ _ _ _ _ T137 L137 0 0 := X137
  obtain ⟨rfl, N137q, e137⟩ := hQ137
  have N137 : Fr n0 L137 := by rw [l137]; exact Fr.app N0 N137q
  refine own_via (T137.setTop (mkF m 5 #[.val (.ref p0), .val (.int p1)] [])) (fun t k => st137.trans k) ?_
  refine own_via (T137.setTop (mkF m 6 #[.val (.ref p0), .val (.int p1)] [(.ref p0)])) (fun t k => XS.aloadN X137.here hx rfl (hb hby d7_5) rfl rfl k) ?_
  obtain ⟨T138, X138, e138, st138⟩ := getF X137 hx hZ hown (host := "") (Or.inl (hw _ (List.mem_of_getElem? (i := 25) rfl))) Via.refl e137 P0 (g := (mkF m 6 #[.val (.ref p0), .val (.int p1)] [(.ref p0)])) rfl rfl (hb hby d7_6)
  refine own_via (T138.setTop (mkF m 9 #[.val (.ref p0), .val (.int p1)] [(.ref r)])) (fun t k => st138 t k) ?_
  refine own_via (T138.setTop (mkF m 10 #[.val (.ref p0), .val (.int p1)] [(.ref p0), (.ref r)])) (fun t k => XS.aloadN X138.here hx rfl (hb hby d7_9) rfl rfl k) ?_
  refine own_via (T138.setTop (mkF m 11 #[.val (.ref p0), .val (.int p1)] [(.ref p0), (.ref p0), (.ref r)])) (fun t k => XS.dup X138.here hx rfl (hb hby d7_10) rfl rfl k) ?_
  obtain ⟨T139, X139, e139, st139⟩ := getF X138 hx hZ hown (host := "") (Or.inl (hw _ (List.mem_of_getElem? (i := 36) rfl))) Via.refl e138 P1 (g := (mkF m 11 #[.val (.ref p0), .val (.int p1)] [(.ref p0), (.ref p0), (.ref r)])) rfl rfl (hb hby d7_11)
  refine own_via (T139.setTop (mkF m 14 #[.val (.ref p0), .val (.int p1)] [(.int len), (.ref p0), (.ref r)])) (fun t k => st139 t k) ?_
  refine own_via (T139.setTop (mkF m 15 #[.val (.ref p0), .val (.int p1)] [(.int len), (.ref p0), (.int len), (.ref r)])) (fun t k => XS.dupX1 X139.here hx rfl (hb hby d7_14) rfl rfl rfl k) ?_
  refine own_via (T139.setTop (mkF m 16 #[.val (.ref p0), .val (.int p1)] [(.int (1 : Int32)), (.int len), (.ref p0), (.int len), (.ref r)])) (fun t k => XS.iconst X139.here hx rfl (hb hby d7_15) k) ?_
  refine own_via (T139.setTop (mkF m 17 #[.val (.ref p0), .val (.int p1)] [(.int (len + (1 : Int32))), (.ref p0), (.int len), (.ref r)])) (fun t k => XS.iadd X139.here hx rfl (hb hby d7_16) rfl k) ?_
  obtain ⟨T140, h140, X140, e140, W140, st140⟩ := putF X139 hx hZ hown (host := "") (Or.inl (hw _ (List.mem_of_getElem? (i := 36) rfl))) Via.refl e139 P1 P2 (Or.inl (hw _ (List.mem_of_getElem? (i := 37) rfl))) (hw _ (List.mem_of_getElem? (i := 13) rfl)) (ty := .int) (by decide) rfl rfl (g := (mkF m 17 #[.val (.ref p0), .val (.int p1)] [(.int (len + (1 : Int32))), (.ref p0), (.int len), (.ref r)])) rfl rfl (hb hby d7_17)
  have Fw140 := P1.same W140
  have N140 := Fr.snoc X140 N137 gg_p0
  have K141 : Keep h0 h140 [p0, r] := (Keep.refl h0 [p0, r]).wr W140 (Or.inl (List.mem_of_getElem? (i := 0) rfl))
  refine own_via (T140.setTop (mkF m 20 #[.val (.ref p0), .val (.int p1)] [(.int len), (.ref r)])) (fun t k => st140 t k) ?_
  refine own_via (T140.setTop (mkF m 21 #[.val (.ref p0), .val (.int p1)] [(.int p1), (.int len), (.ref r)])) (fun t k => XS.iloadN X140.here hx rfl (hb hby d7_20) rfl  k) ?_
  have F143 := (P3.other W140 (Ne.symm hne))
  obtain ⟨cl144, Ar144, S144, H144⟩ := id F143
  obtain ⟨T142, h142, X142, e142, W142, st142⟩ := stC X140 hx hZ e140 Ar144 (j := len) (own_in S144 (own_app hN hl)) (g := (mkF m 21 #[.val (.ref p0), .val (.int p1)] [(.int p1), (.int len), (.ref r)])) rfl rfl (hb hby d7_21)
  have V142 : own_A Z h142 r .char N (own_up f len.toInt.toNat (nar .char p1)) := own_A.set F143 W142
  have N142 := Fr.snoc X142 N140 gg_r
  have K145 : Keep h0 h142 [p0, r] := K141.wr W142 (Or.inl (List.mem_of_getElem? (i := 1) rfl))
  refine own_via (T142.setTop (mkF m 22 #[.val (.ref p0), .val (.int p1)] [])) (fun t k => st142 t k) ?_
  refine own_leave X142 Bd.notSynchronized (v := none) (fun _ => rfl) (fun fs hr => X142.returnOut hx Bd.returns (hb hby d7_22) hr) ?_ (by decide) (by decide)
  have F146 := ((P2.wr W140).wr W142)
  have F147 := ((P0.other W140 (Or.inr (slot_ne (Or.inl (hw _ (List.mem_of_getElem? (i := 26) rfl))) (Or.inl (hw _ (List.mem_of_getElem? (i := 37) rfl))) (by decide) (t := (.array .char)) (t' := .int) (by decide) (by decide)))).other W142 (Or.inl hne))
  have F148 := (Fw140.other W142 (Or.inl hne))
  show (own_Q7 Z p0 p1 r len N f h0 n0) _ T142.heap _
  rw [e142]
  exact ⟨rfl, N142, K145, F146, F147, F148, V142⟩
def own_Q9 (Z : State) (p0 : Addr) (p1 : Int32) (r : Addr) (len : Int32) (N : Nat) (f : Nat → Int32) (h0 : Heap) (n0 : Nat) (v : Option Value) (h : Heap) (L : List Loc) : Prop := v = none ∧ Fr n0 L ∧ Keep h0 h [p0, r] ∧ Exa Z h p0 "com/example/honeyguide/honeyguide/Chars" ∧ Fld Z h p0 "com/example/honeyguide/honeyguide/Chars" "chars" "[C" (.ref r) ∧ Fld Z h p0 "com/example/honeyguide/honeyguide/Chars" "length" "I" (.int (own_cl p1 (own_colx p1 f))) ∧ own_A Z h r .char N (own_colx p1 f).1
theorem d9_0 : decode prog_11_method_9_code 0 = .ok (.iload_n 1, 1) := by decide +kernel
theorem d9_1 : decode prog_11_method_9_code 1 = .ok (.istore_n 2, 1) := by decide +kernel
theorem d9_2 : decode prog_11_method_9_code 2 = .ok (.iconst 1, 1) := by decide +kernel
theorem d9_3 : decode prog_11_method_9_code 3 = .ok (.istore_n 3, 1) := by decide +kernel
theorem d9_4 : decode prog_11_method_9_code 4 = .ok (.iload_n 1, 1) := by decide +kernel
theorem d9_5 : decode prog_11_method_9_code 5 = .ok (.istore 4, 2) := by decide +kernel
theorem d9_7 : decode prog_11_method_9_code 7 = .ok (.iload 4, 2) := by decide +kernel
theorem d9_9 : decode prog_11_method_9_code 9 = .ok (.aload_n 0, 1) := by decide +kernel
theorem d9_10 : decode prog_11_method_9_code 10 = .ok (.getfield 19, 3) := by decide +kernel
theorem d9_13 : decode prog_11_method_9_code 13 = .ok (.if_icmp .ge 53, 3) := by decide +kernel
theorem d9_16 : decode prog_11_method_9_code 16 = .ok (.aload_n 0, 1) := by decide +kernel
theorem d9_17 : decode prog_11_method_9_code 17 = .ok (.getfield 15, 3) := by decide +kernel
theorem d9_20 : decode prog_11_method_9_code 20 = .ok (.iload 4, 2) := by decide +kernel
theorem d9_22 : decode prog_11_method_9_code 22 = .ok (.caload, 1) := by decide +kernel
theorem d9_23 : decode prog_11_method_9_code 23 = .ok (.istore 5, 2) := by decide +kernel
theorem d9_25 : decode prog_11_method_9_code 25 = .ok (.iload 5, 2) := by decide +kernel
theorem d9_27 : decode prog_11_method_9_code 27 = .ok (.bipush 32, 2) := by decide +kernel
theorem d9_29 : decode prog_11_method_9_code 29 = .ok (.if_icmp .ne 7, 3) := by decide +kernel
theorem d9_32 : decode prog_11_method_9_code 32 = .ok (.iload_n 3, 1) := by decide +kernel
theorem d9_33 : decode prog_11_method_9_code 33 = .ok (.ifCond .ne 14, 3) := by decide +kernel
theorem d9_36 : decode prog_11_method_9_code 36 = .ok (.aload_n 0, 1) := by decide +kernel
theorem d9_37 : decode prog_11_method_9_code 37 = .ok (.getfield 15, 3) := by decide +kernel
theorem d9_40 : decode prog_11_method_9_code 40 = .ok (.iload_n 2, 1) := by decide +kernel
theorem d9_41 : decode prog_11_method_9_code 41 = .ok (.iinc 2 1, 3) := by decide +kernel
theorem d9_44 : decode prog_11_method_9_code 44 = .ok (.iload 5, 2) := by decide +kernel
theorem d9_46 : decode prog_11_method_9_code 46 = .ok (.castore, 1) := by decide +kernel
theorem d9_47 : decode prog_11_method_9_code 47 = .ok (.iload 5, 2) := by decide +kernel
theorem d9_49 : decode prog_11_method_9_code 49 = .ok (.bipush 32, 2) := by decide +kernel
theorem d9_51 : decode prog_11_method_9_code 51 = .ok (.if_icmp .ne 7, 3) := by decide +kernel
theorem d9_54 : decode prog_11_method_9_code 54 = .ok (.iconst 1, 1) := by decide +kernel
theorem d9_55 : decode prog_11_method_9_code 55 = .ok (.goto 4, 3) := by decide +kernel
theorem d9_58 : decode prog_11_method_9_code 58 = .ok (.iconst 0, 1) := by decide +kernel
theorem d9_59 : decode prog_11_method_9_code 59 = .ok (.istore_n 3, 1) := by decide +kernel
theorem d9_60 : decode prog_11_method_9_code 60 = .ok (.iinc 4 1, 3) := by decide +kernel
theorem d9_63 : decode prog_11_method_9_code 63 = .ok (.goto (-56), 3) := by decide +kernel
theorem d9_66 : decode prog_11_method_9_code 66 = .ok (.iload_n 2, 1) := by decide +kernel
theorem d9_67 : decode prog_11_method_9_code 67 = .ok (.iload_n 1, 1) := by decide +kernel
theorem d9_68 : decode prog_11_method_9_code 68 = .ok (.if_icmp .le 10, 3) := by decide +kernel
theorem d9_71 : decode prog_11_method_9_code 71 = .ok (.iload_n 3, 1) := by decide +kernel
theorem d9_72 : decode prog_11_method_9_code 72 = .ok (.ifCond .eq 6, 3) := by decide +kernel
theorem d9_75 : decode prog_11_method_9_code 75 = .ok (.iinc 2 (-1), 3) := by decide +kernel
theorem d9_78 : decode prog_11_method_9_code 78 = .ok (.aload_n 0, 1) := by decide +kernel
theorem d9_79 : decode prog_11_method_9_code 79 = .ok (.iload_n 2, 1) := by decide +kernel
theorem d9_80 : decode prog_11_method_9_code 80 = .ok (.putfield 19, 3) := by decide +kernel
theorem d9_83 : decode prog_11_method_9_code 83 = .ok (.return_, 1) := by decide +kernel
theorem ef_9 (m : MethodId) (p0 : Addr) (p1 : Int32) : entryFrame m #[(.ref p0), (.int p1)] 6 = mkF m 0 #[.val (.ref p0), .val (.int p1), .unset, .unset, .unset, .unset] [] := by first | (simp [entryFrame, mkF, argsToLocals, Value.category]; done) | rfl
set_option maxRecDepth 65536 in
set_option maxHeartbeats 40000000 in
theorem rm9 (l : Launch) (Z : State) (a0 : Array Value) (hw : ∀ d ∈ tables_1, d.before a0 Z = true) (ws : List Jvm.Cond) (p0 : Addr) (p1 : Int32) (h0 : Heap) (n0 : Nat) (Z0 : n0 ≤ h0.size) (r : Addr) (len : Int32) (N : Nat) (f : Nat → Int32) (P0 : Fld Z h0 p0 "com/example/honeyguide/honeyguide/Chars" "chars" "[C" (.ref r)) (P1 : Fld Z h0 p0 "com/example/honeyguide/honeyguide/Chars" "length" "I" (.int len)) (P2 : Exa Z h0 p0 "com/example/honeyguide/honeyguide/Chars") (P3 : own_A Z h0 r .char N f) (gg_p0 : n0 ≤ p0) (gg_r : n0 ≤ r) (hN : 16 ≤ N ∧ N ≤ 31) (hlen : len.toInt = 5) (hp : 0 ≤ p1.toInt ∧ p1.toInt ≤ 5) (hne : p0 ≠ r) :
    MetFree l (⟨"com/example/honeyguide/honeyguide/Chars", "collapseSpaces", "(I)V"⟩ : MethodName) (head1 (Jvm.Cond.code (⟨"com/example/honeyguide/honeyguide/Chars", "collapseSpaces", "(I)V"⟩ : MethodName) prog_11_method_9_code 6 none :: ws) ({ frames := 0, cells := 0, slots := 0, locals := 0 } : Room)) (fun a U => a = #[(.ref p0), (.int p1)] ∧ Z.Warmed39 U.vm ∧ U.heap = h0) (fun _ _ _ _ _ => True) (fun _ U o U' => ∃ v L, o = .returned v ∧ (own_Q9 Z p0 p1 r len N f h0 n0) v U'.heap L ∧ FrameEnd U o U' L ({ frames := 0, cells := 0, slots := 0, locals := 0 } : Room).cells ({ frames := 0, cells := 0, slots := 0, locals := 0 } : Room).slots) := by
  refine MetFree.of_bodySF (plainFor_of_name pn_com_example_honeyguide_honeyguide_Chars) hisR ?_
  intro p e s m args below meth c s₁ Bd hml0 hP hK
  obtain ⟨rfl, hZ, hh⟩ := hP
  have hx := Bd.exec
  have hby := Bd.bytes
  have hml : c.maxLocals = 6 := hml0
  have hown : s.vm.findClass "com/example/honeyguide/honeyguide/Chars" = some m.cls := findClass_of_methodNamed Bd.named
  have hnm := (name_of_methodNamed Bd.named Bd.method).1
  have X0 : Stand p l e ({ frames := 0, cells := 0, slots := 0, locals := 0 } : Room) s m #[(.ref p0), (.int p1)] below meth c s₁ [] 0 0 := Stand.of_body Bd
  have e0 : s₁.heap = h0 := by rw [← hh, Bd.state]; rfl
  have N0 := Fr.nil n0
  refine own_body (QQ := (own_Q9 Z p0 p1 r len N f h0 n0)) (ef_9 m p0 p1) ?_
  refine own_via (s₁.setTop (mkF m 1 #[.val (.ref p0), .val (.int p1), .unset, .unset, .unset, .unset] [(.int p1)])) (fun t k => XS.iloadN X0.here hx rfl (hb hby d9_0) rfl  k) ?_
  refine own_via (s₁.setTop (mkF m 2 #[.val (.ref p0), .val (.int p1), .val (.int p1), .unset, .unset, .unset] [])) (fun t k => XS.istoreN X0.here hx rfl (hb hby d9_1) rfl (l' := #[.val (.ref p0), .val (.int p1), .val (.int p1), .unset, .unset, .unset]) rfl k) ?_
  refine own_via (s₁.setTop (mkF m 3 #[.val (.ref p0), .val (.int p1), .val (.int p1), .unset, .unset, .unset] [(.int (1 : Int32))])) (fun t k => XS.iconst X0.here hx rfl (hb hby d9_2) k) ?_
  refine own_via (s₁.setTop (mkF m 4 #[.val (.ref p0), .val (.int p1), .val (.int p1), .val (.int (1 : Int32)), .unset, .unset] [])) (fun t k => XS.istoreN X0.here hx rfl (hb hby d9_3) rfl (l' := #[.val (.ref p0), .val (.int p1), .val (.int p1), .val (.int (1 : Int32)), .unset, .unset]) rfl k) ?_
  refine own_via (s₁.setTop (mkF m 5 #[.val (.ref p0), .val (.int p1), .val (.int p1), .val (.int (1 : Int32)), .unset, .unset] [(.int p1)])) (fun t k => XS.iloadN X0.here hx rfl (hb hby d9_4) rfl  k) ?_
  refine own_via (s₁.setTop (mkF m 7 #[.val (.ref p0), .val (.int p1), .val (.int p1), .val (.int (1 : Int32)), .val (.int p1), .unset] [])) (fun t k => XS.istore X0.here hx rfl (hb hby d9_5) rfl (l' := #[.val (.ref p0), .val (.int p1), .val (.int p1), .val (.int (1 : Int32)), .val (.int p1), .unset]) rfl k) ?_
  have loop : ∀ (k : Nat) (T1 : State) (h1 : Heap) (L1 : List Loc) (X1 : Stand p l e ({ frames := 0, cells := 0, slots := 0, locals := 0 } : Room) s m #[(.ref p0), (.int p1)] below meth c T1 L1 0 0) (e1 : T1.heap = h1) (N1 : Fr n0 L1) (K1 : Keep h0 h1 [p0, r]) (F1 : Fld Z h1 p0 "com/example/honeyguide/honeyguide/Chars" "chars" "[C" (.ref r)) (F2 : Fld Z h1 p0 "com/example/honeyguide/honeyguide/Chars" "length" "I" (.int len)) (E1 : Exa Z h1 p0 "com/example/honeyguide/honeyguide/Chars") (g : Nat → Int32) (A1 : own_A Z h1 r .char N g) (i q lst : Int32) (s5 : Slot) (hs5 : s5 = .unset ∨ ∃ w, s5 = .val w ∧ w.category = 1), 0 ≤ q.toInt → q.toInt ≤ i.toInt → i.toInt + k = 5 → own_col k g q lst i = own_colx p1 f → own_Goes p e below (own_Fin s below (own_Q9 Z p0 p1 r len N f h0 n0) ({ frames := 0, cells := 0, slots := 0, locals := 0 } : Room).cells ({ frames := 0, cells := 0, slots := 0, locals := 0 } : Room).slots) (T1.setTop (mkF m 7 #[.val (.ref p0), .val (.int p1), .val (.int q), .val (.int lst), .val (.int i), s5] [])) := by
    intro k
    induction k with
    | zero =>
      intro T1 h1 L1 X1 e1 N1 K1 F1 F2 E1 g A1 i q lst s5 hs5 hq0 hqi hik hres
      refine own_via (T1.setTop (mkF m 9 #[.val (.ref p0), .val (.int p1), .val (.int q), .val (.int lst), .val (.int i), s5] [(.int i)])) (fun t k => XS.iload X1.here hx rfl (hb hby d9_7) rfl  k) ?_
      refine own_via (T1.setTop (mkF m 10 #[.val (.ref p0), .val (.int p1), .val (.int q), .val (.int lst), .val (.int i), s5] [(.ref p0), (.int i)])) (fun t k => XS.aloadN X1.here hx rfl (hb hby d9_9) rfl rfl k) ?_
      obtain ⟨T149, X149, e149, st149⟩ := getF X1 hx hZ hown (host := "") (Or.inl (hw _ (List.mem_of_getElem? (i := 36) rfl))) Via.refl e1 F2 (g := (mkF m 10 #[.val (.ref p0), .val (.int p1), .val (.int q), .val (.int lst), .val (.int i), s5] [(.ref p0), (.int i)])) rfl rfl (hb hby d9_10)
      refine own_via (T149.setTop (mkF m 13 #[.val (.ref p0), .val (.int p1), .val (.int q), .val (.int lst), .val (.int i), s5] [(.int len), (.int i)])) (fun t k => st149 t k) ?_
      refine own_via (T149.setTop (mkF m 66 #[.val (.ref p0), .val (.int p1), .val (.int q), .val (.int lst), .val (.int i), s5] [])) (fun t k => XS.icmpYes X149.here hx rfl (pc0 := 13) (pc' := 66) rfl (hb hby d9_13) rfl (flt (own_c0 hlen hik)).2.1 (by decide) (by decide) k) ?_
      refine own_via (T149.setTop (mkF m 67 #[.val (.ref p0), .val (.int p1), .val (.int q), .val (.int lst), .val (.int i), s5] [(.int q)])) (fun t k => XS.iloadN X149.here hx rfl (hb hby d9_66) rfl  k) ?_
      refine own_via (T149.setTop (mkF m 68 #[.val (.ref p0), .val (.int p1), .val (.int q), .val (.int lst), .val (.int i), s5] [(.int p1), (.int q)])) (fun t k => XS.iloadN X149.here hx rfl (hb hby d9_67) rfl  k) ?_
      obtain ⟨z150, hz150⟩ : ∃ z : Int32, z = (if p1 < q then (if lst = (0 : Int32) then q else (q + (-1 : Int32))) else q) := ⟨_, rfl⟩
      refine own_via (T149.setTop (mkF m 78 #[.val (.ref p0), .val (.int p1), .val (.int z150), .val (.int lst), .val (.int i), s5] [])) (fun t k => ?_) ?_
      · skip
        by_cases hj68_151 : p1 < q
        · refine XS.icmpNo X149.here hx rfl (hb hby d9_68) rfl (tlt hj68_151).2.2.2 (?_ : Steps p.tables e below (T149.setTop (mkF m 71 #[.val (.ref p0), .val (.int p1), .val (.int q), .val (.int lst), .val (.int i), s5] [])) t)
          refine XS.iloadN X149.here hx rfl (hb hby d9_71) rfl  (?_ : Steps p.tables e below (T149.setTop (mkF m 72 #[.val (.ref p0), .val (.int p1), .val (.int q), .val (.int lst), .val (.int i), s5] [(.int lst)])) t)
          by_cases hj72_152 : lst = (0 : Int32)
          · refine XS.ifYes X149.here hx rfl (pc0 := 72) (pc' := 78) rfl (hb hby d9_72) rfl ((if0 _ _).trans (teq hj72_152).1) (by decide) (by decide) (?_ : Steps p.tables e below (T149.setTop (mkF m 78 #[.val (.ref p0), .val (.int p1), .val (.int q), .val (.int lst), .val (.int i), s5] [])) t)
            have q_z150 := ((hz150.trans (if_pos hj68_151)).trans (if_pos hj72_152))
            subst q_z150
            exact k
          · refine XS.ifNo X149.here hx rfl (hb hby d9_72) rfl ((if0 _ _).trans (feq hj72_152).1) (?_ : Steps p.tables e below (T149.setTop (mkF m 75 #[.val (.ref p0), .val (.int p1), .val (.int q), .val (.int lst), .val (.int i), s5] [])) t)
            refine XS.iinc X149.here hx rfl (hb hby d9_75) rfl (l' := #[.val (.ref p0), .val (.int p1), .val (.int (q + (-1 : Int32))), .val (.int lst), .val (.int i), s5]) rfl (?_ : Steps p.tables e below (T149.setTop (mkF m 78 #[.val (.ref p0), .val (.int p1), .val (.int (q + (-1 : Int32))), .val (.int lst), .val (.int i), s5] [])) t)
            have q_z150 := ((hz150.trans (if_pos hj68_151)).trans (if_neg hj72_152))
            subst q_z150
            exact k
        · refine XS.icmpYes X149.here hx rfl (pc0 := 68) (pc' := 78) rfl (hb hby d9_68) rfl (flt hj68_151).2.2.2 (by decide) (by decide) (?_ : Steps p.tables e below (T149.setTop (mkF m 78 #[.val (.ref p0), .val (.int p1), .val (.int q), .val (.int lst), .val (.int i), s5] [])) t)
          have q_z150 := (hz150.trans (if_neg hj68_151))
          subst q_z150
          exact k
      refine own_via (T149.setTop (mkF m 79 #[.val (.ref p0), .val (.int p1), .val (.int z150), .val (.int lst), .val (.int i), s5] [(.ref p0)])) (fun t k => XS.aloadN X149.here hx rfl (hb hby d9_78) rfl rfl k) ?_
      refine own_via (T149.setTop (mkF m 80 #[.val (.ref p0), .val (.int p1), .val (.int z150), .val (.int lst), .val (.int i), s5] [(.int z150), (.ref p0)])) (fun t k => XS.iloadN X149.here hx rfl (hb hby d9_79) rfl  k) ?_
      obtain ⟨T153, h153, X153, e153, W153, st153⟩ := putF X149 hx hZ hown (host := "") (Or.inl (hw _ (List.mem_of_getElem? (i := 36) rfl))) Via.refl e149 F2 E1 (Or.inl (hw _ (List.mem_of_getElem? (i := 37) rfl))) (hw _ (List.mem_of_getElem? (i := 13) rfl)) (ty := .int) (by decide) rfl rfl (g := (mkF m 80 #[.val (.ref p0), .val (.int p1), .val (.int z150), .val (.int lst), .val (.int i), s5] [(.int z150), (.ref p0)])) rfl rfl (hb hby d9_80)
      have Fw153 := F2.same W153
      have N153 := Fr.snoc X153 N1 gg_p0
      have K154 : Keep h0 h153 [p0, r] := K1.wr W153 (Or.inl (List.mem_of_getElem? (i := 0) rfl))
      refine own_via (T153.setTop (mkF m 83 #[.val (.ref p0), .val (.int p1), .val (.int z150), .val (.int lst), .val (.int i), s5] [])) (fun t k => st153 t k) ?_
      refine own_leave X153 Bd.notSynchronized (v := none) (fun _ => rfl) (fun fs hr => X153.returnOut hx Bd.returns (hb hby d9_83) hr) ?_ (by decide) (by decide)
      have F155 := (E1.wr W153)
      have F156 := (F1.other W153 (Or.inr (slot_ne (Or.inl (hw _ (List.mem_of_getElem? (i := 26) rfl))) (Or.inl (hw _ (List.mem_of_getElem? (i := 37) rfl))) (by decide) (t := (.array .char)) (t' := .int) (by decide) (by decide))))
      have F157 := (A1.other W153 (Ne.symm hne))
      have hg : g = (own_colx p1 f).1 := by rw [← hres]; rfl
      have hl2 : z150 = own_cl p1 (own_colx p1 f) := by rw [hz150, ← hres]; rfl
      show (own_Q9 Z p0 p1 r len N f h0 n0) _ T153.heap _
      rw [e153]
      exact ⟨rfl, N153, K154, F155, F156, hl2 ▸ Fw153, hg ▸ F157⟩
    | succ k ih =>
      intro T1 h1 L1 X1 e1 N1 K1 F1 F2 E1 g A1 i q lst s5 hs5 hq0 hqi hik hres
      refine own_via (T1.setTop (mkF m 9 #[.val (.ref p0), .val (.int p1), .val (.int q), .val (.int lst), .val (.int i), s5] [(.int i)])) (fun t k => XS.iload X1.here hx rfl (hb hby d9_7) rfl  k) ?_
      refine own_via (T1.setTop (mkF m 10 #[.val (.ref p0), .val (.int p1), .val (.int q), .val (.int lst), .val (.int i), s5] [(.ref p0), (.int i)])) (fun t k => XS.aloadN X1.here hx rfl (hb hby d9_9) rfl rfl k) ?_
      obtain ⟨T158, X158, e158, st158⟩ := getF X1 hx hZ hown (host := "") (Or.inl (hw _ (List.mem_of_getElem? (i := 36) rfl))) Via.refl e1 F2 (g := (mkF m 10 #[.val (.ref p0), .val (.int p1), .val (.int q), .val (.int lst), .val (.int i), s5] [(.ref p0), (.int i)])) rfl rfl (hb hby d9_10)
      refine own_via (T158.setTop (mkF m 13 #[.val (.ref p0), .val (.int p1), .val (.int q), .val (.int lst), .val (.int i), s5] [(.int len), (.int i)])) (fun t k => st158 t k) ?_
      refine own_via (T158.setTop (mkF m 16 #[.val (.ref p0), .val (.int p1), .val (.int q), .val (.int lst), .val (.int i), s5] [])) (fun t k => XS.icmpNo X158.here hx rfl (hb hby d9_13) rfl (tlt (own_c1 hlen hik)).2.1 k) ?_
      refine own_via (T158.setTop (mkF m 17 #[.val (.ref p0), .val (.int p1), .val (.int q), .val (.int lst), .val (.int i), s5] [(.ref p0)])) (fun t k => XS.aloadN X158.here hx rfl (hb hby d9_16) rfl rfl k) ?_
      obtain ⟨T159, X159, e159, st159⟩ := getF X158 hx hZ hown (host := "") (Or.inl (hw _ (List.mem_of_getElem? (i := 25) rfl))) Via.refl e158 F1 (g := (mkF m 17 #[.val (.ref p0), .val (.int p1), .val (.int q), .val (.int lst), .val (.int i), s5] [(.ref p0)])) rfl rfl (hb hby d9_17)
      refine own_via (T159.setTop (mkF m 20 #[.val (.ref p0), .val (.int p1), .val (.int q), .val (.int lst), .val (.int i), s5] [(.ref r)])) (fun t k => st159 t k) ?_
      refine own_via (T159.setTop (mkF m 22 #[.val (.ref p0), .val (.int p1), .val (.int q), .val (.int lst), .val (.int i), s5] [(.int i), (.ref r)])) (fun t k => XS.iload X159.here hx rfl (hb hby d9_20) rfl  k) ?_
      obtain ⟨cl161, Ar161, S161, H161⟩ := id A1
      refine own_via (T159.setTop (mkF m 23 #[.val (.ref p0), .val (.int p1), .val (.int q), .val (.int lst), .val (.int i), s5] [(.int (g i.toInt.toNat))])) (fun t k => X159.caload hx (j := i) (v := (.int (g i.toInt.toNat))) (by rw [e159]; exact Ar161.1) (State.isArrayOf_alike hZ.alike Ar161.2.1) Ar161.2.2 (own_in S161 (by omega)) (own_at H161 (by omega)) (g := (mkF m 22 #[.val (.ref p0), .val (.int p1), .val (.int q), .val (.int lst), .val (.int i), s5] [(.int i), (.ref r)])) rfl rfl (hb hby d9_22) _ k) ?_
      refine own_via (T159.setTop (mkF m 25 #[.val (.ref p0), .val (.int p1), .val (.int q), .val (.int lst), .val (.int i), .val (.int (g i.toInt.toNat))] [])) (fun t k => XS.istoreS X159.here hx rfl (hb hby d9_23) rfl (o := s5) rfl hs5 k) ?_
      refine own_via (T159.setTop (mkF m 27 #[.val (.ref p0), .val (.int p1), .val (.int q), .val (.int lst), .val (.int i), .val (.int (g i.toInt.toNat))] [(.int (g i.toInt.toNat))])) (fun t k => XS.iload X159.here hx rfl (hb hby d9_25) rfl  k) ?_
      refine own_via (T159.setTop (mkF m 29 #[.val (.ref p0), .val (.int p1), .val (.int q), .val (.int lst), .val (.int i), .val (.int (g i.toInt.toNat))] [(.int (32 : Int32)), (.int (g i.toInt.toNat))])) (fun t k => XS.bipush X159.here hx rfl (hb hby d9_27) k) ?_
      by_cases hA : (g i.toInt.toNat) = (32 : Int32)
      · refine own_via (T159.setTop (mkF m 32 #[.val (.ref p0), .val (.int p1), .val (.int q), .val (.int lst), .val (.int i), .val (.int (g i.toInt.toNat))] [])) (fun t k => XS.icmpNo X159.here hx rfl (hb hby d9_29) rfl (teq hA).2 k) ?_
        refine own_via (T159.setTop (mkF m 33 #[.val (.ref p0), .val (.int p1), .val (.int q), .val (.int lst), .val (.int i), .val (.int (g i.toInt.toNat))] [(.int lst)])) (fun t k => XS.iloadN X159.here hx rfl (hb hby d9_32) rfl  k) ?_
        by_cases hB : lst = (0 : Int32)
        · refine own_via (T159.setTop (mkF m 36 #[.val (.ref p0), .val (.int p1), .val (.int q), .val (.int lst), .val (.int i), .val (.int (g i.toInt.toNat))] [])) (fun t k => XS.ifNo X159.here hx rfl (hb hby d9_33) rfl ((if0 _ _).trans (teq hB).2) k) ?_
          refine own_via (T159.setTop (mkF m 37 #[.val (.ref p0), .val (.int p1), .val (.int q), .val (.int lst), .val (.int i), .val (.int (g i.toInt.toNat))] [(.ref p0)])) (fun t k => XS.aloadN X159.here hx rfl (hb hby d9_36) rfl rfl k) ?_
          obtain ⟨T162, X162, e162, st162⟩ := getF X159 hx hZ hown (host := "") (Or.inl (hw _ (List.mem_of_getElem? (i := 25) rfl))) Via.refl e159 F1 (g := (mkF m 37 #[.val (.ref p0), .val (.int p1), .val (.int q), .val (.int lst), .val (.int i), .val (.int (g i.toInt.toNat))] [(.ref p0)])) rfl rfl (hb hby d9_37)
          refine own_via (T162.setTop (mkF m 40 #[.val (.ref p0), .val (.int p1), .val (.int q), .val (.int lst), .val (.int i), .val (.int (g i.toInt.toNat))] [(.ref r)])) (fun t k => st162 t k) ?_
          refine own_via (T162.setTop (mkF m 41 #[.val (.ref p0), .val (.int p1), .val (.int q), .val (.int lst), .val (.int i), .val (.int (g i.toInt.toNat))] [(.int q), (.ref r)])) (fun t k => XS.iloadN X162.here hx rfl (hb hby d9_40) rfl  k) ?_
          refine own_via (T162.setTop (mkF m 44 #[.val (.ref p0), .val (.int p1), .val (.int (q + (1 : Int32))), .val (.int lst), .val (.int i), .val (.int (g i.toInt.toNat))] [(.int q), (.ref r)])) (fun t k => XS.iinc X162.here hx rfl (hb hby d9_41) rfl (l' := #[.val (.ref p0), .val (.int p1), .val (.int (q + (1 : Int32))), .val (.int lst), .val (.int i), .val (.int (g i.toInt.toNat))]) rfl k) ?_
          refine own_via (T162.setTop (mkF m 46 #[.val (.ref p0), .val (.int p1), .val (.int (q + (1 : Int32))), .val (.int lst), .val (.int i), .val (.int (g i.toInt.toNat))] [(.int (g i.toInt.toNat)), (.int q), (.ref r)])) (fun t k => XS.iload X162.here hx rfl (hb hby d9_44) rfl  k) ?_
          obtain ⟨cl164, Ar164, S164, H164⟩ := id A1
          obtain ⟨T163, h163, X163, e163, W163, st163⟩ := stC X162 hx hZ e162 Ar164 (j := q) (own_in S164 (by omega)) (g := (mkF m 46 #[.val (.ref p0), .val (.int p1), .val (.int (q + (1 : Int32))), .val (.int lst), .val (.int i), .val (.int (g i.toInt.toNat))] [(.int (g i.toInt.toNat)), (.int q), (.ref r)])) rfl rfl (hb hby d9_46)
          have V163 : own_A Z h163 r .char N (own_up g q.toInt.toNat (nar .char (g i.toInt.toNat))) := own_A.set A1 W163
          have N163 := Fr.snoc X163 N1 gg_r
          have K165 : Keep h0 h163 [p0, r] := K1.wr W163 (Or.inl (List.mem_of_getElem? (i := 1) rfl))
          refine own_via (T163.setTop (mkF m 47 #[.val (.ref p0), .val (.int p1), .val (.int (q + (1 : Int32))), .val (.int lst), .val (.int i), .val (.int (g i.toInt.toNat))] [])) (fun t k => st163 t k) ?_
          refine own_via (T163.setTop (mkF m 49 #[.val (.ref p0), .val (.int p1), .val (.int (q + (1 : Int32))), .val (.int lst), .val (.int i), .val (.int (g i.toInt.toNat))] [(.int (g i.toInt.toNat))])) (fun t k => XS.iload X163.here hx rfl (hb hby d9_47) rfl  k) ?_
          refine own_via (T163.setTop (mkF m 51 #[.val (.ref p0), .val (.int p1), .val (.int (q + (1 : Int32))), .val (.int lst), .val (.int i), .val (.int (g i.toInt.toNat))] [(.int (32 : Int32)), (.int (g i.toInt.toNat))])) (fun t k => XS.bipush X163.here hx rfl (hb hby d9_49) k) ?_
          refine own_via (T163.setTop (mkF m 54 #[.val (.ref p0), .val (.int p1), .val (.int (q + (1 : Int32))), .val (.int lst), .val (.int i), .val (.int (g i.toInt.toNat))] [])) (fun t k => XS.icmpNo X163.here hx rfl (hb hby d9_51) rfl (teq hA).2 k) ?_
          refine own_via (T163.setTop (mkF m 55 #[.val (.ref p0), .val (.int p1), .val (.int (q + (1 : Int32))), .val (.int lst), .val (.int i), .val (.int (g i.toInt.toNat))] [(.int (1 : Int32))])) (fun t k => XS.iconst X163.here hx rfl (hb hby d9_54) k) ?_
          refine own_via (T163.setTop (mkF m 59 #[.val (.ref p0), .val (.int p1), .val (.int (q + (1 : Int32))), .val (.int lst), .val (.int i), .val (.int (g i.toInt.toNat))] [(.int (1 : Int32))])) (fun t k => XS.goto X163.here hx rfl (pc0 := 55) (pc' := 59) rfl (hb hby d9_55) (by decide) (by decide) k) ?_
          refine own_via (T163.setTop (mkF m 60 #[.val (.ref p0), .val (.int p1), .val (.int (q + (1 : Int32))), .val (.int (1 : Int32)), .val (.int i), .val (.int (g i.toInt.toNat))] [])) (fun t k => XS.istoreN X163.here hx rfl (hb hby d9_59) rfl (l' := #[.val (.ref p0), .val (.int p1), .val (.int (q + (1 : Int32))), .val (.int (1 : Int32)), .val (.int i), .val (.int (g i.toInt.toNat))]) rfl k) ?_
          refine own_via (T163.setTop (mkF m 63 #[.val (.ref p0), .val (.int p1), .val (.int (q + (1 : Int32))), .val (.int (1 : Int32)), .val (.int (i + (1 : Int32))), .val (.int (g i.toInt.toNat))] [])) (fun t k => XS.iinc X163.here hx rfl (hb hby d9_60) rfl (l' := #[.val (.ref p0), .val (.int p1), .val (.int (q + (1 : Int32))), .val (.int (1 : Int32)), .val (.int (i + (1 : Int32))), .val (.int (g i.toInt.toNat))]) rfl k) ?_
          refine own_via (T163.setTop (mkF m 7 #[.val (.ref p0), .val (.int p1), .val (.int (q + (1 : Int32))), .val (.int (1 : Int32)), .val (.int (i + (1 : Int32))), .val (.int (g i.toInt.toNat))] [])) (fun t k => XS.goto X163.here hx rfl (pc0 := 63) (pc' := 7) rfl (hb hby d9_63) (by decide) (by decide) k) ?_
          have F166 := (F1.other W163 (Or.inl hne))
          have F167 := (F2.other W163 (Or.inl hne))
          have F168 := (E1.wr W163)
          have hi1 := own_inc (i := i) (by omega)
          have hq1 := own_inc (i := q) (by omega)
          exact ih T163 h163 _ X163 e163 N163 K165 F166 F167 F168 (own_up g q.toInt.toNat (nar .char (g i.toInt.toNat))) V163 (i + (1 : Int32)) (q + (1 : Int32)) (1 : Int32) (.val (.int (g i.toInt.toNat))) (Or.inr ⟨_, rfl, rfl⟩) (by omega) (by omega) (by omega) ((own_colA hA hB).symm.trans hres)
        · refine own_via (T159.setTop (mkF m 47 #[.val (.ref p0), .val (.int p1), .val (.int q), .val (.int lst), .val (.int i), .val (.int (g i.toInt.toNat))] [])) (fun t k => XS.ifYes X159.here hx rfl (pc0 := 33) (pc' := 47) rfl (hb hby d9_33) rfl ((if0 _ _).trans (feq hB).2) (by decide) (by decide) k) ?_
          refine own_via (T159.setTop (mkF m 49 #[.val (.ref p0), .val (.int p1), .val (.int q), .val (.int lst), .val (.int i), .val (.int (g i.toInt.toNat))] [(.int (g i.toInt.toNat))])) (fun t k => XS.iload X159.here hx rfl (hb hby d9_47) rfl  k) ?_
          refine own_via (T159.setTop (mkF m 51 #[.val (.ref p0), .val (.int p1), .val (.int q), .val (.int lst), .val (.int i), .val (.int (g i.toInt.toNat))] [(.int (32 : Int32)), (.int (g i.toInt.toNat))])) (fun t k => XS.bipush X159.here hx rfl (hb hby d9_49) k) ?_
          refine own_via (T159.setTop (mkF m 54 #[.val (.ref p0), .val (.int p1), .val (.int q), .val (.int lst), .val (.int i), .val (.int (g i.toInt.toNat))] [])) (fun t k => XS.icmpNo X159.here hx rfl (hb hby d9_51) rfl (teq hA).2 k) ?_
          refine own_via (T159.setTop (mkF m 55 #[.val (.ref p0), .val (.int p1), .val (.int q), .val (.int lst), .val (.int i), .val (.int (g i.toInt.toNat))] [(.int (1 : Int32))])) (fun t k => XS.iconst X159.here hx rfl (hb hby d9_54) k) ?_
          refine own_via (T159.setTop (mkF m 59 #[.val (.ref p0), .val (.int p1), .val (.int q), .val (.int lst), .val (.int i), .val (.int (g i.toInt.toNat))] [(.int (1 : Int32))])) (fun t k => XS.goto X159.here hx rfl (pc0 := 55) (pc' := 59) rfl (hb hby d9_55) (by decide) (by decide) k) ?_
          refine own_via (T159.setTop (mkF m 60 #[.val (.ref p0), .val (.int p1), .val (.int q), .val (.int (1 : Int32)), .val (.int i), .val (.int (g i.toInt.toNat))] [])) (fun t k => XS.istoreN X159.here hx rfl (hb hby d9_59) rfl (l' := #[.val (.ref p0), .val (.int p1), .val (.int q), .val (.int (1 : Int32)), .val (.int i), .val (.int (g i.toInt.toNat))]) rfl k) ?_
          refine own_via (T159.setTop (mkF m 63 #[.val (.ref p0), .val (.int p1), .val (.int q), .val (.int (1 : Int32)), .val (.int (i + (1 : Int32))), .val (.int (g i.toInt.toNat))] [])) (fun t k => XS.iinc X159.here hx rfl (hb hby d9_60) rfl (l' := #[.val (.ref p0), .val (.int p1), .val (.int q), .val (.int (1 : Int32)), .val (.int (i + (1 : Int32))), .val (.int (g i.toInt.toNat))]) rfl k) ?_
          refine own_via (T159.setTop (mkF m 7 #[.val (.ref p0), .val (.int p1), .val (.int q), .val (.int (1 : Int32)), .val (.int (i + (1 : Int32))), .val (.int (g i.toInt.toNat))] [])) (fun t k => XS.goto X159.here hx rfl (pc0 := 63) (pc' := 7) rfl (hb hby d9_63) (by decide) (by decide) k) ?_
          have hi1 := own_inc (i := i) (by omega)
          exact ih T159 h1 _ X159 e159 N1 K1 F1 F2 E1 g A1 (i + (1 : Int32)) q (1 : Int32) (.val (.int (g i.toInt.toNat))) (Or.inr ⟨_, rfl, rfl⟩) (by omega) (by omega) (by omega) ((own_colB hA hB).symm.trans hres)
      · refine own_via (T159.setTop (mkF m 36 #[.val (.ref p0), .val (.int p1), .val (.int q), .val (.int lst), .val (.int i), .val (.int (g i.toInt.toNat))] [])) (fun t k => XS.icmpYes X159.here hx rfl (pc0 := 29) (pc' := 36) rfl (hb hby d9_29) rfl (feq hA).2 (by decide) (by decide) k) ?_
        refine own_via (T159.setTop (mkF m 37 #[.val (.ref p0), .val (.int p1), .val (.int q), .val (.int lst), .val (.int i), .val (.int (g i.toInt.toNat))] [(.ref p0)])) (fun t k => XS.aloadN X159.here hx rfl (hb hby d9_36) rfl rfl k) ?_
        obtain ⟨T169, X169, e169, st169⟩ := getF X159 hx hZ hown (host := "") (Or.inl (hw _ (List.mem_of_getElem? (i := 25) rfl))) Via.refl e159 F1 (g := (mkF m 37 #[.val (.ref p0), .val (.int p1), .val (.int q), .val (.int lst), .val (.int i), .val (.int (g i.toInt.toNat))] [(.ref p0)])) rfl rfl (hb hby d9_37)
        refine own_via (T169.setTop (mkF m 40 #[.val (.ref p0), .val (.int p1), .val (.int q), .val (.int lst), .val (.int i), .val (.int (g i.toInt.toNat))] [(.ref r)])) (fun t k => st169 t k) ?_
        refine own_via (T169.setTop (mkF m 41 #[.val (.ref p0), .val (.int p1), .val (.int q), .val (.int lst), .val (.int i), .val (.int (g i.toInt.toNat))] [(.int q), (.ref r)])) (fun t k => XS.iloadN X169.here hx rfl (hb hby d9_40) rfl  k) ?_
        refine own_via (T169.setTop (mkF m 44 #[.val (.ref p0), .val (.int p1), .val (.int (q + (1 : Int32))), .val (.int lst), .val (.int i), .val (.int (g i.toInt.toNat))] [(.int q), (.ref r)])) (fun t k => XS.iinc X169.here hx rfl (hb hby d9_41) rfl (l' := #[.val (.ref p0), .val (.int p1), .val (.int (q + (1 : Int32))), .val (.int lst), .val (.int i), .val (.int (g i.toInt.toNat))]) rfl k) ?_
        refine own_via (T169.setTop (mkF m 46 #[.val (.ref p0), .val (.int p1), .val (.int (q + (1 : Int32))), .val (.int lst), .val (.int i), .val (.int (g i.toInt.toNat))] [(.int (g i.toInt.toNat)), (.int q), (.ref r)])) (fun t k => XS.iload X169.here hx rfl (hb hby d9_44) rfl  k) ?_
        obtain ⟨cl171, Ar171, S171, H171⟩ := id A1
        obtain ⟨T170, h170, X170, e170, W170, st170⟩ := stC X169 hx hZ e169 Ar171 (j := q) (own_in S171 (by omega)) (g := (mkF m 46 #[.val (.ref p0), .val (.int p1), .val (.int (q + (1 : Int32))), .val (.int lst), .val (.int i), .val (.int (g i.toInt.toNat))] [(.int (g i.toInt.toNat)), (.int q), (.ref r)])) rfl rfl (hb hby d9_46)
        have V170 : own_A Z h170 r .char N (own_up g q.toInt.toNat (nar .char (g i.toInt.toNat))) := own_A.set A1 W170
        have N170 := Fr.snoc X170 N1 gg_r
        have K172 : Keep h0 h170 [p0, r] := K1.wr W170 (Or.inl (List.mem_of_getElem? (i := 1) rfl))
        refine own_via (T170.setTop (mkF m 47 #[.val (.ref p0), .val (.int p1), .val (.int (q + (1 : Int32))), .val (.int lst), .val (.int i), .val (.int (g i.toInt.toNat))] [])) (fun t k => st170 t k) ?_
        refine own_via (T170.setTop (mkF m 49 #[.val (.ref p0), .val (.int p1), .val (.int (q + (1 : Int32))), .val (.int lst), .val (.int i), .val (.int (g i.toInt.toNat))] [(.int (g i.toInt.toNat))])) (fun t k => XS.iload X170.here hx rfl (hb hby d9_47) rfl  k) ?_
        refine own_via (T170.setTop (mkF m 51 #[.val (.ref p0), .val (.int p1), .val (.int (q + (1 : Int32))), .val (.int lst), .val (.int i), .val (.int (g i.toInt.toNat))] [(.int (32 : Int32)), (.int (g i.toInt.toNat))])) (fun t k => XS.bipush X170.here hx rfl (hb hby d9_49) k) ?_
        refine own_via (T170.setTop (mkF m 58 #[.val (.ref p0), .val (.int p1), .val (.int (q + (1 : Int32))), .val (.int lst), .val (.int i), .val (.int (g i.toInt.toNat))] [])) (fun t k => XS.icmpYes X170.here hx rfl (pc0 := 51) (pc' := 58) rfl (hb hby d9_51) rfl (feq hA).2 (by decide) (by decide) k) ?_
        refine own_via (T170.setTop (mkF m 59 #[.val (.ref p0), .val (.int p1), .val (.int (q + (1 : Int32))), .val (.int lst), .val (.int i), .val (.int (g i.toInt.toNat))] [(.int (0 : Int32))])) (fun t k => XS.iconst X170.here hx rfl (hb hby d9_58) k) ?_
        refine own_via (T170.setTop (mkF m 60 #[.val (.ref p0), .val (.int p1), .val (.int (q + (1 : Int32))), .val (.int (0 : Int32)), .val (.int i), .val (.int (g i.toInt.toNat))] [])) (fun t k => XS.istoreN X170.here hx rfl (hb hby d9_59) rfl (l' := #[.val (.ref p0), .val (.int p1), .val (.int (q + (1 : Int32))), .val (.int (0 : Int32)), .val (.int i), .val (.int (g i.toInt.toNat))]) rfl k) ?_
        refine own_via (T170.setTop (mkF m 63 #[.val (.ref p0), .val (.int p1), .val (.int (q + (1 : Int32))), .val (.int (0 : Int32)), .val (.int (i + (1 : Int32))), .val (.int (g i.toInt.toNat))] [])) (fun t k => XS.iinc X170.here hx rfl (hb hby d9_60) rfl (l' := #[.val (.ref p0), .val (.int p1), .val (.int (q + (1 : Int32))), .val (.int (0 : Int32)), .val (.int (i + (1 : Int32))), .val (.int (g i.toInt.toNat))]) rfl k) ?_
        refine own_via (T170.setTop (mkF m 7 #[.val (.ref p0), .val (.int p1), .val (.int (q + (1 : Int32))), .val (.int (0 : Int32)), .val (.int (i + (1 : Int32))), .val (.int (g i.toInt.toNat))] [])) (fun t k => XS.goto X170.here hx rfl (pc0 := 63) (pc' := 7) rfl (hb hby d9_63) (by decide) (by decide) k) ?_
        have F173 := (F1.other W170 (Or.inl hne))
        have F174 := (F2.other W170 (Or.inl hne))
        have F175 := (E1.wr W170)
        have hi1 := own_inc (i := i) (by omega)
        have hq1 := own_inc (i := q) (by omega)
        exact ih T170 h170 _ X170 e170 N170 K172 F173 F174 F175 (own_up g q.toInt.toNat (nar .char (g i.toInt.toNat))) V170 (i + (1 : Int32)) (q + (1 : Int32)) (0 : Int32) (.val (.int (g i.toInt.toNat))) (Or.inr ⟨_, rfl, rfl⟩) (by omega) (by omega) (by omega) ((own_colC hA).symm.trans hres)
  obtain ⟨k0, hk0⟩ : ∃ k : Nat, p1.toInt + k = 5 := ⟨(5 - p1.toInt).toNat, by omega⟩
  exact loop k0 s₁ h0 _ X0 e0 N0 (Keep.refl h0 [p0, r]) P0 P1 P2 f P3 p1 p1 (1 : Int32) .unset (Or.inl rfl) hp.1 (Int.le_refl _) hk0 (own_colx0 hk0)
def own_f10 (len : Int32) : Int32 := len
def own_Q10 (Z : State) (p0 : Addr) (len : Int32) (h0 : Heap) (n0 : Nat) (v : Option Value) (h : Heap) (L : List Loc) : Prop := v = some (.int (own_f10 len)) ∧ Fr n0 L ∧ h = h0
theorem d10_0 : decode prog_11_method_3_code 0 = .ok (.aload_n 0, 1) := by decide +kernel
theorem d10_1 : decode prog_11_method_3_code 1 = .ok (.getfield 19, 3) := by decide +kernel
theorem d10_4 : decode prog_11_method_3_code 4 = .ok (.ireturn, 1) := by decide +kernel
theorem ef_10 (m : MethodId) (p0 : Addr) : entryFrame m #[(.ref p0)] 1 = mkF m 0 #[.val (.ref p0)] [] := by first | (simp [entryFrame, mkF, argsToLocals, Value.category]; done) | rfl
set_option maxRecDepth 65536 in
set_option maxHeartbeats 40000000 in
theorem rm10 (l : Launch) (Z : State) (a0 : Array Value) (hw : ∀ d ∈ tables_1, d.before a0 Z = true) (ws : List Jvm.Cond) (p0 : Addr) (h0 : Heap) (n0 : Nat) (Z0 : n0 ≤ h0.size) (len : Int32) (P0 : Fld Z h0 p0 "com/example/honeyguide/honeyguide/Chars" "length" "I" (.int len)) :
    MetFree l (⟨"com/example/honeyguide/honeyguide/Chars", "length", "()I"⟩ : MethodName) (head1 (Jvm.Cond.code (⟨"com/example/honeyguide/honeyguide/Chars", "length", "()I"⟩ : MethodName) prog_11_method_3_code 1 (some .int) :: ws) ({ frames := 0, cells := 0, slots := 0, locals := 0 } : Room)) (fun a U => a = #[(.ref p0)] ∧ Z.Warmed39 U.vm ∧ U.heap = h0) (fun _ _ _ _ _ => True) (fun _ U o U' => ∃ v L, o = .returned v ∧ (own_Q10 Z p0 len h0 n0) v U'.heap L ∧ FrameEnd U o U' L ({ frames := 0, cells := 0, slots := 0, locals := 0 } : Room).cells ({ frames := 0, cells := 0, slots := 0, locals := 0 } : Room).slots) := by
  refine MetFree.of_bodySF (plainFor_of_name pn_com_example_honeyguide_honeyguide_Chars) hisR ?_
  intro p e s m args below meth c s₁ Bd hml0 hP hK
  obtain ⟨rfl, hZ, hh⟩ := hP
  have hx := Bd.exec
  have hby := Bd.bytes
  have hml : c.maxLocals = 1 := hml0
  have hown : s.vm.findClass "com/example/honeyguide/honeyguide/Chars" = some m.cls := findClass_of_methodNamed Bd.named
  have hnm := (name_of_methodNamed Bd.named Bd.method).1
  have X0 : Stand p l e ({ frames := 0, cells := 0, slots := 0, locals := 0 } : Room) s m #[(.ref p0)] below meth c s₁ [] 0 0 := Stand.of_body Bd
  have e0 : s₁.heap = h0 := by rw [← hh, Bd.state]; rfl
  have N0 := Fr.nil n0
  refine own_body (QQ := (own_Q10 Z p0 len h0 n0)) (ef_10 m p0) ?_
  refine own_via (s₁.setTop (mkF m 1 #[.val (.ref p0)] [(.ref p0)])) (fun t k => XS.aloadN X0.here hx rfl (hb hby d10_0) rfl rfl k) ?_
  obtain ⟨T177, X177, e177, st177⟩ := getF X0 hx hZ hown (host := "") (Or.inl (hw _ (List.mem_of_getElem? (i := 36) rfl))) Via.refl e0 P0 (g := (mkF m 1 #[.val (.ref p0)] [(.ref p0)])) rfl rfl (hb hby d10_1)
  refine own_via (T177.setTop (mkF m 4 #[.val (.ref p0)] [(.int len)])) (fun t k => st177 t k) ?_
  refine own_leave X177 Bd.notSynchronized (v := some (.int len)) (fun h => by rw [Bd.returns] at h; cases h) (fun fs hr => retI X177 hx Bd.returns (hb hby d10_4) hr) ?_ (by decide) (by decide)
  exact ⟨(by show some (Value.int _) = some (Value.int _); unfold own_f10; rfl), N0, e177⟩
def own_Q11 (Z : State) (p0 : Addr) (r : Addr) (h0 : Heap) (n0 : Nat) (v : Option Value) (h : Heap) (L : List Loc) : Prop := v = some (.ref r) ∧ Fr n0 L ∧ h = h0
theorem d11_0 : decode prog_11_method_2_code 0 = .ok (.aload_n 0, 1) := by decide +kernel
theorem d11_1 : decode prog_11_method_2_code 1 = .ok (.getfield 15, 3) := by decide +kernel
theorem d11_4 : decode prog_11_method_2_code 4 = .ok (.areturn, 1) := by decide +kernel
theorem ef_11 (m : MethodId) (p0 : Addr) : entryFrame m #[(.ref p0)] 1 = mkF m 0 #[.val (.ref p0)] [] := by first | (simp [entryFrame, mkF, argsToLocals, Value.category]; done) | rfl
set_option maxRecDepth 65536 in
set_option maxHeartbeats 40000000 in
theorem rm11 (l : Launch) (Z : State) (a0 : Array Value) (hw : ∀ d ∈ tables_1, d.before a0 Z = true) (ws : List Jvm.Cond) (p0 : Addr) (h0 : Heap) (n0 : Nat) (Z0 : n0 ≤ h0.size) (r : Addr) (P0 : Fld Z h0 p0 "com/example/honeyguide/honeyguide/Chars" "chars" "[C" (.ref r)) :
    MetFree l (⟨"com/example/honeyguide/honeyguide/Chars", "chars", "()[C"⟩ : MethodName) (head1 (Jvm.Cond.code (⟨"com/example/honeyguide/honeyguide/Chars", "chars", "()[C"⟩ : MethodName) prog_11_method_2_code 1 (some (.array .char)) :: ws) ({ frames := 0, cells := 0, slots := 0, locals := 0 } : Room)) (fun a U => a = #[(.ref p0)] ∧ Z.Warmed39 U.vm ∧ U.heap = h0) (fun _ _ _ _ _ => True) (fun _ U o U' => ∃ v L, o = .returned v ∧ (own_Q11 Z p0 r h0 n0) v U'.heap L ∧ FrameEnd U o U' L ({ frames := 0, cells := 0, slots := 0, locals := 0 } : Room).cells ({ frames := 0, cells := 0, slots := 0, locals := 0 } : Room).slots) := by
  refine MetFree.of_bodySF (plainFor_of_name pn_com_example_honeyguide_honeyguide_Chars) hisR ?_
  intro p e s m args below meth c s₁ Bd hml0 hP hK
  obtain ⟨rfl, hZ, hh⟩ := hP
  have hx := Bd.exec
  have hby := Bd.bytes
  have hml : c.maxLocals = 1 := hml0
  have hown : s.vm.findClass "com/example/honeyguide/honeyguide/Chars" = some m.cls := findClass_of_methodNamed Bd.named
  have hnm := (name_of_methodNamed Bd.named Bd.method).1
  have X0 : Stand p l e ({ frames := 0, cells := 0, slots := 0, locals := 0 } : Room) s m #[(.ref p0)] below meth c s₁ [] 0 0 := Stand.of_body Bd
  have e0 : s₁.heap = h0 := by rw [← hh, Bd.state]; rfl
  have N0 := Fr.nil n0
  refine own_body (QQ := (own_Q11 Z p0 r h0 n0)) (ef_11 m p0) ?_
  refine own_via (s₁.setTop (mkF m 1 #[.val (.ref p0)] [(.ref p0)])) (fun t k => XS.aloadN X0.here hx rfl (hb hby d11_0) rfl rfl k) ?_
  obtain ⟨T178, X178, e178, st178⟩ := getF X0 hx hZ hown (host := "") (Or.inl (hw _ (List.mem_of_getElem? (i := 25) rfl))) Via.refl e0 P0 (g := (mkF m 1 #[.val (.ref p0)] [(.ref p0)])) rfl rfl (hb hby d11_1)
  refine own_via (T178.setTop (mkF m 4 #[.val (.ref p0)] [(.ref r)])) (fun t k => st178 t k) ?_
  refine own_leave X178 Bd.notSynchronized (v := some (.ref r)) (fun h => by rw [Bd.returns] at h; cases h) (fun fs hr => retOut X178 hx Bd.returns rfl (Or.inr (Or.inr (Or.inr (Or.inr ⟨rfl, rfl, rfl⟩)))) (hb hby d11_4) hr) ?_ (by decide) (by decide)
  exact ⟨rfl, N0, e178⟩
def own_f12 (p2 : Int32) (p3 : Int32) (N : Nat) (f : Nat → Int32) (e_ : Nat → Int32) : Int32 := (if p3 < p2 then (if (f p3.toInt.toNat) = (e_ p3.toInt.toNat) then (1 : Int32) else (0 : Int32)) else (1 : Int32))
def own_Q12 (Z : State) (p0 : Addr) (p1 : Addr) (p2 : Int32) (p3 : Int32) (N : Nat) (f : Nat → Int32) (e_ : Nat → Int32) (h0 : Heap) (n0 : Nat) (v : Option Value) (h : Heap) (L : List Loc) : Prop := v = some (.int (own_f12 p2 p3 N f e_)) ∧ Fr n0 L ∧ h = h0
theorem d12_0 : decode method_6_code 0 = .ok (.iload_n 3, 1) := by decide +kernel
theorem d12_1 : decode method_6_code 1 = .ok (.iload_n 2, 1) := by decide +kernel
theorem d12_2 : decode method_6_code 2 = .ok (.if_icmp .ge 12, 3) := by decide +kernel
theorem d12_5 : decode method_6_code 5 = .ok (.aload_n 0, 1) := by decide +kernel
theorem d12_6 : decode method_6_code 6 = .ok (.iload_n 3, 1) := by decide +kernel
theorem d12_7 : decode method_6_code 7 = .ok (.caload, 1) := by decide +kernel
theorem d12_8 : decode method_6_code 8 = .ok (.aload_n 1, 1) := by decide +kernel
theorem d12_9 : decode method_6_code 9 = .ok (.iload_n 3, 1) := by decide +kernel
theorem d12_10 : decode method_6_code 10 = .ok (.caload, 1) := by decide +kernel
theorem d12_11 : decode method_6_code 11 = .ok (.if_icmp .ne 7, 3) := by decide +kernel
theorem d12_14 : decode method_6_code 14 = .ok (.iconst 1, 1) := by decide +kernel
theorem d12_15 : decode method_6_code 15 = .ok (.goto 4, 3) := by decide +kernel
theorem d12_18 : decode method_6_code 18 = .ok (.iconst 0, 1) := by decide +kernel
theorem d12_19 : decode method_6_code 19 = .ok (.ireturn, 1) := by decide +kernel
theorem ef_12 (m : MethodId) (p0 : Addr) (p1 : Addr) (p2 : Int32) (p3 : Int32) : entryFrame m #[(.ref p0), (.ref p1), (.int p2), (.int p3)] 4 = mkF m 0 #[.val (.ref p0), .val (.ref p1), .val (.int p2), .val (.int p3)] [] := by first | (simp [entryFrame, mkF, argsToLocals, Value.category]; done) | rfl
set_option maxRecDepth 65536 in
set_option maxHeartbeats 40000000 in
theorem rm12 (l : Launch) (Z : State) (a0 : Array Value) (hw : ∀ d ∈ tables_1, d.before a0 Z = true) (ws : List Jvm.Cond) (p0 : Addr) (p1 : Addr) (p2 : Int32) (p3 : Int32) (h0 : Heap) (n0 : Nat) (Z0 : n0 ≤ h0.size) (N : Nat) (f : Nat → Int32) (e_ : Nat → Int32) (P0 : own_A Z h0 p0 .char N f) (P1 : own_A Z h0 p1 .char 5 e_) (hp : 0 ≤ p3.toInt ∧ p3.toInt < 5) (hN : 16 ≤ N ∧ N ≤ 31) :
    MetFree l (⟨"com/example/honeyguide/honeyguide/CharsCollapseSpacesPinLaw", "same", "([C[CII)Z"⟩ : MethodName) (head1 (Jvm.Cond.code (⟨"com/example/honeyguide/honeyguide/CharsCollapseSpacesPinLaw", "same", "([C[CII)Z"⟩ : MethodName) method_6_code 4 (some .boolean) :: ws) ({ frames := 0, cells := 0, slots := 0, locals := 0 } : Room)) (fun a U => a = #[(.ref p0), (.ref p1), (.int p2), (.int p3)] ∧ Z.Warmed39 U.vm ∧ U.heap = h0) (fun _ _ _ _ _ => True) (fun _ U o U' => ∃ v L, o = .returned v ∧ (own_Q12 Z p0 p1 p2 p3 N f e_ h0 n0) v U'.heap L ∧ FrameEnd U o U' L ({ frames := 0, cells := 0, slots := 0, locals := 0 } : Room).cells ({ frames := 0, cells := 0, slots := 0, locals := 0 } : Room).slots) := by
  refine MetFree.of_bodySF (plainFor_of_name pn_com_example_honeyguide_honeyguide_CharsCollapseSpacesPinLaw) hisR ?_
  intro p e s m args below meth c s₁ Bd hml0 hP hK
  obtain ⟨rfl, hZ, hh⟩ := hP
  have hx := Bd.exec
  have hby := Bd.bytes
  have hml : c.maxLocals = 4 := hml0
  have hown : s.vm.findClass "com/example/honeyguide/honeyguide/CharsCollapseSpacesPinLaw" = some m.cls := findClass_of_methodNamed Bd.named
  have hnm := (name_of_methodNamed Bd.named Bd.method).1
  have X0 : Stand p l e ({ frames := 0, cells := 0, slots := 0, locals := 0 } : Room) s m #[(.ref p0), (.ref p1), (.int p2), (.int p3)] below meth c s₁ [] 0 0 := Stand.of_body Bd
  have e0 : s₁.heap = h0 := by rw [← hh, Bd.state]; rfl
  have N0 := Fr.nil n0
  refine own_body (QQ := (own_Q12 Z p0 p1 p2 p3 N f e_ h0 n0)) (ef_12 m p0 p1 p2 p3) ?_
  refine own_via (s₁.setTop (mkF m 1 #[.val (.ref p0), .val (.ref p1), .val (.int p2), .val (.int p3)] [(.int p3)])) (fun t k => XS.iloadN X0.here hx rfl (hb hby d12_0) rfl  k) ?_
  refine own_via (s₁.setTop (mkF m 2 #[.val (.ref p0), .val (.ref p1), .val (.int p2), .val (.int p3)] [(.int p2), (.int p3)])) (fun t k => XS.iloadN X0.here hx rfl (hb hby d12_1) rfl  k) ?_
  by_cases hc2_185 : p3 < p2
  · refine own_via (s₁.setTop (mkF m 5 #[.val (.ref p0), .val (.ref p1), .val (.int p2), .val (.int p3)] [])) (fun t k => XS.icmpNo X0.here hx rfl (hb hby d12_2) rfl (tlt hc2_185).2.1 k) ?_
    refine own_via (s₁.setTop (mkF m 6 #[.val (.ref p0), .val (.ref p1), .val (.int p2), .val (.int p3)] [(.ref p0)])) (fun t k => XS.aloadN X0.here hx rfl (hb hby d12_5) rfl rfl k) ?_
    refine own_via (s₁.setTop (mkF m 7 #[.val (.ref p0), .val (.ref p1), .val (.int p2), .val (.int p3)] [(.int p3), (.ref p0)])) (fun t k => XS.iloadN X0.here hx rfl (hb hby d12_6) rfl  k) ?_
    obtain ⟨cl187, Ar187, S187, H187⟩ := id P0
    refine own_via (s₁.setTop (mkF m 8 #[.val (.ref p0), .val (.ref p1), .val (.int p2), .val (.int p3)] [(.int (f p3.toInt.toNat))])) (fun t k => X0.caload hx (j := p3) (v := (.int (f p3.toInt.toNat))) (by rw [e0]; exact Ar187.1) (State.isArrayOf_alike hZ.alike Ar187.2.1) Ar187.2.2 (own_in S187 (own_jN hp hN)) (own_at H187 (own_jN hp hN)) (g := (mkF m 7 #[.val (.ref p0), .val (.ref p1), .val (.int p2), .val (.int p3)] [(.int p3), (.ref p0)])) rfl rfl (hb hby d12_7) _ k) ?_
    refine own_via (s₁.setTop (mkF m 9 #[.val (.ref p0), .val (.ref p1), .val (.int p2), .val (.int p3)] [(.ref p1), (.int (f p3.toInt.toNat))])) (fun t k => XS.aloadN X0.here hx rfl (hb hby d12_8) rfl rfl k) ?_
    refine own_via (s₁.setTop (mkF m 10 #[.val (.ref p0), .val (.ref p1), .val (.int p2), .val (.int p3)] [(.int p3), (.ref p1), (.int (f p3.toInt.toNat))])) (fun t k => XS.iloadN X0.here hx rfl (hb hby d12_9) rfl  k) ?_
    obtain ⟨cl189, Ar189, S189, H189⟩ := id P1
    refine own_via (s₁.setTop (mkF m 11 #[.val (.ref p0), .val (.ref p1), .val (.int p2), .val (.int p3)] [(.int (e_ p3.toInt.toNat)), (.int (f p3.toInt.toNat))])) (fun t k => X0.caload hx (j := p3) (v := (.int (e_ p3.toInt.toNat))) (by rw [e0]; exact Ar189.1) (State.isArrayOf_alike hZ.alike Ar189.2.1) Ar189.2.2 (own_in S189 hp) (own_at H189 hp) (g := (mkF m 10 #[.val (.ref p0), .val (.ref p1), .val (.int p2), .val (.int p3)] [(.int p3), (.ref p1), (.int (f p3.toInt.toNat))])) rfl rfl (hb hby d12_10) _ k) ?_
    by_cases hc11_190 : (f p3.toInt.toNat) = (e_ p3.toInt.toNat)
    · refine own_via (s₁.setTop (mkF m 14 #[.val (.ref p0), .val (.ref p1), .val (.int p2), .val (.int p3)] [])) (fun t k => XS.icmpNo X0.here hx rfl (hb hby d12_11) rfl (teq hc11_190).2 k) ?_
      refine own_via (s₁.setTop (mkF m 15 #[.val (.ref p0), .val (.ref p1), .val (.int p2), .val (.int p3)] [(.int (1 : Int32))])) (fun t k => XS.iconst X0.here hx rfl (hb hby d12_14) k) ?_
      refine own_via (s₁.setTop (mkF m 19 #[.val (.ref p0), .val (.ref p1), .val (.int p2), .val (.int p3)] [(.int (1 : Int32))])) (fun t k => XS.goto X0.here hx rfl (pc0 := 15) (pc' := 19) rfl (hb hby d12_15) (by decide) (by decide) k) ?_
      refine own_leave X0 Bd.notSynchronized (v := some (.int (1 : Int32))) (fun h => by rw [Bd.returns] at h; cases h) (fun fs hr => retN X0 hx (t := .boolean) Bd.returns (by simp) (hb hby d12_19) hr) ?_ (by decide) (by decide)
      exact ⟨(by show some (Value.int _) = some (Value.int _); unfold own_f12; rw [if_pos hc2_185, if_pos hc11_190]), N0, e0⟩
    · refine own_via (s₁.setTop (mkF m 18 #[.val (.ref p0), .val (.ref p1), .val (.int p2), .val (.int p3)] [])) (fun t k => XS.icmpYes X0.here hx rfl (pc0 := 11) (pc' := 18) rfl (hb hby d12_11) rfl (feq hc11_190).2 (by decide) (by decide) k) ?_
      refine own_via (s₁.setTop (mkF m 19 #[.val (.ref p0), .val (.ref p1), .val (.int p2), .val (.int p3)] [(.int (0 : Int32))])) (fun t k => XS.iconst X0.here hx rfl (hb hby d12_18) k) ?_
      refine own_leave X0 Bd.notSynchronized (v := some (.int (0 : Int32))) (fun h => by rw [Bd.returns] at h; cases h) (fun fs hr => retN X0 hx (t := .boolean) Bd.returns (by simp) (hb hby d12_19) hr) ?_ (by decide) (by decide)
      exact ⟨(by show some (Value.int _) = some (Value.int _); unfold own_f12; rw [if_pos hc2_185, if_neg hc11_190]), N0, e0⟩
  · refine own_via (s₁.setTop (mkF m 14 #[.val (.ref p0), .val (.ref p1), .val (.int p2), .val (.int p3)] [])) (fun t k => XS.icmpYes X0.here hx rfl (pc0 := 2) (pc' := 14) rfl (hb hby d12_2) rfl (flt hc2_185).2.1 (by decide) (by decide) k) ?_
    refine own_via (s₁.setTop (mkF m 15 #[.val (.ref p0), .val (.ref p1), .val (.int p2), .val (.int p3)] [(.int (1 : Int32))])) (fun t k => XS.iconst X0.here hx rfl (hb hby d12_14) k) ?_
    refine own_via (s₁.setTop (mkF m 19 #[.val (.ref p0), .val (.ref p1), .val (.int p2), .val (.int p3)] [(.int (1 : Int32))])) (fun t k => XS.goto X0.here hx rfl (pc0 := 15) (pc' := 19) rfl (hb hby d12_15) (by decide) (by decide) k) ?_
    refine own_leave X0 Bd.notSynchronized (v := some (.int (1 : Int32))) (fun h => by rw [Bd.returns] at h; cases h) (fun fs hr => retN X0 hx (t := .boolean) Bd.returns (by simp) (hb hby d12_19) hr) ?_ (by decide) (by decide)
    exact ⟨(by show some (Value.int _) = some (Value.int _); unfold own_f12; rw [if_neg hc2_185]), N0, e0⟩
theorem own_sb {b s : Int32} (h : s = ((b &&& (2147483647 : Int32)) % (6 : Int32))) : 0 ≤ s.toInt ∧ s.toInt ≤ 5 := by
  have a := (c_and b (2147483647 : Int32) (by decide)).1
  have m := (c_irem (b &&& (2147483647 : Int32)) (6 : Int32) 6 rfl).1 a
  rw [← h] at m
  omega
theorem own_rb {b r : Int32} (h : r = ((b.toUInt32 >>> ((27 : Int32) &&& 31).toUInt32).toInt32)) : 0 ≤ r.toInt ∧ r.toInt ≤ 31 := by
  have := c_iushr b (27 : Int32) 27 (by decide) (by decide)
  rw [← h] at this
  omega
theorem own_nn (x : Int32) : nar .char (nar .char x) = nar .char x := by
  apply Int32.toInt_inj.mp
  have a := c_i2c x; have b := c_i2c (x.toUInt32.toUInt16.toUInt32.toInt32)
  show (x.toUInt32.toUInt16.toUInt32.toInt32).toUInt32.toUInt16.toUInt32.toInt32.toInt = x.toUInt32.toUInt16.toUInt32.toInt32.toInt
  omega
def own_arr (x0 x1 x2 x3 x4 : Int32) : Nat → Int32
  | 0 => x0 | 1 => x1 | 2 => x2 | 3 => x3 | 4 => x4 | _ => 0
theorem own_u0 (x0 x1 x2 x3 x4 v : Int32) : own_up (own_arr x0 x1 x2 x3 x4) 0 v = own_arr v x1 x2 x3 x4 := by funext i; unfold own_up; rcases i with _ | _ | _ | _ | _ | i <;> simp [own_arr]
theorem own_u1 (x0 x1 x2 x3 x4 v : Int32) : own_up (own_arr x0 x1 x2 x3 x4) 1 v = own_arr x0 v x2 x3 x4 := by funext i; unfold own_up; rcases i with _ | _ | _ | _ | _ | i <;> simp [own_arr]
theorem own_u2 (x0 x1 x2 x3 x4 v : Int32) : own_up (own_arr x0 x1 x2 x3 x4) 2 v = own_arr x0 x1 v x3 x4 := by funext i; unfold own_up; rcases i with _ | _ | _ | _ | _ | i <;> simp [own_arr]
theorem own_u3 (x0 x1 x2 x3 x4 v : Int32) : own_up (own_arr x0 x1 x2 x3 x4) 3 v = own_arr x0 x1 x2 v x4 := by funext i; unfold own_up; rcases i with _ | _ | _ | _ | _ | i <;> simp [own_arr]
theorem own_u4 (x0 x1 x2 x3 x4 v : Int32) : own_up (own_arr x0 x1 x2 x3 x4) 4 v = own_arr x0 x1 x2 x3 v := by funext i; unfold own_up; rcases i with _ | _ | _ | _ | _ | i <;> simp [own_arr]
theorem own_z : (fun _ => (0 : Int32)) = own_arr 0 0 0 0 0 := by funext i; rcases i with _ | _ | _ | _ | _ | i <;> rfl
theorem own_same {n j : Int32} {N : Nat} {f e : Nat → Int32} (h : ¬ j < n ∨ f j.toInt.toNat = e j.toInt.toNat) : ¬ own_f12 n j N f e = 0 := by
  unfold own_f12
  rcases h with h | h
  · rw [if_neg h]; decide
  · by_cases c : j < n
    · rw [if_pos c, if_pos h]; decide
    · rw [if_neg c]; decide
theorem own_lw (x0 x1 x2 x3 x4 : Int32) : own_f13 0 (own_arr x0 x1 x2 x3 x4) = (if x1 = 32 then (if x2 = 32 then (if x3 = 32 then (if x4 = 32 then 0 else 1) else 1) else 1) else 1) := rfl
theorem own_lw1 (x0 x1 x2 x3 x4 : Int32) : own_f13 1 (own_arr x0 x1 x2 x3 x4) = (if x2 = 32 then (if x3 = 32 then (if x4 = 32 then 0 else 1) else 1) else 1) := rfl
theorem own_lw2 (x0 x1 x2 x3 x4 : Int32) : own_f13 2 (own_arr x0 x1 x2 x3 x4) = (if x3 = 32 then (if x4 = 32 then 0 else 1) else 1) := rfl
theorem own_lw3 (x0 x1 x2 x3 x4 : Int32) : own_f13 3 (own_arr x0 x1 x2 x3 x4) = (if x4 = 32 then 0 else 1) := rfl
theorem own_lw4 (x0 x1 x2 x3 x4 : Int32) : own_f13 4 (own_arr x0 x1 x2 x3 x4) = 0 := rfl
theorem own_nb0 : nar .boolean (0 : Int32) = 0 := rfl
theorem own_nb1 : nar .boolean (1 : Int32) = 1 := rfl
theorem own_n32 : nar .char (32 : Int32) = 32 := rfl
theorem own_main0 (x0 x1 x2 x3 x4 : Int32) (h0 : nar .char x0 = x0) (h1 : nar .char x1 = x1) (h2 : nar .char x2 = x2) (h3 : nar .char x3 = x3) (h4 : nar .char x4 = x4) (e1 e2 e3 e4 e5 : Nat → Int32) (n1 n2 n3 n4 n5 : Int32) (E1 : e1 = own_pe (own_arr 0 0 0 0 0) (own_arr x0 x1 x2 x3 x4) 0 0 0) (N1 : n1 = own_pn (own_arr x0 x1 x2 x3 x4) 0 0 0) (E2 : e2 = own_pe e1 (own_arr x0 x1 x2 x3 x4) n1 0 1) (N2 : n2 = own_pn (own_arr x0 x1 x2 x3 x4) n1 0 1) (E3 : e3 = own_pe e2 (own_arr x0 x1 x2 x3 x4) n2 0 2) (N3 : n3 = own_pn (own_arr x0 x1 x2 x3 x4) n2 0 2) (E4 : e4 = own_pe e3 (own_arr x0 x1 x2 x3 x4) n3 0 3) (N4 : n4 = own_pn (own_arr x0 x1 x2 x3 x4) n3 0 3) (E5 : e5 = own_pe e4 (own_arr x0 x1 x2 x3 x4) n4 0 4) (N5 : n5 = own_pn (own_arr x0 x1 x2 x3 x4) n4 0 4) :
    own_cl 0 (own_colx 0 (own_arr x0 x1 x2 x3 x4)) = n5 ∧ (¬ (0 : Int32) < n5 ∨ (own_colx 0 (own_arr x0 x1 x2 x3 x4)).1 0 = e5 0) ∧ (¬ (1 : Int32) < n5 ∨ (own_colx 0 (own_arr x0 x1 x2 x3 x4)).1 1 = e5 1) ∧ (¬ (2 : Int32) < n5 ∨ (own_colx 0 (own_arr x0 x1 x2 x3 x4)).1 2 = e5 2) ∧ (¬ (3 : Int32) < n5 ∨ (own_colx 0 (own_arr x0 x1 x2 x3 x4)).1 3 = e5 3) ∧ (¬ (4 : Int32) < n5 ∨ (own_colx 0 (own_arr x0 x1 x2 x3 x4)).1 4 = e5 4) := by
  have hc : own_colx 0 (own_arr x0 x1 x2 x3 x4) = own_col 5 (own_arr x0 x1 x2 x3 x4) 0 1 0 := rfl
  rw [hc]
  by_cases q0 : x0 = 32 <;> by_cases q1 : x1 = 32 <;> by_cases q2 : x2 = 32 <;> by_cases q3 : x3 = 32 <;> by_cases q4 : x4 = 32
  all_goals
    simp [own_pk, own_f3, own_lw, own_lw1, own_lw2, own_lw3, own_lw4, own_arr, q0, q1, q2, q3, q4, h0, h1, h2, h3, h4, own_nb0, own_nb1, own_n32, own_pe, own_pn, own_u0, own_u1, own_u2, own_u3, own_u4] at N1 E1
    subst N1 E1
    simp [own_pk, own_f3, own_lw, own_lw1, own_lw2, own_lw3, own_lw4, own_arr, q0, q1, q2, q3, q4, h0, h1, h2, h3, h4, own_nb0, own_nb1, own_n32, own_pe, own_pn, own_u0, own_u1, own_u2, own_u3, own_u4] at N2 E2
    subst N2 E2
    simp [own_pk, own_f3, own_lw, own_lw1, own_lw2, own_lw3, own_lw4, own_arr, q0, q1, q2, q3, q4, h0, h1, h2, h3, h4, own_nb0, own_nb1, own_n32, own_pe, own_pn, own_u0, own_u1, own_u2, own_u3, own_u4] at N3 E3
    subst N3 E3
    simp [own_pk, own_f3, own_lw, own_lw1, own_lw2, own_lw3, own_lw4, own_arr, q0, q1, q2, q3, q4, h0, h1, h2, h3, h4, own_nb0, own_nb1, own_n32, own_pe, own_pn, own_u0, own_u1, own_u2, own_u3, own_u4] at N4 E4
    subst N4 E4
    simp [own_pk, own_f3, own_lw, own_lw1, own_lw2, own_lw3, own_lw4, own_arr, q0, q1, q2, q3, q4, h0, h1, h2, h3, h4, own_nb0, own_nb1, own_n32, own_pe, own_pn, own_u0, own_u1, own_u2, own_u3, own_u4] at N5 E5
    subst N5 E5
    simp [own_cl, own_col, own_pk, own_f3, own_lw, own_lw1, own_lw2, own_lw3, own_lw4, own_arr, q0, q1, q2, q3, q4, h0, h1, h2, h3, h4, own_nb0, own_nb1, own_n32, own_pe, own_pn, own_u0, own_u1, own_u2, own_u3, own_u4]
theorem own_main1 (x0 x1 x2 x3 x4 : Int32) (h0 : nar .char x0 = x0) (h1 : nar .char x1 = x1) (h2 : nar .char x2 = x2) (h3 : nar .char x3 = x3) (h4 : nar .char x4 = x4) (e1 e2 e3 e4 e5 : Nat → Int32) (n1 n2 n3 n4 n5 : Int32) (E1 : e1 = own_pe (own_arr 0 0 0 0 0) (own_arr x0 x1 x2 x3 x4) 0 1 0) (N1 : n1 = own_pn (own_arr x0 x1 x2 x3 x4) 0 1 0) (E2 : e2 = own_pe e1 (own_arr x0 x1 x2 x3 x4) n1 1 1) (N2 : n2 = own_pn (own_arr x0 x1 x2 x3 x4) n1 1 1) (E3 : e3 = own_pe e2 (own_arr x0 x1 x2 x3 x4) n2 1 2) (N3 : n3 = own_pn (own_arr x0 x1 x2 x3 x4) n2 1 2) (E4 : e4 = own_pe e3 (own_arr x0 x1 x2 x3 x4) n3 1 3) (N4 : n4 = own_pn (own_arr x0 x1 x2 x3 x4) n3 1 3) (E5 : e5 = own_pe e4 (own_arr x0 x1 x2 x3 x4) n4 1 4) (N5 : n5 = own_pn (own_arr x0 x1 x2 x3 x4) n4 1 4) :
    own_cl 1 (own_colx 1 (own_arr x0 x1 x2 x3 x4)) = n5 ∧ (¬ (0 : Int32) < n5 ∨ (own_colx 1 (own_arr x0 x1 x2 x3 x4)).1 0 = e5 0) ∧ (¬ (1 : Int32) < n5 ∨ (own_colx 1 (own_arr x0 x1 x2 x3 x4)).1 1 = e5 1) ∧ (¬ (2 : Int32) < n5 ∨ (own_colx 1 (own_arr x0 x1 x2 x3 x4)).1 2 = e5 2) ∧ (¬ (3 : Int32) < n5 ∨ (own_colx 1 (own_arr x0 x1 x2 x3 x4)).1 3 = e5 3) ∧ (¬ (4 : Int32) < n5 ∨ (own_colx 1 (own_arr x0 x1 x2 x3 x4)).1 4 = e5 4) := by
  have hc : own_colx 1 (own_arr x0 x1 x2 x3 x4) = own_col 4 (own_arr x0 x1 x2 x3 x4) 1 1 1 := rfl
  rw [hc]
  by_cases q0 : x0 = 32 <;> by_cases q1 : x1 = 32 <;> by_cases q2 : x2 = 32 <;> by_cases q3 : x3 = 32 <;> by_cases q4 : x4 = 32
  all_goals
    simp [own_pk, own_f3, own_lw, own_lw1, own_lw2, own_lw3, own_lw4, own_arr, q0, q1, q2, q3, q4, h0, h1, h2, h3, h4, own_nb0, own_nb1, own_n32, own_pe, own_pn, own_u0, own_u1, own_u2, own_u3, own_u4] at N1 E1
    subst N1 E1
    simp [own_pk, own_f3, own_lw, own_lw1, own_lw2, own_lw3, own_lw4, own_arr, q0, q1, q2, q3, q4, h0, h1, h2, h3, h4, own_nb0, own_nb1, own_n32, own_pe, own_pn, own_u0, own_u1, own_u2, own_u3, own_u4] at N2 E2
    subst N2 E2
    simp [own_pk, own_f3, own_lw, own_lw1, own_lw2, own_lw3, own_lw4, own_arr, q0, q1, q2, q3, q4, h0, h1, h2, h3, h4, own_nb0, own_nb1, own_n32, own_pe, own_pn, own_u0, own_u1, own_u2, own_u3, own_u4] at N3 E3
    subst N3 E3
    simp [own_pk, own_f3, own_lw, own_lw1, own_lw2, own_lw3, own_lw4, own_arr, q0, q1, q2, q3, q4, h0, h1, h2, h3, h4, own_nb0, own_nb1, own_n32, own_pe, own_pn, own_u0, own_u1, own_u2, own_u3, own_u4] at N4 E4
    subst N4 E4
    simp [own_pk, own_f3, own_lw, own_lw1, own_lw2, own_lw3, own_lw4, own_arr, q0, q1, q2, q3, q4, h0, h1, h2, h3, h4, own_nb0, own_nb1, own_n32, own_pe, own_pn, own_u0, own_u1, own_u2, own_u3, own_u4] at N5 E5
    subst N5 E5
    simp [own_cl, own_col, own_pk, own_f3, own_lw, own_lw1, own_lw2, own_lw3, own_lw4, own_arr, q0, q1, q2, q3, q4, h0, h1, h2, h3, h4, own_nb0, own_nb1, own_n32, own_pe, own_pn, own_u0, own_u1, own_u2, own_u3, own_u4]
theorem own_main2 (x0 x1 x2 x3 x4 : Int32) (h0 : nar .char x0 = x0) (h1 : nar .char x1 = x1) (h2 : nar .char x2 = x2) (h3 : nar .char x3 = x3) (h4 : nar .char x4 = x4) (e1 e2 e3 e4 e5 : Nat → Int32) (n1 n2 n3 n4 n5 : Int32) (E1 : e1 = own_pe (own_arr 0 0 0 0 0) (own_arr x0 x1 x2 x3 x4) 0 2 0) (N1 : n1 = own_pn (own_arr x0 x1 x2 x3 x4) 0 2 0) (E2 : e2 = own_pe e1 (own_arr x0 x1 x2 x3 x4) n1 2 1) (N2 : n2 = own_pn (own_arr x0 x1 x2 x3 x4) n1 2 1) (E3 : e3 = own_pe e2 (own_arr x0 x1 x2 x3 x4) n2 2 2) (N3 : n3 = own_pn (own_arr x0 x1 x2 x3 x4) n2 2 2) (E4 : e4 = own_pe e3 (own_arr x0 x1 x2 x3 x4) n3 2 3) (N4 : n4 = own_pn (own_arr x0 x1 x2 x3 x4) n3 2 3) (E5 : e5 = own_pe e4 (own_arr x0 x1 x2 x3 x4) n4 2 4) (N5 : n5 = own_pn (own_arr x0 x1 x2 x3 x4) n4 2 4) :
    own_cl 2 (own_colx 2 (own_arr x0 x1 x2 x3 x4)) = n5 ∧ (¬ (0 : Int32) < n5 ∨ (own_colx 2 (own_arr x0 x1 x2 x3 x4)).1 0 = e5 0) ∧ (¬ (1 : Int32) < n5 ∨ (own_colx 2 (own_arr x0 x1 x2 x3 x4)).1 1 = e5 1) ∧ (¬ (2 : Int32) < n5 ∨ (own_colx 2 (own_arr x0 x1 x2 x3 x4)).1 2 = e5 2) ∧ (¬ (3 : Int32) < n5 ∨ (own_colx 2 (own_arr x0 x1 x2 x3 x4)).1 3 = e5 3) ∧ (¬ (4 : Int32) < n5 ∨ (own_colx 2 (own_arr x0 x1 x2 x3 x4)).1 4 = e5 4) := by
  have hc : own_colx 2 (own_arr x0 x1 x2 x3 x4) = own_col 3 (own_arr x0 x1 x2 x3 x4) 2 1 2 := rfl
  rw [hc]
  by_cases q0 : x0 = 32 <;> by_cases q1 : x1 = 32 <;> by_cases q2 : x2 = 32 <;> by_cases q3 : x3 = 32 <;> by_cases q4 : x4 = 32
  all_goals
    simp [own_pk, own_f3, own_lw, own_lw1, own_lw2, own_lw3, own_lw4, own_arr, q0, q1, q2, q3, q4, h0, h1, h2, h3, h4, own_nb0, own_nb1, own_n32, own_pe, own_pn, own_u0, own_u1, own_u2, own_u3, own_u4] at N1 E1
    subst N1 E1
    simp [own_pk, own_f3, own_lw, own_lw1, own_lw2, own_lw3, own_lw4, own_arr, q0, q1, q2, q3, q4, h0, h1, h2, h3, h4, own_nb0, own_nb1, own_n32, own_pe, own_pn, own_u0, own_u1, own_u2, own_u3, own_u4] at N2 E2
    subst N2 E2
    simp [own_pk, own_f3, own_lw, own_lw1, own_lw2, own_lw3, own_lw4, own_arr, q0, q1, q2, q3, q4, h0, h1, h2, h3, h4, own_nb0, own_nb1, own_n32, own_pe, own_pn, own_u0, own_u1, own_u2, own_u3, own_u4] at N3 E3
    subst N3 E3
    simp [own_pk, own_f3, own_lw, own_lw1, own_lw2, own_lw3, own_lw4, own_arr, q0, q1, q2, q3, q4, h0, h1, h2, h3, h4, own_nb0, own_nb1, own_n32, own_pe, own_pn, own_u0, own_u1, own_u2, own_u3, own_u4] at N4 E4
    subst N4 E4
    simp [own_pk, own_f3, own_lw, own_lw1, own_lw2, own_lw3, own_lw4, own_arr, q0, q1, q2, q3, q4, h0, h1, h2, h3, h4, own_nb0, own_nb1, own_n32, own_pe, own_pn, own_u0, own_u1, own_u2, own_u3, own_u4] at N5 E5
    subst N5 E5
    simp [own_cl, own_col, own_pk, own_f3, own_lw, own_lw1, own_lw2, own_lw3, own_lw4, own_arr, q0, q1, q2, q3, q4, h0, h1, h2, h3, h4, own_nb0, own_nb1, own_n32, own_pe, own_pn, own_u0, own_u1, own_u2, own_u3, own_u4]
theorem own_main3 (x0 x1 x2 x3 x4 : Int32) (h0 : nar .char x0 = x0) (h1 : nar .char x1 = x1) (h2 : nar .char x2 = x2) (h3 : nar .char x3 = x3) (h4 : nar .char x4 = x4) (e1 e2 e3 e4 e5 : Nat → Int32) (n1 n2 n3 n4 n5 : Int32) (E1 : e1 = own_pe (own_arr 0 0 0 0 0) (own_arr x0 x1 x2 x3 x4) 0 3 0) (N1 : n1 = own_pn (own_arr x0 x1 x2 x3 x4) 0 3 0) (E2 : e2 = own_pe e1 (own_arr x0 x1 x2 x3 x4) n1 3 1) (N2 : n2 = own_pn (own_arr x0 x1 x2 x3 x4) n1 3 1) (E3 : e3 = own_pe e2 (own_arr x0 x1 x2 x3 x4) n2 3 2) (N3 : n3 = own_pn (own_arr x0 x1 x2 x3 x4) n2 3 2) (E4 : e4 = own_pe e3 (own_arr x0 x1 x2 x3 x4) n3 3 3) (N4 : n4 = own_pn (own_arr x0 x1 x2 x3 x4) n3 3 3) (E5 : e5 = own_pe e4 (own_arr x0 x1 x2 x3 x4) n4 3 4) (N5 : n5 = own_pn (own_arr x0 x1 x2 x3 x4) n4 3 4) :
    own_cl 3 (own_colx 3 (own_arr x0 x1 x2 x3 x4)) = n5 ∧ (¬ (0 : Int32) < n5 ∨ (own_colx 3 (own_arr x0 x1 x2 x3 x4)).1 0 = e5 0) ∧ (¬ (1 : Int32) < n5 ∨ (own_colx 3 (own_arr x0 x1 x2 x3 x4)).1 1 = e5 1) ∧ (¬ (2 : Int32) < n5 ∨ (own_colx 3 (own_arr x0 x1 x2 x3 x4)).1 2 = e5 2) ∧ (¬ (3 : Int32) < n5 ∨ (own_colx 3 (own_arr x0 x1 x2 x3 x4)).1 3 = e5 3) ∧ (¬ (4 : Int32) < n5 ∨ (own_colx 3 (own_arr x0 x1 x2 x3 x4)).1 4 = e5 4) := by
  have hc : own_colx 3 (own_arr x0 x1 x2 x3 x4) = own_col 2 (own_arr x0 x1 x2 x3 x4) 3 1 3 := rfl
  rw [hc]
  by_cases q0 : x0 = 32 <;> by_cases q1 : x1 = 32 <;> by_cases q2 : x2 = 32 <;> by_cases q3 : x3 = 32 <;> by_cases q4 : x4 = 32
  all_goals
    simp [own_pk, own_f3, own_lw, own_lw1, own_lw2, own_lw3, own_lw4, own_arr, q0, q1, q2, q3, q4, h0, h1, h2, h3, h4, own_nb0, own_nb1, own_n32, own_pe, own_pn, own_u0, own_u1, own_u2, own_u3, own_u4] at N1 E1
    subst N1 E1
    simp [own_pk, own_f3, own_lw, own_lw1, own_lw2, own_lw3, own_lw4, own_arr, q0, q1, q2, q3, q4, h0, h1, h2, h3, h4, own_nb0, own_nb1, own_n32, own_pe, own_pn, own_u0, own_u1, own_u2, own_u3, own_u4] at N2 E2
    subst N2 E2
    simp [own_pk, own_f3, own_lw, own_lw1, own_lw2, own_lw3, own_lw4, own_arr, q0, q1, q2, q3, q4, h0, h1, h2, h3, h4, own_nb0, own_nb1, own_n32, own_pe, own_pn, own_u0, own_u1, own_u2, own_u3, own_u4] at N3 E3
    subst N3 E3
    simp [own_pk, own_f3, own_lw, own_lw1, own_lw2, own_lw3, own_lw4, own_arr, q0, q1, q2, q3, q4, h0, h1, h2, h3, h4, own_nb0, own_nb1, own_n32, own_pe, own_pn, own_u0, own_u1, own_u2, own_u3, own_u4] at N4 E4
    subst N4 E4
    simp [own_pk, own_f3, own_lw, own_lw1, own_lw2, own_lw3, own_lw4, own_arr, q0, q1, q2, q3, q4, h0, h1, h2, h3, h4, own_nb0, own_nb1, own_n32, own_pe, own_pn, own_u0, own_u1, own_u2, own_u3, own_u4] at N5 E5
    subst N5 E5
    simp [own_cl, own_col, own_pk, own_f3, own_lw, own_lw1, own_lw2, own_lw3, own_lw4, own_arr, q0, q1, q2, q3, q4, h0, h1, h2, h3, h4, own_nb0, own_nb1, own_n32, own_pe, own_pn, own_u0, own_u1, own_u2, own_u3, own_u4]
theorem own_main4 (x0 x1 x2 x3 x4 : Int32) (h0 : nar .char x0 = x0) (h1 : nar .char x1 = x1) (h2 : nar .char x2 = x2) (h3 : nar .char x3 = x3) (h4 : nar .char x4 = x4) (e1 e2 e3 e4 e5 : Nat → Int32) (n1 n2 n3 n4 n5 : Int32) (E1 : e1 = own_pe (own_arr 0 0 0 0 0) (own_arr x0 x1 x2 x3 x4) 0 4 0) (N1 : n1 = own_pn (own_arr x0 x1 x2 x3 x4) 0 4 0) (E2 : e2 = own_pe e1 (own_arr x0 x1 x2 x3 x4) n1 4 1) (N2 : n2 = own_pn (own_arr x0 x1 x2 x3 x4) n1 4 1) (E3 : e3 = own_pe e2 (own_arr x0 x1 x2 x3 x4) n2 4 2) (N3 : n3 = own_pn (own_arr x0 x1 x2 x3 x4) n2 4 2) (E4 : e4 = own_pe e3 (own_arr x0 x1 x2 x3 x4) n3 4 3) (N4 : n4 = own_pn (own_arr x0 x1 x2 x3 x4) n3 4 3) (E5 : e5 = own_pe e4 (own_arr x0 x1 x2 x3 x4) n4 4 4) (N5 : n5 = own_pn (own_arr x0 x1 x2 x3 x4) n4 4 4) :
    own_cl 4 (own_colx 4 (own_arr x0 x1 x2 x3 x4)) = n5 ∧ (¬ (0 : Int32) < n5 ∨ (own_colx 4 (own_arr x0 x1 x2 x3 x4)).1 0 = e5 0) ∧ (¬ (1 : Int32) < n5 ∨ (own_colx 4 (own_arr x0 x1 x2 x3 x4)).1 1 = e5 1) ∧ (¬ (2 : Int32) < n5 ∨ (own_colx 4 (own_arr x0 x1 x2 x3 x4)).1 2 = e5 2) ∧ (¬ (3 : Int32) < n5 ∨ (own_colx 4 (own_arr x0 x1 x2 x3 x4)).1 3 = e5 3) ∧ (¬ (4 : Int32) < n5 ∨ (own_colx 4 (own_arr x0 x1 x2 x3 x4)).1 4 = e5 4) := by
  have hc : own_colx 4 (own_arr x0 x1 x2 x3 x4) = own_col 1 (own_arr x0 x1 x2 x3 x4) 4 1 4 := rfl
  rw [hc]
  by_cases q0 : x0 = 32 <;> by_cases q1 : x1 = 32 <;> by_cases q2 : x2 = 32 <;> by_cases q3 : x3 = 32 <;> by_cases q4 : x4 = 32
  all_goals
    simp [own_pk, own_f3, own_lw, own_lw1, own_lw2, own_lw3, own_lw4, own_arr, q0, q1, q2, q3, q4, h0, h1, h2, h3, h4, own_nb0, own_nb1, own_n32, own_pe, own_pn, own_u0, own_u1, own_u2, own_u3, own_u4] at N1 E1
    subst N1 E1
    simp [own_pk, own_f3, own_lw, own_lw1, own_lw2, own_lw3, own_lw4, own_arr, q0, q1, q2, q3, q4, h0, h1, h2, h3, h4, own_nb0, own_nb1, own_n32, own_pe, own_pn, own_u0, own_u1, own_u2, own_u3, own_u4] at N2 E2
    subst N2 E2
    simp [own_pk, own_f3, own_lw, own_lw1, own_lw2, own_lw3, own_lw4, own_arr, q0, q1, q2, q3, q4, h0, h1, h2, h3, h4, own_nb0, own_nb1, own_n32, own_pe, own_pn, own_u0, own_u1, own_u2, own_u3, own_u4] at N3 E3
    subst N3 E3
    simp [own_pk, own_f3, own_lw, own_lw1, own_lw2, own_lw3, own_lw4, own_arr, q0, q1, q2, q3, q4, h0, h1, h2, h3, h4, own_nb0, own_nb1, own_n32, own_pe, own_pn, own_u0, own_u1, own_u2, own_u3, own_u4] at N4 E4
    subst N4 E4
    simp [own_pk, own_f3, own_lw, own_lw1, own_lw2, own_lw3, own_lw4, own_arr, q0, q1, q2, q3, q4, h0, h1, h2, h3, h4, own_nb0, own_nb1, own_n32, own_pe, own_pn, own_u0, own_u1, own_u2, own_u3, own_u4] at N5 E5
    subst N5 E5
    simp [own_cl, own_col, own_pk, own_f3, own_lw, own_lw1, own_lw2, own_lw3, own_lw4, own_arr, q0, q1, q2, q3, q4, h0, h1, h2, h3, h4, own_nb0, own_nb1, own_n32, own_pe, own_pn, own_u0, own_u1, own_u2, own_u3, own_u4]
theorem own_main5 (x0 x1 x2 x3 x4 : Int32) (h0 : nar .char x0 = x0) (h1 : nar .char x1 = x1) (h2 : nar .char x2 = x2) (h3 : nar .char x3 = x3) (h4 : nar .char x4 = x4) (e1 e2 e3 e4 e5 : Nat → Int32) (n1 n2 n3 n4 n5 : Int32) (E1 : e1 = own_pe (own_arr 0 0 0 0 0) (own_arr x0 x1 x2 x3 x4) 0 5 0) (N1 : n1 = own_pn (own_arr x0 x1 x2 x3 x4) 0 5 0) (E2 : e2 = own_pe e1 (own_arr x0 x1 x2 x3 x4) n1 5 1) (N2 : n2 = own_pn (own_arr x0 x1 x2 x3 x4) n1 5 1) (E3 : e3 = own_pe e2 (own_arr x0 x1 x2 x3 x4) n2 5 2) (N3 : n3 = own_pn (own_arr x0 x1 x2 x3 x4) n2 5 2) (E4 : e4 = own_pe e3 (own_arr x0 x1 x2 x3 x4) n3 5 3) (N4 : n4 = own_pn (own_arr x0 x1 x2 x3 x4) n3 5 3) (E5 : e5 = own_pe e4 (own_arr x0 x1 x2 x3 x4) n4 5 4) (N5 : n5 = own_pn (own_arr x0 x1 x2 x3 x4) n4 5 4) :
    own_cl 5 (own_colx 5 (own_arr x0 x1 x2 x3 x4)) = n5 ∧ (¬ (0 : Int32) < n5 ∨ (own_colx 5 (own_arr x0 x1 x2 x3 x4)).1 0 = e5 0) ∧ (¬ (1 : Int32) < n5 ∨ (own_colx 5 (own_arr x0 x1 x2 x3 x4)).1 1 = e5 1) ∧ (¬ (2 : Int32) < n5 ∨ (own_colx 5 (own_arr x0 x1 x2 x3 x4)).1 2 = e5 2) ∧ (¬ (3 : Int32) < n5 ∨ (own_colx 5 (own_arr x0 x1 x2 x3 x4)).1 3 = e5 3) ∧ (¬ (4 : Int32) < n5 ∨ (own_colx 5 (own_arr x0 x1 x2 x3 x4)).1 4 = e5 4) := by
  have hc : own_colx 5 (own_arr x0 x1 x2 x3 x4) = own_col 0 (own_arr x0 x1 x2 x3 x4) 5 1 5 := rfl
  rw [hc]
  by_cases q0 : x0 = 32 <;> by_cases q1 : x1 = 32 <;> by_cases q2 : x2 = 32 <;> by_cases q3 : x3 = 32 <;> by_cases q4 : x4 = 32
  all_goals
    simp [own_pk, own_f3, own_lw, own_lw1, own_lw2, own_lw3, own_lw4, own_arr, q0, q1, q2, q3, q4, h0, h1, h2, h3, h4, own_nb0, own_nb1, own_n32, own_pe, own_pn, own_u0, own_u1, own_u2, own_u3, own_u4] at N1 E1
    subst N1 E1
    simp [own_pk, own_f3, own_lw, own_lw1, own_lw2, own_lw3, own_lw4, own_arr, q0, q1, q2, q3, q4, h0, h1, h2, h3, h4, own_nb0, own_nb1, own_n32, own_pe, own_pn, own_u0, own_u1, own_u2, own_u3, own_u4] at N2 E2
    subst N2 E2
    simp [own_pk, own_f3, own_lw, own_lw1, own_lw2, own_lw3, own_lw4, own_arr, q0, q1, q2, q3, q4, h0, h1, h2, h3, h4, own_nb0, own_nb1, own_n32, own_pe, own_pn, own_u0, own_u1, own_u2, own_u3, own_u4] at N3 E3
    subst N3 E3
    simp [own_pk, own_f3, own_lw, own_lw1, own_lw2, own_lw3, own_lw4, own_arr, q0, q1, q2, q3, q4, h0, h1, h2, h3, h4, own_nb0, own_nb1, own_n32, own_pe, own_pn, own_u0, own_u1, own_u2, own_u3, own_u4] at N4 E4
    subst N4 E4
    simp [own_pk, own_f3, own_lw, own_lw1, own_lw2, own_lw3, own_lw4, own_arr, q0, q1, q2, q3, q4, h0, h1, h2, h3, h4, own_nb0, own_nb1, own_n32, own_pe, own_pn, own_u0, own_u1, own_u2, own_u3, own_u4] at N5 E5
    subst N5 E5
    simp [own_cl, own_col, own_pk, own_f3, own_lw, own_lw1, own_lw2, own_lw3, own_lw4, own_arr, q0, q1, q2, q3, q4, h0, h1, h2, h3, h4, own_nb0, own_nb1, own_n32, own_pe, own_pn, own_u0, own_u1, own_u2, own_u3, own_u4]
theorem own_main (x0 x1 x2 x3 x4 s : Int32) (hs : 0 ≤ s.toInt ∧ s.toInt ≤ 5) (h0 : nar .char x0 = x0) (h1 : nar .char x1 = x1) (h2 : nar .char x2 = x2) (h3 : nar .char x3 = x3) (h4 : nar .char x4 = x4) (e1 e2 e3 e4 e5 : Nat → Int32) (n1 n2 n3 n4 n5 : Int32) (E1 : e1 = own_pe (own_arr 0 0 0 0 0) (own_arr x0 x1 x2 x3 x4) 0 s 0) (N1 : n1 = own_pn (own_arr x0 x1 x2 x3 x4) 0 s 0) (E2 : e2 = own_pe e1 (own_arr x0 x1 x2 x3 x4) n1 s 1) (N2 : n2 = own_pn (own_arr x0 x1 x2 x3 x4) n1 s 1) (E3 : e3 = own_pe e2 (own_arr x0 x1 x2 x3 x4) n2 s 2) (N3 : n3 = own_pn (own_arr x0 x1 x2 x3 x4) n2 s 2) (E4 : e4 = own_pe e3 (own_arr x0 x1 x2 x3 x4) n3 s 3) (N4 : n4 = own_pn (own_arr x0 x1 x2 x3 x4) n3 s 3) (E5 : e5 = own_pe e4 (own_arr x0 x1 x2 x3 x4) n4 s 4) (N5 : n5 = own_pn (own_arr x0 x1 x2 x3 x4) n4 s 4) :
    own_cl s (own_colx s (own_arr x0 x1 x2 x3 x4)) = n5 ∧ (¬ (0 : Int32) < n5 ∨ (own_colx s (own_arr x0 x1 x2 x3 x4)).1 0 = e5 0) ∧ (¬ (1 : Int32) < n5 ∨ (own_colx s (own_arr x0 x1 x2 x3 x4)).1 1 = e5 1) ∧ (¬ (2 : Int32) < n5 ∨ (own_colx s (own_arr x0 x1 x2 x3 x4)).1 2 = e5 2) ∧ (¬ (3 : Int32) < n5 ∨ (own_colx s (own_arr x0 x1 x2 x3 x4)).1 3 = e5 3) ∧ (¬ (4 : Int32) < n5 ∨ (own_colx s (own_arr x0 x1 x2 x3 x4)).1 4 = e5 4) := by
  have hs6 : s = 0 ∨ s = 1 ∨ s = 2 ∨ s = 3 ∨ s = 4 ∨ s = 5 := by
    simp only [← Int32.toInt_inj]
    show s.toInt = 0 ∨ s.toInt = 1 ∨ s.toInt = 2 ∨ s.toInt = 3 ∨ s.toInt = 4 ∨ s.toInt = 5
    omega
  rcases hs6 with rfl | rfl | rfl | rfl | rfl | rfl
  · exact own_main0 x0 x1 x2 x3 x4 h0 h1 h2 h3 h4 e1 e2 e3 e4 e5 n1 n2 n3 n4 n5 E1 N1 E2 N2 E3 N3 E4 N4 E5 N5
  · exact own_main1 x0 x1 x2 x3 x4 h0 h1 h2 h3 h4 e1 e2 e3 e4 e5 n1 n2 n3 n4 n5 E1 N1 E2 N2 E3 N3 E4 N4 E5 N5
  · exact own_main2 x0 x1 x2 x3 x4 h0 h1 h2 h3 h4 e1 e2 e3 e4 e5 n1 n2 n3 n4 n5 E1 N1 E2 N2 E3 N3 E4 N4 E5 N5
  · exact own_main3 x0 x1 x2 x3 x4 h0 h1 h2 h3 h4 e1 e2 e3 e4 e5 n1 n2 n3 n4 n5 E1 N1 E2 N2 E3 N3 E4 N4 E5 N5
  · exact own_main4 x0 x1 x2 x3 x4 h0 h1 h2 h3 h4 e1 e2 e3 e4 e5 n1 n2 n3 n4 n5 E1 N1 E2 N2 E3 N3 E4 N4 E5 N5
  · exact own_main5 x0 x1 x2 x3 x4 h0 h1 h2 h3 h4 e1 e2 e3 e4 e5 n1 n2 n3 n4 n5 E1 N1 E2 N2 E3 N3 E4 N4 E5 N5
def own_Q0 (n0 : Nat) (v : Option Value) (h : Heap) (L : List Loc) : Prop := v = some (.int 1) ∧ Fr n0 L
theorem pd_4 : parseMethodDescriptor "(I)C" = some ⟨[.int], some .char⟩ := by decide +kernel
theorem pd_5 : parseMethodDescriptor "([CI[CII)I" = some ⟨[(.array .char), .int, (.array .char), .int, .int], some .int⟩ := by decide +kernel
theorem pd_6 : parseMethodDescriptor "(C)V" = some ⟨[.char], none⟩ := by decide +kernel
theorem pd_7 : parseMethodDescriptor "()I" = some ⟨[], some .int⟩ := by decide +kernel
theorem pd_8 : parseMethodDescriptor "()[C" = some ⟨[], some (.array .char)⟩ := by decide +kernel
theorem pd_9 : parseMethodDescriptor "([C[CII)Z" = some ⟨[(.array .char), (.array .char), .int, .int], some .boolean⟩ := by decide +kernel
theorem ef_0 (m : MethodId) (p0 : Int32) (p1 : Int32) (p2 : Int32) (p3 : Int32) (p4 : Int32) (p5 : Int32) : entryFrame m #[(.int p0), (.int p1), (.int p2), (.int p3), (.int p4), (.int p5)] maxLocals = mkF m 0 #[.val (.int p0), .val (.int p1), .val (.int p2), .val (.int p3), .val (.int p4), .val (.int p5), .unset, .unset, .unset, .unset, .unset, .unset, .unset, .unset] [] := by first | (simp [entryFrame, mkF, argsToLocals, Value.category, maxLocals]; done) | rfl
set_option maxRecDepth 65536 in
set_option maxHeartbeats 40000000 in
theorem rm0 (l : Launch) (Z : State) (a0 : Array Value) (hw : ∀ d ∈ tables_1, d.before a0 Z = true) (ws : List Jvm.Cond) (p0 : Int32) (p1 : Int32) (p2 : Int32) (p3 : Int32) (p4 : Int32) (p5 : Int32) (h0 : Heap) (n0 : Nat) (Z0 : n0 ≤ h0.size)  :
    MetFree l x (head1 (Jvm.Cond.code x code maxLocals ret :: ws) room_1) (fun a U => a = #[(.int p0), (.int p1), (.int p2), (.int p3), (.int p4), (.int p5)] ∧ Z.Warmed39 U.vm ∧ U.heap = h0) (fun _ _ _ _ _ => True) (fun _ U o U' => ∃ v L, o = .returned v ∧ (own_Q0 n0) v U'.heap L ∧ FrameEnd U o U' L room_1.cells room_1.slots) := by
  refine MetFree.of_bodySF (plainFor_of_name pn_com_example_honeyguide_honeyguide_CharsCollapseSpacesPinLaw) hisR ?_
  intro p e s m args below meth c s₁ Bd hml0 hP hK
  obtain ⟨rfl, hZ, hh⟩ := hP
  have hx := Bd.exec
  have hby := Bd.bytes
  have hml : c.maxLocals = 14 := hml0
  have hown : s.vm.findClass "com/example/honeyguide/honeyguide/CharsCollapseSpacesPinLaw" = some m.cls := findClass_of_methodNamed Bd.named
  have hnm := (name_of_methodNamed Bd.named Bd.method).1
  have X0 : Stand p l e room_1 s m #[(.int p0), (.int p1), (.int p2), (.int p3), (.int p4), (.int p5)] below meth c s₁ [] 0 0 := Stand.of_body Bd
  have e0 : s₁.heap = h0 := by rw [← hh, Bd.state]; rfl
  have N0 := Fr.nil n0
  refine own_body (QQ := (own_Q0 n0)) (ef_0 m p0 p1 p2 p3 p4 p5) ?_
  refine own_via (s₁.setTop (mkF m 1 #[.val (.int p0), .val (.int p1), .val (.int p2), .val (.int p3), .val (.int p4), .val (.int p5), .unset, .unset, .unset, .unset, .unset, .unset, .unset, .unset] [(.int (5 : Int32))])) (fun t k => XS.iconst X0.here hx rfl (hb hby at_0) k) ?_
  obtain ⟨T191, h191, k191, X191, e191, E191, A191, st191⟩ := newP X0 hx hZ (hw _ (List.mem_of_getElem? (i := 0) rfl)) e0 (g := (mkF m 1 #[.val (.int p0), .val (.int p1), .val (.int p2), .val (.int p3), .val (.int p4), .val (.int p5), .unset, .unset, .unset, .unset, .unset, .unset, .unset, .unset] [(.int (5 : Int32))])) rfl (hb hby at_1) rfl (by decide) (cap := 5) (by decide) (by decide) (by decide) (by decide)
  obtain ⟨b191, g191⟩ : ∃ z, z = h0.size := ⟨_, rfl⟩
  rw [← g191] at A191 st191
  have gg_b191 : n0 ≤ b191 := Nat.le_trans (Nat.le_trans Z0 (Keep.refl h0 []).1) (Nat.le_of_eq g191.symm)
  have sz_b191 : h0.size ≤ b191 := Nat.le_trans (Keep.refl h0 []).1 (Nat.le_of_eq g191.symm)
  have V191 : Arv Z h191 b191 k191 .char (5 : Int32) [(.int (0 : Int32)), (.int (0 : Int32)), (.int (0 : Int32)), (.int (0 : Int32)), (.int (0 : Int32))] (.int (0 : Int32)) := (Arv.new A191 (by decide)).pad (pad_rep [] (.int (0 : Int32)) 5)
  have K192 : Keep h0 h191 [] := (Keep.refl h0 []).ext E191
  have U191 : own_A Z h191 b191 .char 5 (fun _ => (0 : Int32)) := own_A.of (f := fun _ => (0 : Int32)) V191 (fun i hi => by rcases i with _ | _ | _ | _ | _ | _ | _ | _ | _ <;> first | rfl | simp)
  refine own_via (T191.setTop (mkF m 3 #[.val (.int p0), .val (.int p1), .val (.int p2), .val (.int p3), .val (.int p4), .val (.int p5), .unset, .unset, .unset, .unset, .unset, .unset, .unset, .unset] [(.ref b191)])) (fun t k => st191 t k) ?_
  refine own_via (T191.setTop (mkF m 5 #[.val (.int p0), .val (.int p1), .val (.int p2), .val (.int p3), .val (.int p4), .val (.int p5), .val (.ref b191), .unset, .unset, .unset, .unset, .unset, .unset, .unset] [])) (fun t k => XS.astore X191.here hx rfl (hb hby at_3) rfl rfl (l' := #[.val (.int p0), .val (.int p1), .val (.int p2), .val (.int p3), .val (.int p4), .val (.int p5), .val (.ref b191), .unset, .unset, .unset, .unset, .unset, .unset, .unset]) rfl k) ?_
  refine own_via (T191.setTop (mkF m 7 #[.val (.int p0), .val (.int p1), .val (.int p2), .val (.int p3), .val (.int p4), .val (.int p5), .val (.ref b191), .unset, .unset, .unset, .unset, .unset, .unset, .unset] [(.ref b191)])) (fun t k => XS.aload X191.here hx rfl (hb hby at_5) rfl rfl k) ?_
  refine own_via (T191.setTop (mkF m 8 #[.val (.int p0), .val (.int p1), .val (.int p2), .val (.int p3), .val (.int p4), .val (.int p5), .val (.ref b191), .unset, .unset, .unset, .unset, .unset, .unset, .unset] [(.int (0 : Int32)), (.ref b191)])) (fun t k => XS.iconst X191.here hx rfl (hb hby at_7) k) ?_
  refine own_via (T191.setTop (mkF m 9 #[.val (.int p0), .val (.int p1), .val (.int p2), .val (.int p3), .val (.int p4), .val (.int p5), .val (.ref b191), .unset, .unset, .unset, .unset, .unset, .unset, .unset] [(.int p0), (.int (0 : Int32)), (.ref b191)])) (fun t k => XS.iloadN X191.here hx rfl (hb hby at_8) rfl  k) ?_
  obtain ⟨_, _, ⟨T193, L193, k193, n193⟩, -, X193, ⟨Lc193, hQ193, l193, y193, z193⟩, st193⟩ := Jvm.LawKit.callS X191 hx (y := (⟨"com/example/honeyguide/honeyguide/CharsCollapseSpacesPinLaw", "draw", "(I)C"⟩ : MethodName)) hown (mvT hZ (hw _ (List.mem_of_getElem? (i := 1) rfl))) (mvT hZ (hw _ (List.mem_of_getElem? (i := 2) rfl))) (mvT hZ (hw _ (List.mem_of_getElem? (i := 3) rfl))) (mvT hZ (hw _ (List.mem_of_getElem? (i := 4) rfl))) (by decide) (backOf (W := 2) (rm1 l Z a0 hw [] p0 h191 n0 (Nat.le_trans Z0 K192.1)) hZ (hw _ (List.mem_of_getElem? (i := 4) rfl)) (hw _ (List.mem_of_getElem? (i := 3) rfl)) (by decide) (by decide)) (g := (mkF m 9 #[.val (.int p0), .val (.int p1), .val (.int p2), .val (.int p3), .val (.int p4), .val (.int p5), .val (.ref b191), .unset, .unset, .unset, .unset, .unset, .unset, .unset] [(.int p0), (.int (0 : Int32)), (.ref b191)])) rfl (by rw [hml]; rfl) (argsL := [(.int p0)]) (rest := [(.int (0 : Int32)), (.ref b191)]) (lenOf pd_4 rfl) rfl (by show 2 * 0 + _ ≤ _; exact Nat.le_of_eq rfl) (hb hby at_9) (fun _ _ => ⟨rfl, e191, (by decide : 1 + 0 ≤ _), (by decide : 5 + 0 ≤ _)⟩)
  dsimp only [Pt.U, Pt.locs, Pt.cells, Pt.slots] at X193 l193 y193 z193 st193 hQ193
  rw [y193, z193] at X193
  have X193 : Stand _ _ _ _ _ _ _ _ _ _ T193 L193 1 5 := X193
  obtain ⟨rfl, N193q, e193⟩ := hQ193
  have N193 : Fr n0 L193 := by rw [l193]; exact Fr.app N0 N193q
  refine own_via (T193.setTop (mkF m 12 #[.val (.int p0), .val (.int p1), .val (.int p2), .val (.int p3), .val (.int p4), .val (.int p5), .val (.ref b191), .unset, .unset, .unset, .unset, .unset, .unset, .unset] [(.int (own_f1 p0)), (.int (0 : Int32)), (.ref b191)])) (fun t k => st193 t k) ?_
  obtain ⟨cl195, Ar195, S195, H195⟩ := id U191
  obtain ⟨T194, h194, X194, e194, W194, st194⟩ := stC X193 hx hZ e193 Ar195 (j := (0 : Int32)) (own_in S195 (by decide)) (g := (mkF m 12 #[.val (.int p0), .val (.int p1), .val (.int p2), .val (.int p3), .val (.int p4), .val (.int p5), .val (.ref b191), .unset, .unset, .unset, .unset, .unset, .unset, .unset] [(.int (own_f1 p0)), (.int (0 : Int32)), (.ref b191)])) rfl rfl (hb hby at_12)
  have V194 : own_A Z h194 b191 .char 5 (own_up (fun _ => (0 : Int32)) 0 (nar .char (own_f1 p0))) := own_A.set U191 W194
  obtain ⟨f194, hf194⟩ : ∃ g : Nat → Int32, g = (own_up (fun _ => (0 : Int32)) 0 (nar .char (own_f1 p0))) := ⟨_, rfl⟩
  rw [← hf194] at V194
  have N194 := Fr.snoc X194 N193 gg_b191
  have K196 : Keep h0 h194 [] := K192.wr W194 (Or.inr sz_b191)
  refine own_via (T194.setTop (mkF m 13 #[.val (.int p0), .val (.int p1), .val (.int p2), .val (.int p3), .val (.int p4), .val (.int p5), .val (.ref b191), .unset, .unset, .unset, .unset, .unset, .unset, .unset] [])) (fun t k => st194 t k) ?_
  refine own_via (T194.setTop (mkF m 15 #[.val (.int p0), .val (.int p1), .val (.int p2), .val (.int p3), .val (.int p4), .val (.int p5), .val (.ref b191), .unset, .unset, .unset, .unset, .unset, .unset, .unset] [(.ref b191)])) (fun t k => XS.aload X194.here hx rfl (hb hby at_13) rfl rfl k) ?_
  refine own_via (T194.setTop (mkF m 16 #[.val (.int p0), .val (.int p1), .val (.int p2), .val (.int p3), .val (.int p4), .val (.int p5), .val (.ref b191), .unset, .unset, .unset, .unset, .unset, .unset, .unset] [(.int (1 : Int32)), (.ref b191)])) (fun t k => XS.iconst X194.here hx rfl (hb hby at_15) k) ?_
  refine own_via (T194.setTop (mkF m 17 #[.val (.int p0), .val (.int p1), .val (.int p2), .val (.int p3), .val (.int p4), .val (.int p5), .val (.ref b191), .unset, .unset, .unset, .unset, .unset, .unset, .unset] [(.int p1), (.int (1 : Int32)), (.ref b191)])) (fun t k => XS.iloadN X194.here hx rfl (hb hby at_16) rfl  k) ?_
  obtain ⟨_, _, ⟨T197, L197, k197, n197⟩, -, X197, ⟨Lc197, hQ197, l197, y197, z197⟩, st197⟩ := Jvm.LawKit.callS X194 hx (y := (⟨"com/example/honeyguide/honeyguide/CharsCollapseSpacesPinLaw", "draw", "(I)C"⟩ : MethodName)) hown (mvT hZ (hw _ (List.mem_of_getElem? (i := 1) rfl))) (mvT hZ (hw _ (List.mem_of_getElem? (i := 2) rfl))) (mvT hZ (hw _ (List.mem_of_getElem? (i := 3) rfl))) (mvT hZ (hw _ (List.mem_of_getElem? (i := 4) rfl))) (by decide) (backOf (W := 2) (rm1 l Z a0 hw [] p1 h194 n0 (Nat.le_trans Z0 K196.1)) hZ (hw _ (List.mem_of_getElem? (i := 4) rfl)) (hw _ (List.mem_of_getElem? (i := 3) rfl)) (by decide) (by decide)) (g := (mkF m 17 #[.val (.int p0), .val (.int p1), .val (.int p2), .val (.int p3), .val (.int p4), .val (.int p5), .val (.ref b191), .unset, .unset, .unset, .unset, .unset, .unset, .unset] [(.int p1), (.int (1 : Int32)), (.ref b191)])) rfl (by rw [hml]; rfl) (argsL := [(.int p1)]) (rest := [(.int (1 : Int32)), (.ref b191)]) (lenOf pd_4 rfl) rfl (by show 2 * 0 + _ ≤ _; exact Nat.le_of_eq rfl) (hb hby at_17) (fun _ _ => ⟨rfl, e194, (by decide : 1 + 0 ≤ _), (by decide : 5 + 0 ≤ _)⟩)
  dsimp only [Pt.U, Pt.locs, Pt.cells, Pt.slots] at X197 l197 y197 z197 st197 hQ197
  rw [y197, z197] at X197
  have X197 : Stand _ _ _ _ _ _ _ _ _ _ T197 L197 1 5 := X197
  obtain ⟨rfl, N197q, e197⟩ := hQ197
  have N197 : Fr n0 L197 := by rw [l197]; exact Fr.app N194 N197q
  refine own_via (T197.setTop (mkF m 20 #[.val (.int p0), .val (.int p1), .val (.int p2), .val (.int p3), .val (.int p4), .val (.int p5), .val (.ref b191), .unset, .unset, .unset, .unset, .unset, .unset, .unset] [(.int (own_f1 p1)), (.int (1 : Int32)), (.ref b191)])) (fun t k => st197 t k) ?_
  obtain ⟨cl199, Ar199, S199, H199⟩ := id V194
  obtain ⟨T198, h198, X198, e198, W198, st198⟩ := stC X197 hx hZ e197 Ar199 (j := (1 : Int32)) (own_in S199 (by decide)) (g := (mkF m 20 #[.val (.int p0), .val (.int p1), .val (.int p2), .val (.int p3), .val (.int p4), .val (.int p5), .val (.ref b191), .unset, .unset, .unset, .unset, .unset, .unset, .unset] [(.int (own_f1 p1)), (.int (1 : Int32)), (.ref b191)])) rfl rfl (hb hby at_20)
  have V198 : own_A Z h198 b191 .char 5 (own_up f194 1 (nar .char (own_f1 p1))) := own_A.set V194 W198
  obtain ⟨f198, hf198⟩ : ∃ g : Nat → Int32, g = (own_up f194 1 (nar .char (own_f1 p1))) := ⟨_, rfl⟩
  rw [← hf198] at V198
  have N198 := Fr.snoc X198 N197 gg_b191
  have K200 : Keep h0 h198 [] := K196.wr W198 (Or.inr sz_b191)
  refine own_via (T198.setTop (mkF m 21 #[.val (.int p0), .val (.int p1), .val (.int p2), .val (.int p3), .val (.int p4), .val (.int p5), .val (.ref b191), .unset, .unset, .unset, .unset, .unset, .unset, .unset] [])) (fun t k => st198 t k) ?_
  refine own_via (T198.setTop (mkF m 23 #[.val (.int p0), .val (.int p1), .val (.int p2), .val (.int p3), .val (.int p4), .val (.int p5), .val (.ref b191), .unset, .unset, .unset, .unset, .unset, .unset, .unset] [(.ref b191)])) (fun t k => XS.aload X198.here hx rfl (hb hby at_21) rfl rfl k) ?_
  refine own_via (T198.setTop (mkF m 24 #[.val (.int p0), .val (.int p1), .val (.int p2), .val (.int p3), .val (.int p4), .val (.int p5), .val (.ref b191), .unset, .unset, .unset, .unset, .unset, .unset, .unset] [(.int (2 : Int32)), (.ref b191)])) (fun t k => XS.iconst X198.here hx rfl (hb hby at_23) k) ?_
  refine own_via (T198.setTop (mkF m 25 #[.val (.int p0), .val (.int p1), .val (.int p2), .val (.int p3), .val (.int p4), .val (.int p5), .val (.ref b191), .unset, .unset, .unset, .unset, .unset, .unset, .unset] [(.int p2), (.int (2 : Int32)), (.ref b191)])) (fun t k => XS.iloadN X198.here hx rfl (hb hby at_24) rfl  k) ?_
  obtain ⟨_, _, ⟨T201, L201, k201, n201⟩, -, X201, ⟨Lc201, hQ201, l201, y201, z201⟩, st201⟩ := Jvm.LawKit.callS X198 hx (y := (⟨"com/example/honeyguide/honeyguide/CharsCollapseSpacesPinLaw", "draw", "(I)C"⟩ : MethodName)) hown (mvT hZ (hw _ (List.mem_of_getElem? (i := 1) rfl))) (mvT hZ (hw _ (List.mem_of_getElem? (i := 2) rfl))) (mvT hZ (hw _ (List.mem_of_getElem? (i := 3) rfl))) (mvT hZ (hw _ (List.mem_of_getElem? (i := 4) rfl))) (by decide) (backOf (W := 2) (rm1 l Z a0 hw [] p2 h198 n0 (Nat.le_trans Z0 K200.1)) hZ (hw _ (List.mem_of_getElem? (i := 4) rfl)) (hw _ (List.mem_of_getElem? (i := 3) rfl)) (by decide) (by decide)) (g := (mkF m 25 #[.val (.int p0), .val (.int p1), .val (.int p2), .val (.int p3), .val (.int p4), .val (.int p5), .val (.ref b191), .unset, .unset, .unset, .unset, .unset, .unset, .unset] [(.int p2), (.int (2 : Int32)), (.ref b191)])) rfl (by rw [hml]; rfl) (argsL := [(.int p2)]) (rest := [(.int (2 : Int32)), (.ref b191)]) (lenOf pd_4 rfl) rfl (by show 2 * 0 + _ ≤ _; exact Nat.le_of_eq rfl) (hb hby at_25) (fun _ _ => ⟨rfl, e198, (by decide : 1 + 0 ≤ _), (by decide : 5 + 0 ≤ _)⟩)
  dsimp only [Pt.U, Pt.locs, Pt.cells, Pt.slots] at X201 l201 y201 z201 st201 hQ201
  rw [y201, z201] at X201
  have X201 : Stand _ _ _ _ _ _ _ _ _ _ T201 L201 1 5 := X201
  obtain ⟨rfl, N201q, e201⟩ := hQ201
  have N201 : Fr n0 L201 := by rw [l201]; exact Fr.app N198 N201q
  refine own_via (T201.setTop (mkF m 28 #[.val (.int p0), .val (.int p1), .val (.int p2), .val (.int p3), .val (.int p4), .val (.int p5), .val (.ref b191), .unset, .unset, .unset, .unset, .unset, .unset, .unset] [(.int (own_f1 p2)), (.int (2 : Int32)), (.ref b191)])) (fun t k => st201 t k) ?_
  obtain ⟨cl203, Ar203, S203, H203⟩ := id V198
  obtain ⟨T202, h202, X202, e202, W202, st202⟩ := stC X201 hx hZ e201 Ar203 (j := (2 : Int32)) (own_in S203 (by decide)) (g := (mkF m 28 #[.val (.int p0), .val (.int p1), .val (.int p2), .val (.int p3), .val (.int p4), .val (.int p5), .val (.ref b191), .unset, .unset, .unset, .unset, .unset, .unset, .unset] [(.int (own_f1 p2)), (.int (2 : Int32)), (.ref b191)])) rfl rfl (hb hby at_28)
  have V202 : own_A Z h202 b191 .char 5 (own_up f198 2 (nar .char (own_f1 p2))) := own_A.set V198 W202
  obtain ⟨f202, hf202⟩ : ∃ g : Nat → Int32, g = (own_up f198 2 (nar .char (own_f1 p2))) := ⟨_, rfl⟩
  rw [← hf202] at V202
  have N202 := Fr.snoc X202 N201 gg_b191
  have K204 : Keep h0 h202 [] := K200.wr W202 (Or.inr sz_b191)
  refine own_via (T202.setTop (mkF m 29 #[.val (.int p0), .val (.int p1), .val (.int p2), .val (.int p3), .val (.int p4), .val (.int p5), .val (.ref b191), .unset, .unset, .unset, .unset, .unset, .unset, .unset] [])) (fun t k => st202 t k) ?_
  refine own_via (T202.setTop (mkF m 31 #[.val (.int p0), .val (.int p1), .val (.int p2), .val (.int p3), .val (.int p4), .val (.int p5), .val (.ref b191), .unset, .unset, .unset, .unset, .unset, .unset, .unset] [(.ref b191)])) (fun t k => XS.aload X202.here hx rfl (hb hby at_29) rfl rfl k) ?_
  refine own_via (T202.setTop (mkF m 32 #[.val (.int p0), .val (.int p1), .val (.int p2), .val (.int p3), .val (.int p4), .val (.int p5), .val (.ref b191), .unset, .unset, .unset, .unset, .unset, .unset, .unset] [(.int (3 : Int32)), (.ref b191)])) (fun t k => XS.iconst X202.here hx rfl (hb hby at_31) k) ?_
  refine own_via (T202.setTop (mkF m 33 #[.val (.int p0), .val (.int p1), .val (.int p2), .val (.int p3), .val (.int p4), .val (.int p5), .val (.ref b191), .unset, .unset, .unset, .unset, .unset, .unset, .unset] [(.int p3), (.int (3 : Int32)), (.ref b191)])) (fun t k => XS.iloadN X202.here hx rfl (hb hby at_32) rfl  k) ?_
  obtain ⟨_, _, ⟨T205, L205, k205, n205⟩, -, X205, ⟨Lc205, hQ205, l205, y205, z205⟩, st205⟩ := Jvm.LawKit.callS X202 hx (y := (⟨"com/example/honeyguide/honeyguide/CharsCollapseSpacesPinLaw", "draw", "(I)C"⟩ : MethodName)) hown (mvT hZ (hw _ (List.mem_of_getElem? (i := 1) rfl))) (mvT hZ (hw _ (List.mem_of_getElem? (i := 2) rfl))) (mvT hZ (hw _ (List.mem_of_getElem? (i := 3) rfl))) (mvT hZ (hw _ (List.mem_of_getElem? (i := 4) rfl))) (by decide) (backOf (W := 2) (rm1 l Z a0 hw [] p3 h202 n0 (Nat.le_trans Z0 K204.1)) hZ (hw _ (List.mem_of_getElem? (i := 4) rfl)) (hw _ (List.mem_of_getElem? (i := 3) rfl)) (by decide) (by decide)) (g := (mkF m 33 #[.val (.int p0), .val (.int p1), .val (.int p2), .val (.int p3), .val (.int p4), .val (.int p5), .val (.ref b191), .unset, .unset, .unset, .unset, .unset, .unset, .unset] [(.int p3), (.int (3 : Int32)), (.ref b191)])) rfl (by rw [hml]; rfl) (argsL := [(.int p3)]) (rest := [(.int (3 : Int32)), (.ref b191)]) (lenOf pd_4 rfl) rfl (by show 2 * 0 + _ ≤ _; exact Nat.le_of_eq rfl) (hb hby at_33) (fun _ _ => ⟨rfl, e202, (by decide : 1 + 0 ≤ _), (by decide : 5 + 0 ≤ _)⟩)
  dsimp only [Pt.U, Pt.locs, Pt.cells, Pt.slots] at X205 l205 y205 z205 st205 hQ205
  rw [y205, z205] at X205
  have X205 : Stand _ _ _ _ _ _ _ _ _ _ T205 L205 1 5 := X205
  obtain ⟨rfl, N205q, e205⟩ := hQ205
  have N205 : Fr n0 L205 := by rw [l205]; exact Fr.app N202 N205q
  refine own_via (T205.setTop (mkF m 36 #[.val (.int p0), .val (.int p1), .val (.int p2), .val (.int p3), .val (.int p4), .val (.int p5), .val (.ref b191), .unset, .unset, .unset, .unset, .unset, .unset, .unset] [(.int (own_f1 p3)), (.int (3 : Int32)), (.ref b191)])) (fun t k => st205 t k) ?_
  obtain ⟨cl207, Ar207, S207, H207⟩ := id V202
  obtain ⟨T206, h206, X206, e206, W206, st206⟩ := stC X205 hx hZ e205 Ar207 (j := (3 : Int32)) (own_in S207 (by decide)) (g := (mkF m 36 #[.val (.int p0), .val (.int p1), .val (.int p2), .val (.int p3), .val (.int p4), .val (.int p5), .val (.ref b191), .unset, .unset, .unset, .unset, .unset, .unset, .unset] [(.int (own_f1 p3)), (.int (3 : Int32)), (.ref b191)])) rfl rfl (hb hby at_36)
  have V206 : own_A Z h206 b191 .char 5 (own_up f202 3 (nar .char (own_f1 p3))) := own_A.set V202 W206
  obtain ⟨f206, hf206⟩ : ∃ g : Nat → Int32, g = (own_up f202 3 (nar .char (own_f1 p3))) := ⟨_, rfl⟩
  rw [← hf206] at V206
  have N206 := Fr.snoc X206 N205 gg_b191
  have K208 : Keep h0 h206 [] := K204.wr W206 (Or.inr sz_b191)
  refine own_via (T206.setTop (mkF m 37 #[.val (.int p0), .val (.int p1), .val (.int p2), .val (.int p3), .val (.int p4), .val (.int p5), .val (.ref b191), .unset, .unset, .unset, .unset, .unset, .unset, .unset] [])) (fun t k => st206 t k) ?_
  refine own_via (T206.setTop (mkF m 39 #[.val (.int p0), .val (.int p1), .val (.int p2), .val (.int p3), .val (.int p4), .val (.int p5), .val (.ref b191), .unset, .unset, .unset, .unset, .unset, .unset, .unset] [(.ref b191)])) (fun t k => XS.aload X206.here hx rfl (hb hby at_37) rfl rfl k) ?_
  refine own_via (T206.setTop (mkF m 40 #[.val (.int p0), .val (.int p1), .val (.int p2), .val (.int p3), .val (.int p4), .val (.int p5), .val (.ref b191), .unset, .unset, .unset, .unset, .unset, .unset, .unset] [(.int (4 : Int32)), (.ref b191)])) (fun t k => XS.iconst X206.here hx rfl (hb hby at_39) k) ?_
  refine own_via (T206.setTop (mkF m 42 #[.val (.int p0), .val (.int p1), .val (.int p2), .val (.int p3), .val (.int p4), .val (.int p5), .val (.ref b191), .unset, .unset, .unset, .unset, .unset, .unset, .unset] [(.int p4), (.int (4 : Int32)), (.ref b191)])) (fun t k => XS.iload X206.here hx rfl (hb hby at_40) rfl  k) ?_
  obtain ⟨_, _, ⟨T209, L209, k209, n209⟩, -, X209, ⟨Lc209, hQ209, l209, y209, z209⟩, st209⟩ := Jvm.LawKit.callS X206 hx (y := (⟨"com/example/honeyguide/honeyguide/CharsCollapseSpacesPinLaw", "draw", "(I)C"⟩ : MethodName)) hown (mvT hZ (hw _ (List.mem_of_getElem? (i := 1) rfl))) (mvT hZ (hw _ (List.mem_of_getElem? (i := 2) rfl))) (mvT hZ (hw _ (List.mem_of_getElem? (i := 3) rfl))) (mvT hZ (hw _ (List.mem_of_getElem? (i := 4) rfl))) (by decide) (backOf (W := 2) (rm1 l Z a0 hw [] p4 h206 n0 (Nat.le_trans Z0 K208.1)) hZ (hw _ (List.mem_of_getElem? (i := 4) rfl)) (hw _ (List.mem_of_getElem? (i := 3) rfl)) (by decide) (by decide)) (g := (mkF m 42 #[.val (.int p0), .val (.int p1), .val (.int p2), .val (.int p3), .val (.int p4), .val (.int p5), .val (.ref b191), .unset, .unset, .unset, .unset, .unset, .unset, .unset] [(.int p4), (.int (4 : Int32)), (.ref b191)])) rfl (by rw [hml]; rfl) (argsL := [(.int p4)]) (rest := [(.int (4 : Int32)), (.ref b191)]) (lenOf pd_4 rfl) rfl (by show 2 * 0 + _ ≤ _; exact Nat.le_of_eq rfl) (hb hby at_42) (fun _ _ => ⟨rfl, e206, (by decide : 1 + 0 ≤ _), (by decide : 5 + 0 ≤ _)⟩)
  dsimp only [Pt.U, Pt.locs, Pt.cells, Pt.slots] at X209 l209 y209 z209 st209 hQ209
  rw [y209, z209] at X209
  have X209 : Stand _ _ _ _ _ _ _ _ _ _ T209 L209 1 5 := X209
  obtain ⟨rfl, N209q, e209⟩ := hQ209
  have N209 : Fr n0 L209 := by rw [l209]; exact Fr.app N206 N209q
  refine own_via (T209.setTop (mkF m 45 #[.val (.int p0), .val (.int p1), .val (.int p2), .val (.int p3), .val (.int p4), .val (.int p5), .val (.ref b191), .unset, .unset, .unset, .unset, .unset, .unset, .unset] [(.int (own_f1 p4)), (.int (4 : Int32)), (.ref b191)])) (fun t k => st209 t k) ?_
  obtain ⟨cl211, Ar211, S211, H211⟩ := id V206
  obtain ⟨T210, h210, X210, e210, W210, st210⟩ := stC X209 hx hZ e209 Ar211 (j := (4 : Int32)) (own_in S211 (by decide)) (g := (mkF m 45 #[.val (.int p0), .val (.int p1), .val (.int p2), .val (.int p3), .val (.int p4), .val (.int p5), .val (.ref b191), .unset, .unset, .unset, .unset, .unset, .unset, .unset] [(.int (own_f1 p4)), (.int (4 : Int32)), (.ref b191)])) rfl rfl (hb hby at_45)
  have V210 : own_A Z h210 b191 .char 5 (own_up f206 4 (nar .char (own_f1 p4))) := own_A.set V206 W210
  obtain ⟨f210, hf210⟩ : ∃ g : Nat → Int32, g = (own_up f206 4 (nar .char (own_f1 p4))) := ⟨_, rfl⟩
  rw [← hf210] at V210
  have N210 := Fr.snoc X210 N209 gg_b191
  have K212 : Keep h0 h210 [] := K208.wr W210 (Or.inr sz_b191)
  refine own_via (T210.setTop (mkF m 46 #[.val (.int p0), .val (.int p1), .val (.int p2), .val (.int p3), .val (.int p4), .val (.int p5), .val (.ref b191), .unset, .unset, .unset, .unset, .unset, .unset, .unset] [])) (fun t k => st210 t k) ?_
  refine own_via (T210.setTop (mkF m 48 #[.val (.int p0), .val (.int p1), .val (.int p2), .val (.int p3), .val (.int p4), .val (.int p5), .val (.ref b191), .unset, .unset, .unset, .unset, .unset, .unset, .unset] [(.int p5)])) (fun t k => XS.iload X210.here hx rfl (hb hby at_46) rfl  k) ?_
  refine own_via (T210.setTop (mkF m 50 #[.val (.int p0), .val (.int p1), .val (.int p2), .val (.int p3), .val (.int p4), .val (.int p5), .val (.ref b191), .unset, .unset, .unset, .unset, .unset, .unset, .unset] [(.int (2147483647 : Int32)), (.int p5)])) (fun t k => X210.ldcInt hx hown (mvT hZ (hw _ (List.mem_of_getElem? (i := 5) rfl))) (g := (mkF m 48 #[.val (.int p0), .val (.int p1), .val (.int p2), .val (.int p3), .val (.int p4), .val (.int p5), .val (.ref b191), .unset, .unset, .unset, .unset, .unset, .unset, .unset] [(.int p5)])) rfl (hb hby at_48) _ k) ?_
  refine own_via (T210.setTop (mkF m 51 #[.val (.int p0), .val (.int p1), .val (.int p2), .val (.int p3), .val (.int p4), .val (.int p5), .val (.ref b191), .unset, .unset, .unset, .unset, .unset, .unset, .unset] [(.int (p5 &&& (2147483647 : Int32)))])) (fun t k => XS.iand X210.here hx rfl (hb hby at_50) rfl k) ?_
  refine own_via (T210.setTop (mkF m 53 #[.val (.int p0), .val (.int p1), .val (.int p2), .val (.int p3), .val (.int p4), .val (.int p5), .val (.ref b191), .unset, .unset, .unset, .unset, .unset, .unset, .unset] [(.int (6 : Int32)), (.int (p5 &&& (2147483647 : Int32)))])) (fun t k => XS.bipush X210.here hx rfl (hb hby at_51) k) ?_
  refine own_via (T210.setTop (mkF m 54 #[.val (.int p0), .val (.int p1), .val (.int p2), .val (.int p3), .val (.int p4), .val (.int p5), .val (.ref b191), .unset, .unset, .unset, .unset, .unset, .unset, .unset] [(.int ((p5 &&& (2147483647 : Int32)) % (6 : Int32)))])) (fun t k => Jvm.RoadKit.iremM X210 hx rfl (hb hby at_53) rfl (by decide) k) ?_
  obtain ⟨zs, hzs⟩ : ∃ z : Int32, z = ((p5 &&& (2147483647 : Int32)) % (6 : Int32)) := ⟨_, rfl⟩
  refine own_via (T210.setTop (mkF m 56 #[.val (.int p0), .val (.int p1), .val (.int p2), .val (.int p3), .val (.int p4), .val (.int p5), .val (.ref b191), .val (.int zs), .unset, .unset, .unset, .unset, .unset, .unset] [])) (fun t k => XS.istore X210.here hx rfl (hb hby at_54) rfl (l' := #[.val (.int p0), .val (.int p1), .val (.int p2), .val (.int p3), .val (.int p4), .val (.int p5), .val (.ref b191), .val (.int zs), .unset, .unset, .unset, .unset, .unset, .unset]) (by rw [hzs]; rfl) k) ?_
  refine own_via (T210.setTop (mkF m 58 #[.val (.int p0), .val (.int p1), .val (.int p2), .val (.int p3), .val (.int p4), .val (.int p5), .val (.ref b191), .val (.int zs), .unset, .unset, .unset, .unset, .unset, .unset] [(.int p5)])) (fun t k => XS.iload X210.here hx rfl (hb hby at_56) rfl  k) ?_
  refine own_via (T210.setTop (mkF m 60 #[.val (.int p0), .val (.int p1), .val (.int p2), .val (.int p3), .val (.int p4), .val (.int p5), .val (.ref b191), .val (.int zs), .unset, .unset, .unset, .unset, .unset, .unset] [(.int (27 : Int32)), (.int p5)])) (fun t k => XS.bipush X210.here hx rfl (hb hby at_58) k) ?_
  refine own_via (T210.setTop (mkF m 61 #[.val (.int p0), .val (.int p1), .val (.int p2), .val (.int p3), .val (.int p4), .val (.int p5), .val (.ref b191), .val (.int zs), .unset, .unset, .unset, .unset, .unset, .unset] [(.int ((p5.toUInt32 >>> ((27 : Int32) &&& 31).toUInt32).toInt32))])) (fun t k => XS.iushr X210.here hx rfl (hb hby at_60) rfl k) ?_
  obtain ⟨zr, hzr⟩ : ∃ z : Int32, z = ((p5.toUInt32 >>> ((27 : Int32) &&& 31).toUInt32).toInt32) := ⟨_, rfl⟩
  refine own_via (T210.setTop (mkF m 63 #[.val (.int p0), .val (.int p1), .val (.int p2), .val (.int p3), .val (.int p4), .val (.int p5), .val (.ref b191), .val (.int zs), .val (.int zr), .unset, .unset, .unset, .unset, .unset] [])) (fun t k => XS.istore X210.here hx rfl (hb hby at_61) rfl (l' := #[.val (.int p0), .val (.int p1), .val (.int p2), .val (.int p3), .val (.int p4), .val (.int p5), .val (.ref b191), .val (.int zs), .val (.int zr), .unset, .unset, .unset, .unset, .unset]) (by rw [hzr]; rfl) k) ?_
  refine own_via (T210.setTop (mkF m 64 #[.val (.int p0), .val (.int p1), .val (.int p2), .val (.int p3), .val (.int p4), .val (.int p5), .val (.ref b191), .val (.int zs), .val (.int zr), .unset, .unset, .unset, .unset, .unset] [(.int (5 : Int32))])) (fun t k => XS.iconst X210.here hx rfl (hb hby at_63) k) ?_
  obtain ⟨T213, h213, k213, X213, e213, E213, A213, st213⟩ := newP X210 hx hZ (hw _ (List.mem_of_getElem? (i := 0) rfl)) e210 (g := (mkF m 64 #[.val (.int p0), .val (.int p1), .val (.int p2), .val (.int p3), .val (.int p4), .val (.int p5), .val (.ref b191), .val (.int zs), .val (.int zr), .unset, .unset, .unset, .unset, .unset] [(.int (5 : Int32))])) rfl (hb hby at_64) rfl (by decide) (cap := 5) (by decide) (by decide) (by decide) (by decide)
  obtain ⟨b213, g213⟩ : ∃ z, z = h210.size := ⟨_, rfl⟩
  rw [← g213] at A213 st213
  have gg_b213 : n0 ≤ b213 := Nat.le_trans (Nat.le_trans Z0 K212.1) (Nat.le_of_eq g213.symm)
  have sz_b213 : h0.size ≤ b213 := Nat.le_trans K212.1 (Nat.le_of_eq g213.symm)
  have ne_b191_b213 : b191 ≠ b213 := Nat.ne_of_lt (Nat.lt_of_lt_of_le V210.lt (Nat.le_of_eq g213.symm))
  have V213 : Arv Z h213 b213 k213 .char (5 : Int32) [(.int (0 : Int32)), (.int (0 : Int32)), (.int (0 : Int32)), (.int (0 : Int32)), (.int (0 : Int32))] (.int (0 : Int32)) := (Arv.new A213 (by decide)).pad (pad_rep [] (.int (0 : Int32)) 5)
  have K214 : Keep h0 h213 [] := K212.ext E213
  have U213 : own_A Z h213 b213 .char 5 (fun _ => (0 : Int32)) := own_A.of (f := fun _ => (0 : Int32)) V213 (fun i hi => by rcases i with _ | _ | _ | _ | _ | _ | _ | _ | _ <;> first | rfl | simp)
  refine own_via (T213.setTop (mkF m 66 #[.val (.int p0), .val (.int p1), .val (.int p2), .val (.int p3), .val (.int p4), .val (.int p5), .val (.ref b191), .val (.int zs), .val (.int zr), .unset, .unset, .unset, .unset, .unset] [(.ref b213)])) (fun t k => st213 t k) ?_
  refine own_via (T213.setTop (mkF m 68 #[.val (.int p0), .val (.int p1), .val (.int p2), .val (.int p3), .val (.int p4), .val (.int p5), .val (.ref b191), .val (.int zs), .val (.int zr), .val (.ref b213), .unset, .unset, .unset, .unset] [])) (fun t k => XS.astore X213.here hx rfl (hb hby at_66) rfl rfl (l' := #[.val (.int p0), .val (.int p1), .val (.int p2), .val (.int p3), .val (.int p4), .val (.int p5), .val (.ref b191), .val (.int zs), .val (.int zr), .val (.ref b213), .unset, .unset, .unset, .unset]) rfl k) ?_
  refine own_via (T213.setTop (mkF m 69 #[.val (.int p0), .val (.int p1), .val (.int p2), .val (.int p3), .val (.int p4), .val (.int p5), .val (.ref b191), .val (.int zs), .val (.int zr), .val (.ref b213), .unset, .unset, .unset, .unset] [(.int (0 : Int32))])) (fun t k => XS.iconst X213.here hx rfl (hb hby at_68) k) ?_
  refine own_via (T213.setTop (mkF m 71 #[.val (.int p0), .val (.int p1), .val (.int p2), .val (.int p3), .val (.int p4), .val (.int p5), .val (.ref b191), .val (.int zs), .val (.int zr), .val (.ref b213), .val (.int (0 : Int32)), .unset, .unset, .unset] [])) (fun t k => XS.istore X213.here hx rfl (hb hby at_69) rfl (l' := #[.val (.int p0), .val (.int p1), .val (.int p2), .val (.int p3), .val (.int p4), .val (.int p5), .val (.ref b191), .val (.int zs), .val (.int zr), .val (.ref b213), .val (.int (0 : Int32)), .unset, .unset, .unset]) rfl k) ?_
  refine own_via (T213.setTop (mkF m 73 #[.val (.int p0), .val (.int p1), .val (.int p2), .val (.int p3), .val (.int p4), .val (.int p5), .val (.ref b191), .val (.int zs), .val (.int zr), .val (.ref b213), .val (.int (0 : Int32)), .unset, .unset, .unset] [(.ref b213)])) (fun t k => XS.aload X213.here hx rfl (hb hby at_71) rfl rfl k) ?_
  refine own_via (T213.setTop (mkF m 75 #[.val (.int p0), .val (.int p1), .val (.int p2), .val (.int p3), .val (.int p4), .val (.int p5), .val (.ref b191), .val (.int zs), .val (.int zr), .val (.ref b213), .val (.int (0 : Int32)), .unset, .unset, .unset] [(.int (0 : Int32)), (.ref b213)])) (fun t k => XS.iload X213.here hx rfl (hb hby at_73) rfl  k) ?_
  refine own_via (T213.setTop (mkF m 77 #[.val (.int p0), .val (.int p1), .val (.int p2), .val (.int p3), .val (.int p4), .val (.int p5), .val (.ref b191), .val (.int zs), .val (.int zr), .val (.ref b213), .val (.int (0 : Int32)), .unset, .unset, .unset] [(.ref b191), (.int (0 : Int32)), (.ref b213)])) (fun t k => XS.aload X213.here hx rfl (hb hby at_75) rfl rfl k) ?_
  refine own_via (T213.setTop (mkF m 79 #[.val (.int p0), .val (.int p1), .val (.int p2), .val (.int p3), .val (.int p4), .val (.int p5), .val (.ref b191), .val (.int zs), .val (.int zr), .val (.ref b213), .val (.int (0 : Int32)), .unset, .unset, .unset] [(.int zs), (.ref b191), (.int (0 : Int32)), (.ref b213)])) (fun t k => XS.iload X213.here hx rfl (hb hby at_77) rfl  k) ?_
  refine own_via (T213.setTop (mkF m 80 #[.val (.int p0), .val (.int p1), .val (.int p2), .val (.int p3), .val (.int p4), .val (.int p5), .val (.ref b191), .val (.int zs), .val (.int zr), .val (.ref b213), .val (.int (0 : Int32)), .unset, .unset, .unset] [(.int (0 : Int32)), (.int zs), (.ref b191), (.int (0 : Int32)), (.ref b213)])) (fun t k => XS.iconst X213.here hx rfl (hb hby at_79) k) ?_
  have F216 := (V210.ext E213)
  obtain ⟨_, _, ⟨T215, L215, k215, n215⟩, -, X215, ⟨Lc215, hQ215, l215, y215, z215⟩, st215⟩ := Jvm.LawKit.callS X213 hx (y := (⟨"com/example/honeyguide/honeyguide/CharsCollapseSpacesPinLaw", "put", "([CI[CII)I"⟩ : MethodName)) hown (mvT hZ (hw _ (List.mem_of_getElem? (i := 6) rfl))) (mvT hZ (hw _ (List.mem_of_getElem? (i := 7) rfl))) (mvT hZ (hw _ (List.mem_of_getElem? (i := 3) rfl))) (mvT hZ (hw _ (List.mem_of_getElem? (i := 8) rfl))) (by decide) (backOf (W := 0) (rm2 l Z a0 hw [] b213 (0 : Int32) b191 zs (0 : Int32) h213 n0 (Nat.le_trans Z0 K214.1) (fun _ => (0 : Int32)) f210 U213 F216 gg_b213 (by decide) (own_sb hzs).1 (by decide) ne_b191_b213) hZ (hw _ (List.mem_of_getElem? (i := 8) rfl)) (hw _ (List.mem_of_getElem? (i := 3) rfl)) (by decide) (by decide)) (g := (mkF m 80 #[.val (.int p0), .val (.int p1), .val (.int p2), .val (.int p3), .val (.int p4), .val (.int p5), .val (.ref b191), .val (.int zs), .val (.int zr), .val (.ref b213), .val (.int (0 : Int32)), .unset, .unset, .unset] [(.int (0 : Int32)), (.int zs), (.ref b191), (.int (0 : Int32)), (.ref b213)])) rfl (by rw [hml]; rfl) (argsL := [(.ref b213), (.int (0 : Int32)), (.ref b191), (.int zs), (.int (0 : Int32))]) (rest := []) (lenOf pd_5 rfl) rfl (by show 2 * 0 + _ ≤ _; exact Nat.le_of_eq rfl) (hb hby at_80) (fun _ _ => ⟨rfl, e213, (by decide : 2 + 0 ≤ _), (by decide : 10 + 0 ≤ _)⟩)
  dsimp only [Pt.U, Pt.locs, Pt.cells, Pt.slots] at X215 l215 y215 z215 st215 hQ215
  rw [y215, z215] at X215
  have X215 : Stand _ _ _ _ _ _ _ _ _ _ T215 L215 2 10 := X215
  obtain ⟨h215, e215⟩ : ∃ h, T215.heap = h := ⟨_, rfl⟩
  rw [e215] at hQ215
  obtain ⟨rfl, N215q, K215q, G215_0⟩ := hQ215
  have N215 : Fr n0 L215 := by rw [l215]; exact Fr.app N210 N215q
  have K217 : Keep h0 h215 [] := K214.trans K215q (fun x hx => (List.mem_cons.mp hx).elim (fun e => e ▸ Or.inr sz_b213) (fun hx => nomatch hx))
  obtain ⟨f218, hf218⟩ : ∃ g : Nat → Int32, g = (own_pe (fun _ => (0 : Int32)) f210 (0 : Int32) zs (0 : Int32)) := ⟨_, rfl⟩
  rw [← hf218] at G215_0
  refine own_via (T215.setTop (mkF m 83 #[.val (.int p0), .val (.int p1), .val (.int p2), .val (.int p3), .val (.int p4), .val (.int p5), .val (.ref b191), .val (.int zs), .val (.int zr), .val (.ref b213), .val (.int (0 : Int32)), .unset, .unset, .unset] [(.int (own_pn f210 (0 : Int32) zs (0 : Int32)))])) (fun t k => st215 t k) ?_
  obtain ⟨n1, hn1⟩ : ∃ z : Int32, z = (own_pn f210 (0 : Int32) zs (0 : Int32)) := ⟨_, rfl⟩
  refine own_via (T215.setTop (mkF m 85 #[.val (.int p0), .val (.int p1), .val (.int p2), .val (.int p3), .val (.int p4), .val (.int p5), .val (.ref b191), .val (.int zs), .val (.int zr), .val (.ref b213), .val (.int n1), .unset, .unset, .unset] [])) (fun t k => XS.istore X215.here hx rfl (hb hby at_83) rfl (l' := #[.val (.int p0), .val (.int p1), .val (.int p2), .val (.int p3), .val (.int p4), .val (.int p5), .val (.ref b191), .val (.int zs), .val (.int zr), .val (.ref b213), .val (.int n1), .unset, .unset, .unset]) (by rw [hn1]; rfl) k) ?_
  have hb1 : 0 ≤ n1.toInt ∧ n1.toInt ≤ 1 := by rw [hn1]; exact own_pnb (n := (0 : Int32)) (K := 0) (by decide) (by decide)
  refine own_via (T215.setTop (mkF m 87 #[.val (.int p0), .val (.int p1), .val (.int p2), .val (.int p3), .val (.int p4), .val (.int p5), .val (.ref b191), .val (.int zs), .val (.int zr), .val (.ref b213), .val (.int n1), .unset, .unset, .unset] [(.ref b213)])) (fun t k => XS.aload X215.here hx rfl (hb hby at_85) rfl rfl k) ?_
  refine own_via (T215.setTop (mkF m 89 #[.val (.int p0), .val (.int p1), .val (.int p2), .val (.int p3), .val (.int p4), .val (.int p5), .val (.ref b191), .val (.int zs), .val (.int zr), .val (.ref b213), .val (.int n1), .unset, .unset, .unset] [(.int n1), (.ref b213)])) (fun t k => XS.iload X215.here hx rfl (hb hby at_87) rfl  k) ?_
  refine own_via (T215.setTop (mkF m 91 #[.val (.int p0), .val (.int p1), .val (.int p2), .val (.int p3), .val (.int p4), .val (.int p5), .val (.ref b191), .val (.int zs), .val (.int zr), .val (.ref b213), .val (.int n1), .unset, .unset, .unset] [(.ref b191), (.int n1), (.ref b213)])) (fun t k => XS.aload X215.here hx rfl (hb hby at_89) rfl rfl k) ?_
  refine own_via (T215.setTop (mkF m 93 #[.val (.int p0), .val (.int p1), .val (.int p2), .val (.int p3), .val (.int p4), .val (.int p5), .val (.ref b191), .val (.int zs), .val (.int zr), .val (.ref b213), .val (.int n1), .unset, .unset, .unset] [(.int zs), (.ref b191), (.int n1), (.ref b213)])) (fun t k => XS.iload X215.here hx rfl (hb hby at_91) rfl  k) ?_
  refine own_via (T215.setTop (mkF m 94 #[.val (.int p0), .val (.int p1), .val (.int p2), .val (.int p3), .val (.int p4), .val (.int p5), .val (.ref b191), .val (.int zs), .val (.int zr), .val (.ref b213), .val (.int n1), .unset, .unset, .unset] [(.int (1 : Int32)), (.int zs), (.ref b191), (.int n1), (.ref b213)])) (fun t k => XS.iconst X215.here hx rfl (hb hby at_93) k) ?_
  have F220 := (F216.keep K215q (fun q => ne_b191_b213 (List.mem_singleton.mp q)))
  obtain ⟨_, _, ⟨T219, L219, k219, n219⟩, -, X219, ⟨Lc219, hQ219, l219, y219, z219⟩, st219⟩ := Jvm.LawKit.callS X215 hx (y := (⟨"com/example/honeyguide/honeyguide/CharsCollapseSpacesPinLaw", "put", "([CI[CII)I"⟩ : MethodName)) hown (mvT hZ (hw _ (List.mem_of_getElem? (i := 6) rfl))) (mvT hZ (hw _ (List.mem_of_getElem? (i := 7) rfl))) (mvT hZ (hw _ (List.mem_of_getElem? (i := 3) rfl))) (mvT hZ (hw _ (List.mem_of_getElem? (i := 8) rfl))) (by decide) (backOf (W := 0) (rm2 l Z a0 hw [] b213 n1 b191 zs (1 : Int32) h215 n0 (Nat.le_trans Z0 K217.1) f218 f210 G215_0 F220 gg_b213 (by decide) (own_sb hzs).1 ⟨hb1.1, by omega⟩ ne_b191_b213) hZ (hw _ (List.mem_of_getElem? (i := 8) rfl)) (hw _ (List.mem_of_getElem? (i := 3) rfl)) (by decide) (by decide)) (g := (mkF m 94 #[.val (.int p0), .val (.int p1), .val (.int p2), .val (.int p3), .val (.int p4), .val (.int p5), .val (.ref b191), .val (.int zs), .val (.int zr), .val (.ref b213), .val (.int n1), .unset, .unset, .unset] [(.int (1 : Int32)), (.int zs), (.ref b191), (.int n1), (.ref b213)])) rfl (by rw [hml]; rfl) (argsL := [(.ref b213), (.int n1), (.ref b191), (.int zs), (.int (1 : Int32))]) (rest := []) (lenOf pd_5 rfl) rfl (by show 2 * 0 + _ ≤ _; exact Nat.le_of_eq rfl) (hb hby at_94) (fun _ _ => ⟨rfl, e215, (by decide : 2 + 0 ≤ _), (by decide : 10 + 0 ≤ _)⟩)
  dsimp only [Pt.U, Pt.locs, Pt.cells, Pt.slots] at X219 l219 y219 z219 st219 hQ219
  rw [y219, z219] at X219
  have X219 : Stand _ _ _ _ _ _ _ _ _ _ T219 L219 2 10 := X219
  obtain ⟨h219, e219⟩ : ∃ h, T219.heap = h := ⟨_, rfl⟩
  rw [e219] at hQ219
  obtain ⟨rfl, N219q, K219q, G219_0⟩ := hQ219
  have N219 : Fr n0 L219 := by rw [l219]; exact Fr.app N215 N219q
  have K221 : Keep h0 h219 [] := K217.trans K219q (fun x hx => (List.mem_cons.mp hx).elim (fun e => e ▸ Or.inr sz_b213) (fun hx => nomatch hx))
  obtain ⟨f222, hf222⟩ : ∃ g : Nat → Int32, g = (own_pe f218 f210 n1 zs (1 : Int32)) := ⟨_, rfl⟩
  rw [← hf222] at G219_0
  refine own_via (T219.setTop (mkF m 97 #[.val (.int p0), .val (.int p1), .val (.int p2), .val (.int p3), .val (.int p4), .val (.int p5), .val (.ref b191), .val (.int zs), .val (.int zr), .val (.ref b213), .val (.int n1), .unset, .unset, .unset] [(.int (own_pn f210 n1 zs (1 : Int32)))])) (fun t k => st219 t k) ?_
  obtain ⟨n2, hn2⟩ : ∃ z : Int32, z = (own_pn f210 n1 zs (1 : Int32)) := ⟨_, rfl⟩
  refine own_via (T219.setTop (mkF m 99 #[.val (.int p0), .val (.int p1), .val (.int p2), .val (.int p3), .val (.int p4), .val (.int p5), .val (.ref b191), .val (.int zs), .val (.int zr), .val (.ref b213), .val (.int n2), .unset, .unset, .unset] [])) (fun t k => XS.istore X219.here hx rfl (hb hby at_97) rfl (l' := #[.val (.int p0), .val (.int p1), .val (.int p2), .val (.int p3), .val (.int p4), .val (.int p5), .val (.ref b191), .val (.int zs), .val (.int zr), .val (.ref b213), .val (.int n2), .unset, .unset, .unset]) (by rw [hn2]; rfl) k) ?_
  have hb2 : 0 ≤ n2.toInt ∧ n2.toInt ≤ 2 := by rw [hn2]; exact own_pnb hb1 (by decide)
  refine own_via (T219.setTop (mkF m 101 #[.val (.int p0), .val (.int p1), .val (.int p2), .val (.int p3), .val (.int p4), .val (.int p5), .val (.ref b191), .val (.int zs), .val (.int zr), .val (.ref b213), .val (.int n2), .unset, .unset, .unset] [(.ref b213)])) (fun t k => XS.aload X219.here hx rfl (hb hby at_99) rfl rfl k) ?_
  refine own_via (T219.setTop (mkF m 103 #[.val (.int p0), .val (.int p1), .val (.int p2), .val (.int p3), .val (.int p4), .val (.int p5), .val (.ref b191), .val (.int zs), .val (.int zr), .val (.ref b213), .val (.int n2), .unset, .unset, .unset] [(.int n2), (.ref b213)])) (fun t k => XS.iload X219.here hx rfl (hb hby at_101) rfl  k) ?_
  refine own_via (T219.setTop (mkF m 105 #[.val (.int p0), .val (.int p1), .val (.int p2), .val (.int p3), .val (.int p4), .val (.int p5), .val (.ref b191), .val (.int zs), .val (.int zr), .val (.ref b213), .val (.int n2), .unset, .unset, .unset] [(.ref b191), (.int n2), (.ref b213)])) (fun t k => XS.aload X219.here hx rfl (hb hby at_103) rfl rfl k) ?_
  refine own_via (T219.setTop (mkF m 107 #[.val (.int p0), .val (.int p1), .val (.int p2), .val (.int p3), .val (.int p4), .val (.int p5), .val (.ref b191), .val (.int zs), .val (.int zr), .val (.ref b213), .val (.int n2), .unset, .unset, .unset] [(.int zs), (.ref b191), (.int n2), (.ref b213)])) (fun t k => XS.iload X219.here hx rfl (hb hby at_105) rfl  k) ?_
  refine own_via (T219.setTop (mkF m 108 #[.val (.int p0), .val (.int p1), .val (.int p2), .val (.int p3), .val (.int p4), .val (.int p5), .val (.ref b191), .val (.int zs), .val (.int zr), .val (.ref b213), .val (.int n2), .unset, .unset, .unset] [(.int (2 : Int32)), (.int zs), (.ref b191), (.int n2), (.ref b213)])) (fun t k => XS.iconst X219.here hx rfl (hb hby at_107) k) ?_
  have F224 := (F220.keep K219q (fun q => ne_b191_b213 (List.mem_singleton.mp q)))
  obtain ⟨_, _, ⟨T223, L223, k223, n223⟩, -, X223, ⟨Lc223, hQ223, l223, y223, z223⟩, st223⟩ := Jvm.LawKit.callS X219 hx (y := (⟨"com/example/honeyguide/honeyguide/CharsCollapseSpacesPinLaw", "put", "([CI[CII)I"⟩ : MethodName)) hown (mvT hZ (hw _ (List.mem_of_getElem? (i := 6) rfl))) (mvT hZ (hw _ (List.mem_of_getElem? (i := 7) rfl))) (mvT hZ (hw _ (List.mem_of_getElem? (i := 3) rfl))) (mvT hZ (hw _ (List.mem_of_getElem? (i := 8) rfl))) (by decide) (backOf (W := 0) (rm2 l Z a0 hw [] b213 n2 b191 zs (2 : Int32) h219 n0 (Nat.le_trans Z0 K221.1) f222 f210 G219_0 F224 gg_b213 (by decide) (own_sb hzs).1 ⟨hb2.1, by omega⟩ ne_b191_b213) hZ (hw _ (List.mem_of_getElem? (i := 8) rfl)) (hw _ (List.mem_of_getElem? (i := 3) rfl)) (by decide) (by decide)) (g := (mkF m 108 #[.val (.int p0), .val (.int p1), .val (.int p2), .val (.int p3), .val (.int p4), .val (.int p5), .val (.ref b191), .val (.int zs), .val (.int zr), .val (.ref b213), .val (.int n2), .unset, .unset, .unset] [(.int (2 : Int32)), (.int zs), (.ref b191), (.int n2), (.ref b213)])) rfl (by rw [hml]; rfl) (argsL := [(.ref b213), (.int n2), (.ref b191), (.int zs), (.int (2 : Int32))]) (rest := []) (lenOf pd_5 rfl) rfl (by show 2 * 0 + _ ≤ _; exact Nat.le_of_eq rfl) (hb hby at_108) (fun _ _ => ⟨rfl, e219, (by decide : 2 + 0 ≤ _), (by decide : 10 + 0 ≤ _)⟩)
  dsimp only [Pt.U, Pt.locs, Pt.cells, Pt.slots] at X223 l223 y223 z223 st223 hQ223
  rw [y223, z223] at X223
  have X223 : Stand _ _ _ _ _ _ _ _ _ _ T223 L223 2 10 := X223
  obtain ⟨h223, e223⟩ : ∃ h, T223.heap = h := ⟨_, rfl⟩
  rw [e223] at hQ223
  obtain ⟨rfl, N223q, K223q, G223_0⟩ := hQ223
  have N223 : Fr n0 L223 := by rw [l223]; exact Fr.app N219 N223q
  have K225 : Keep h0 h223 [] := K221.trans K223q (fun x hx => (List.mem_cons.mp hx).elim (fun e => e ▸ Or.inr sz_b213) (fun hx => nomatch hx))
  obtain ⟨f226, hf226⟩ : ∃ g : Nat → Int32, g = (own_pe f222 f210 n2 zs (2 : Int32)) := ⟨_, rfl⟩
  rw [← hf226] at G223_0
  refine own_via (T223.setTop (mkF m 111 #[.val (.int p0), .val (.int p1), .val (.int p2), .val (.int p3), .val (.int p4), .val (.int p5), .val (.ref b191), .val (.int zs), .val (.int zr), .val (.ref b213), .val (.int n2), .unset, .unset, .unset] [(.int (own_pn f210 n2 zs (2 : Int32)))])) (fun t k => st223 t k) ?_
  obtain ⟨n3, hn3⟩ : ∃ z : Int32, z = (own_pn f210 n2 zs (2 : Int32)) := ⟨_, rfl⟩
  refine own_via (T223.setTop (mkF m 113 #[.val (.int p0), .val (.int p1), .val (.int p2), .val (.int p3), .val (.int p4), .val (.int p5), .val (.ref b191), .val (.int zs), .val (.int zr), .val (.ref b213), .val (.int n3), .unset, .unset, .unset] [])) (fun t k => XS.istore X223.here hx rfl (hb hby at_111) rfl (l' := #[.val (.int p0), .val (.int p1), .val (.int p2), .val (.int p3), .val (.int p4), .val (.int p5), .val (.ref b191), .val (.int zs), .val (.int zr), .val (.ref b213), .val (.int n3), .unset, .unset, .unset]) (by rw [hn3]; rfl) k) ?_
  have hb3 : 0 ≤ n3.toInt ∧ n3.toInt ≤ 3 := by rw [hn3]; exact own_pnb hb2 (by decide)
  refine own_via (T223.setTop (mkF m 115 #[.val (.int p0), .val (.int p1), .val (.int p2), .val (.int p3), .val (.int p4), .val (.int p5), .val (.ref b191), .val (.int zs), .val (.int zr), .val (.ref b213), .val (.int n3), .unset, .unset, .unset] [(.ref b213)])) (fun t k => XS.aload X223.here hx rfl (hb hby at_113) rfl rfl k) ?_
  refine own_via (T223.setTop (mkF m 117 #[.val (.int p0), .val (.int p1), .val (.int p2), .val (.int p3), .val (.int p4), .val (.int p5), .val (.ref b191), .val (.int zs), .val (.int zr), .val (.ref b213), .val (.int n3), .unset, .unset, .unset] [(.int n3), (.ref b213)])) (fun t k => XS.iload X223.here hx rfl (hb hby at_115) rfl  k) ?_
  refine own_via (T223.setTop (mkF m 119 #[.val (.int p0), .val (.int p1), .val (.int p2), .val (.int p3), .val (.int p4), .val (.int p5), .val (.ref b191), .val (.int zs), .val (.int zr), .val (.ref b213), .val (.int n3), .unset, .unset, .unset] [(.ref b191), (.int n3), (.ref b213)])) (fun t k => XS.aload X223.here hx rfl (hb hby at_117) rfl rfl k) ?_
  refine own_via (T223.setTop (mkF m 121 #[.val (.int p0), .val (.int p1), .val (.int p2), .val (.int p3), .val (.int p4), .val (.int p5), .val (.ref b191), .val (.int zs), .val (.int zr), .val (.ref b213), .val (.int n3), .unset, .unset, .unset] [(.int zs), (.ref b191), (.int n3), (.ref b213)])) (fun t k => XS.iload X223.here hx rfl (hb hby at_119) rfl  k) ?_
  refine own_via (T223.setTop (mkF m 122 #[.val (.int p0), .val (.int p1), .val (.int p2), .val (.int p3), .val (.int p4), .val (.int p5), .val (.ref b191), .val (.int zs), .val (.int zr), .val (.ref b213), .val (.int n3), .unset, .unset, .unset] [(.int (3 : Int32)), (.int zs), (.ref b191), (.int n3), (.ref b213)])) (fun t k => XS.iconst X223.here hx rfl (hb hby at_121) k) ?_
  have F228 := (F224.keep K223q (fun q => ne_b191_b213 (List.mem_singleton.mp q)))
  obtain ⟨_, _, ⟨T227, L227, k227, n227⟩, -, X227, ⟨Lc227, hQ227, l227, y227, z227⟩, st227⟩ := Jvm.LawKit.callS X223 hx (y := (⟨"com/example/honeyguide/honeyguide/CharsCollapseSpacesPinLaw", "put", "([CI[CII)I"⟩ : MethodName)) hown (mvT hZ (hw _ (List.mem_of_getElem? (i := 6) rfl))) (mvT hZ (hw _ (List.mem_of_getElem? (i := 7) rfl))) (mvT hZ (hw _ (List.mem_of_getElem? (i := 3) rfl))) (mvT hZ (hw _ (List.mem_of_getElem? (i := 8) rfl))) (by decide) (backOf (W := 0) (rm2 l Z a0 hw [] b213 n3 b191 zs (3 : Int32) h223 n0 (Nat.le_trans Z0 K225.1) f226 f210 G223_0 F228 gg_b213 (by decide) (own_sb hzs).1 ⟨hb3.1, by omega⟩ ne_b191_b213) hZ (hw _ (List.mem_of_getElem? (i := 8) rfl)) (hw _ (List.mem_of_getElem? (i := 3) rfl)) (by decide) (by decide)) (g := (mkF m 122 #[.val (.int p0), .val (.int p1), .val (.int p2), .val (.int p3), .val (.int p4), .val (.int p5), .val (.ref b191), .val (.int zs), .val (.int zr), .val (.ref b213), .val (.int n3), .unset, .unset, .unset] [(.int (3 : Int32)), (.int zs), (.ref b191), (.int n3), (.ref b213)])) rfl (by rw [hml]; rfl) (argsL := [(.ref b213), (.int n3), (.ref b191), (.int zs), (.int (3 : Int32))]) (rest := []) (lenOf pd_5 rfl) rfl (by show 2 * 0 + _ ≤ _; exact Nat.le_of_eq rfl) (hb hby at_122) (fun _ _ => ⟨rfl, e223, (by decide : 2 + 0 ≤ _), (by decide : 10 + 0 ≤ _)⟩)
  dsimp only [Pt.U, Pt.locs, Pt.cells, Pt.slots] at X227 l227 y227 z227 st227 hQ227
  rw [y227, z227] at X227
  have X227 : Stand _ _ _ _ _ _ _ _ _ _ T227 L227 2 10 := X227
  obtain ⟨h227, e227⟩ : ∃ h, T227.heap = h := ⟨_, rfl⟩
  rw [e227] at hQ227
  obtain ⟨rfl, N227q, K227q, G227_0⟩ := hQ227
  have N227 : Fr n0 L227 := by rw [l227]; exact Fr.app N223 N227q
  have K229 : Keep h0 h227 [] := K225.trans K227q (fun x hx => (List.mem_cons.mp hx).elim (fun e => e ▸ Or.inr sz_b213) (fun hx => nomatch hx))
  obtain ⟨f230, hf230⟩ : ∃ g : Nat → Int32, g = (own_pe f226 f210 n3 zs (3 : Int32)) := ⟨_, rfl⟩
  rw [← hf230] at G227_0
  refine own_via (T227.setTop (mkF m 125 #[.val (.int p0), .val (.int p1), .val (.int p2), .val (.int p3), .val (.int p4), .val (.int p5), .val (.ref b191), .val (.int zs), .val (.int zr), .val (.ref b213), .val (.int n3), .unset, .unset, .unset] [(.int (own_pn f210 n3 zs (3 : Int32)))])) (fun t k => st227 t k) ?_
  obtain ⟨n4, hn4⟩ : ∃ z : Int32, z = (own_pn f210 n3 zs (3 : Int32)) := ⟨_, rfl⟩
  refine own_via (T227.setTop (mkF m 127 #[.val (.int p0), .val (.int p1), .val (.int p2), .val (.int p3), .val (.int p4), .val (.int p5), .val (.ref b191), .val (.int zs), .val (.int zr), .val (.ref b213), .val (.int n4), .unset, .unset, .unset] [])) (fun t k => XS.istore X227.here hx rfl (hb hby at_125) rfl (l' := #[.val (.int p0), .val (.int p1), .val (.int p2), .val (.int p3), .val (.int p4), .val (.int p5), .val (.ref b191), .val (.int zs), .val (.int zr), .val (.ref b213), .val (.int n4), .unset, .unset, .unset]) (by rw [hn4]; rfl) k) ?_
  have hb4 : 0 ≤ n4.toInt ∧ n4.toInt ≤ 4 := by rw [hn4]; exact own_pnb hb3 (by decide)
  refine own_via (T227.setTop (mkF m 129 #[.val (.int p0), .val (.int p1), .val (.int p2), .val (.int p3), .val (.int p4), .val (.int p5), .val (.ref b191), .val (.int zs), .val (.int zr), .val (.ref b213), .val (.int n4), .unset, .unset, .unset] [(.ref b213)])) (fun t k => XS.aload X227.here hx rfl (hb hby at_127) rfl rfl k) ?_
  refine own_via (T227.setTop (mkF m 131 #[.val (.int p0), .val (.int p1), .val (.int p2), .val (.int p3), .val (.int p4), .val (.int p5), .val (.ref b191), .val (.int zs), .val (.int zr), .val (.ref b213), .val (.int n4), .unset, .unset, .unset] [(.int n4), (.ref b213)])) (fun t k => XS.iload X227.here hx rfl (hb hby at_129) rfl  k) ?_
  refine own_via (T227.setTop (mkF m 133 #[.val (.int p0), .val (.int p1), .val (.int p2), .val (.int p3), .val (.int p4), .val (.int p5), .val (.ref b191), .val (.int zs), .val (.int zr), .val (.ref b213), .val (.int n4), .unset, .unset, .unset] [(.ref b191), (.int n4), (.ref b213)])) (fun t k => XS.aload X227.here hx rfl (hb hby at_131) rfl rfl k) ?_
  refine own_via (T227.setTop (mkF m 135 #[.val (.int p0), .val (.int p1), .val (.int p2), .val (.int p3), .val (.int p4), .val (.int p5), .val (.ref b191), .val (.int zs), .val (.int zr), .val (.ref b213), .val (.int n4), .unset, .unset, .unset] [(.int zs), (.ref b191), (.int n4), (.ref b213)])) (fun t k => XS.iload X227.here hx rfl (hb hby at_133) rfl  k) ?_
  refine own_via (T227.setTop (mkF m 136 #[.val (.int p0), .val (.int p1), .val (.int p2), .val (.int p3), .val (.int p4), .val (.int p5), .val (.ref b191), .val (.int zs), .val (.int zr), .val (.ref b213), .val (.int n4), .unset, .unset, .unset] [(.int (4 : Int32)), (.int zs), (.ref b191), (.int n4), (.ref b213)])) (fun t k => XS.iconst X227.here hx rfl (hb hby at_135) k) ?_
  have F232 := (F228.keep K227q (fun q => ne_b191_b213 (List.mem_singleton.mp q)))
  obtain ⟨_, _, ⟨T231, L231, k231, n231⟩, -, X231, ⟨Lc231, hQ231, l231, y231, z231⟩, st231⟩ := Jvm.LawKit.callS X227 hx (y := (⟨"com/example/honeyguide/honeyguide/CharsCollapseSpacesPinLaw", "put", "([CI[CII)I"⟩ : MethodName)) hown (mvT hZ (hw _ (List.mem_of_getElem? (i := 6) rfl))) (mvT hZ (hw _ (List.mem_of_getElem? (i := 7) rfl))) (mvT hZ (hw _ (List.mem_of_getElem? (i := 3) rfl))) (mvT hZ (hw _ (List.mem_of_getElem? (i := 8) rfl))) (by decide) (backOf (W := 0) (rm2 l Z a0 hw [] b213 n4 b191 zs (4 : Int32) h227 n0 (Nat.le_trans Z0 K229.1) f230 f210 G227_0 F232 gg_b213 (by decide) (own_sb hzs).1 ⟨hb4.1, by omega⟩ ne_b191_b213) hZ (hw _ (List.mem_of_getElem? (i := 8) rfl)) (hw _ (List.mem_of_getElem? (i := 3) rfl)) (by decide) (by decide)) (g := (mkF m 136 #[.val (.int p0), .val (.int p1), .val (.int p2), .val (.int p3), .val (.int p4), .val (.int p5), .val (.ref b191), .val (.int zs), .val (.int zr), .val (.ref b213), .val (.int n4), .unset, .unset, .unset] [(.int (4 : Int32)), (.int zs), (.ref b191), (.int n4), (.ref b213)])) rfl (by rw [hml]; rfl) (argsL := [(.ref b213), (.int n4), (.ref b191), (.int zs), (.int (4 : Int32))]) (rest := []) (lenOf pd_5 rfl) rfl (by show 2 * 0 + _ ≤ _; exact Nat.le_of_eq rfl) (hb hby at_136) (fun _ _ => ⟨rfl, e227, (by decide : 2 + 0 ≤ _), (by decide : 10 + 0 ≤ _)⟩)
  dsimp only [Pt.U, Pt.locs, Pt.cells, Pt.slots] at X231 l231 y231 z231 st231 hQ231
  rw [y231, z231] at X231
  have X231 : Stand _ _ _ _ _ _ _ _ _ _ T231 L231 2 10 := X231
  obtain ⟨h231, e231⟩ : ∃ h, T231.heap = h := ⟨_, rfl⟩
  rw [e231] at hQ231
  obtain ⟨rfl, N231q, K231q, G231_0⟩ := hQ231
  have N231 : Fr n0 L231 := by rw [l231]; exact Fr.app N227 N231q
  have K233 : Keep h0 h231 [] := K229.trans K231q (fun x hx => (List.mem_cons.mp hx).elim (fun e => e ▸ Or.inr sz_b213) (fun hx => nomatch hx))
  obtain ⟨f234, hf234⟩ : ∃ g : Nat → Int32, g = (own_pe f230 f210 n4 zs (4 : Int32)) := ⟨_, rfl⟩
  rw [← hf234] at G231_0
  refine own_via (T231.setTop (mkF m 139 #[.val (.int p0), .val (.int p1), .val (.int p2), .val (.int p3), .val (.int p4), .val (.int p5), .val (.ref b191), .val (.int zs), .val (.int zr), .val (.ref b213), .val (.int n4), .unset, .unset, .unset] [(.int (own_pn f210 n4 zs (4 : Int32)))])) (fun t k => st231 t k) ?_
  obtain ⟨n5, hn5⟩ : ∃ z : Int32, z = (own_pn f210 n4 zs (4 : Int32)) := ⟨_, rfl⟩
  refine own_via (T231.setTop (mkF m 141 #[.val (.int p0), .val (.int p1), .val (.int p2), .val (.int p3), .val (.int p4), .val (.int p5), .val (.ref b191), .val (.int zs), .val (.int zr), .val (.ref b213), .val (.int n5), .unset, .unset, .unset] [])) (fun t k => XS.istore X231.here hx rfl (hb hby at_139) rfl (l' := #[.val (.int p0), .val (.int p1), .val (.int p2), .val (.int p3), .val (.int p4), .val (.int p5), .val (.ref b191), .val (.int zs), .val (.int zr), .val (.ref b213), .val (.int n5), .unset, .unset, .unset]) (by rw [hn5]; rfl) k) ?_
  obtain ⟨T235, h235, X235, e235, E235, A235, D235, -, st235⟩ := newO X231 hx hZ hown (hw _ (List.mem_of_getElem? (i := 12) rfl)) (hw _ (List.mem_of_getElem? (i := 13) rfl)) (hw _ (List.mem_of_getElem? (i := 14) rfl)) e231 (g := (mkF m 141 #[.val (.int p0), .val (.int p1), .val (.int p2), .val (.int p3), .val (.int p4), .val (.int p5), .val (.ref b191), .val (.int zs), .val (.int zr), .val (.ref b213), .val (.int n5), .unset, .unset, .unset] [])) rfl (hb hby at_141) (by decide) (by decide)
  obtain ⟨b235, g235⟩ : ∃ z, z = h231.size := ⟨_, rfl⟩
  rw [← g235] at A235 D235 st235
  have gg_b235 : n0 ≤ b235 := Nat.le_trans (Nat.le_trans Z0 K233.1) (Nat.le_of_eq g235.symm)
  have sz_b235 : h0.size ≤ b235 := Nat.le_trans K233.1 (Nat.le_of_eq g235.symm)
  have ne_b191_b235 : b191 ≠ b235 := Nat.ne_of_lt (Nat.lt_of_lt_of_le (F232.keep K231q (fun q => ne_b191_b213 (List.mem_singleton.mp q))).lt (Nat.le_of_eq g235.symm))
  have ne_b213_b235 : b213 ≠ b235 := Nat.ne_of_lt (Nat.lt_of_lt_of_le G231_0.lt (Nat.le_of_eq g235.symm))
  have F_chars_b235 : Fld Z h235 b235 "com/example/honeyguide/honeyguide/Chars" "chars" "[C" .null := D235 (Or.inl (hw _ (List.mem_of_getElem? (i := 26) rfl))) (ty := (.array .char)) (by decide)
  have F_length_b235 : Fld Z h235 b235 "com/example/honeyguide/honeyguide/Chars" "length" "I" (.int (0 : Int32)) := D235 (Or.inl (hw _ (List.mem_of_getElem? (i := 37) rfl))) (ty := .int) (by decide)
  have K236 : Keep h0 h235 [] := K233.ext E235
  refine own_via (T235.setTop (mkF m 144 #[.val (.int p0), .val (.int p1), .val (.int p2), .val (.int p3), .val (.int p4), .val (.int p5), .val (.ref b191), .val (.int zs), .val (.int zr), .val (.ref b213), .val (.int n5), .unset, .unset, .unset] [(.ref b235)])) (fun t k => st235 t k) ?_
  refine own_via (T235.setTop (mkF m 145 #[.val (.int p0), .val (.int p1), .val (.int p2), .val (.int p3), .val (.int p4), .val (.int p5), .val (.ref b191), .val (.int zs), .val (.int zr), .val (.ref b213), .val (.int n5), .unset, .unset, .unset] [(.ref b235), (.ref b235)])) (fun t k => XS.dup X235.here hx rfl (hb hby at_144) rfl rfl k) ?_
  refine own_via (T235.setTop (mkF m 147 #[.val (.int p0), .val (.int p1), .val (.int p2), .val (.int p3), .val (.int p4), .val (.int p5), .val (.ref b191), .val (.int zs), .val (.int zr), .val (.ref b213), .val (.int n5), .unset, .unset, .unset] [(.int zr), (.ref b235), (.ref b235)])) (fun t k => XS.iload X235.here hx rfl (hb hby at_145) rfl  k) ?_
  obtain ⟨_, _, ⟨T237, L237, k237, n237⟩, -, X237, ⟨Lc237, hQ237, l237, y237, z237⟩, st237⟩ := X235.specialBack hx (y := (⟨"com/example/honeyguide/honeyguide/Chars", "<init>", "(I)V"⟩ : MethodName)) rfl hown (mvT hZ (hw _ (List.mem_of_getElem? (i := 15) rfl))) (mvT hZ (hw _ (List.mem_of_getElem? (i := 16) rfl))) (mvT hZ (hw _ (List.mem_of_getElem? (i := 17) rfl))) (by decide) (backOf (W := 1) (rm4 l Z a0 hw [] b235 zr h235 n0 (Nat.le_trans Z0 K236.1) F_chars_b235 F_length_b235 A235 gg_b235 (own_rb hzr)) hZ (hw _ (List.mem_of_getElem? (i := 17) rfl)) (hw _ (List.mem_of_getElem? (i := 14) rfl)) (by decide) (by decide)) (g := (mkF m 147 #[.val (.int p0), .val (.int p1), .val (.int p2), .val (.int p3), .val (.int p4), .val (.int p5), .val (.ref b191), .val (.int zs), .val (.int zr), .val (.ref b213), .val (.int n5), .unset, .unset, .unset] [(.int zr), (.ref b235), (.ref b235)])) rfl (by rw [hml]; rfl) (Steps.refl _) (a := b235) (argsL := [(.int zr)]) (rest := [(.ref b235)]) (lenOf pd_3 rfl) rfl (by show 2 * 0 + _ ≤ _; exact Nat.le_of_eq rfl) (hb hby at_147) (fun _ _ => ⟨rfl, e235, (by decide : 3 + 1 ≤ _), (by decide : 12 + 32 ≤ _)⟩)
  dsimp only [Pt.U, Pt.locs, Pt.cells, Pt.slots] at X237 l237 y237 z237 st237 hQ237
  rw [y237, z237] at X237
  have X237 : Stand _ _ _ _ _ _ _ _ _ _ T237 L237 4 44 := X237
  obtain ⟨h237, e237⟩ : ∃ h, T237.heap = h := ⟨_, rfl⟩
  rw [e237] at hQ237
  obtain ⟨r_237, rfl, N237q, K237q, gg_r_237, sq_r_237, G237_0, G237_1, G237_2, G237_3⟩ := hQ237
  have N237 : Fr n0 L237 := by rw [l237]; exact Fr.app N231 N237q
  have sz_r_237 : h0.size ≤ r_237 := Nat.le_trans K236.1 sq_r_237
  have ne_b191_r_237 : b191 ≠ r_237 := Nat.ne_of_lt (Nat.lt_of_lt_of_le ((F232.keep K231q (fun q => ne_b191_b213 (List.mem_singleton.mp q))).ext E235).lt sq_r_237)
  have ne_b213_r_237 : b213 ≠ r_237 := Nat.ne_of_lt (Nat.lt_of_lt_of_le (G231_0.ext E235).lt sq_r_237)
  have ne_b235_r_237 : b235 ≠ r_237 := Nat.ne_of_lt (Nat.lt_of_lt_of_le A235.lt sq_r_237)
  have K238 : Keep h0 h237 [] := K236.trans K237q (fun x hx => (List.mem_cons.mp hx).elim (fun e => e ▸ Or.inr sz_b235) (fun hx => nomatch hx))
  obtain ⟨N239n, hN239n⟩ : ∃ z : Nat, z = (own_f6 zr (16 : Int32)).toNatClampNeg := ⟨_, rfl⟩
  rw [← hN239n] at G237_3
  refine own_via (T237.setTop (mkF m 150 #[.val (.int p0), .val (.int p1), .val (.int p2), .val (.int p3), .val (.int p4), .val (.int p5), .val (.ref b191), .val (.int zs), .val (.int zr), .val (.ref b213), .val (.int n5), .unset, .unset, .unset] [(.ref b235)])) (fun t k => st237.trans k) ?_
  refine own_via (T237.setTop (mkF m 152 #[.val (.int p0), .val (.int p1), .val (.int p2), .val (.int p3), .val (.int p4), .val (.int p5), .val (.ref b191), .val (.int zs), .val (.int zr), .val (.ref b213), .val (.int n5), .val (.ref b235), .unset, .unset] [])) (fun t k => XS.astore X237.here hx rfl (hb hby at_150) rfl rfl (l' := #[.val (.int p0), .val (.int p1), .val (.int p2), .val (.int p3), .val (.int p4), .val (.int p5), .val (.ref b191), .val (.int zs), .val (.int zr), .val (.ref b213), .val (.int n5), .val (.ref b235), .unset, .unset]) rfl k) ?_
  refine own_via (T237.setTop (mkF m 154 #[.val (.int p0), .val (.int p1), .val (.int p2), .val (.int p3), .val (.int p4), .val (.int p5), .val (.ref b191), .val (.int zs), .val (.int zr), .val (.ref b213), .val (.int n5), .val (.ref b235), .unset, .unset] [(.ref b235)])) (fun t k => XS.aload X237.here hx rfl (hb hby at_152) rfl rfl k) ?_
  refine own_via (T237.setTop (mkF m 156 #[.val (.int p0), .val (.int p1), .val (.int p2), .val (.int p3), .val (.int p4), .val (.int p5), .val (.ref b191), .val (.int zs), .val (.int zr), .val (.ref b213), .val (.int n5), .val (.ref b235), .unset, .unset] [(.ref b191), (.ref b235)])) (fun t k => XS.aload X237.here hx rfl (hb hby at_154) rfl rfl k) ?_
  refine own_via (T237.setTop (mkF m 157 #[.val (.int p0), .val (.int p1), .val (.int p2), .val (.int p3), .val (.int p4), .val (.int p5), .val (.ref b191), .val (.int zs), .val (.int zr), .val (.ref b213), .val (.int n5), .val (.ref b235), .unset, .unset] [(.int (0 : Int32)), (.ref b191), (.ref b235)])) (fun t k => XS.iconst X237.here hx rfl (hb hby at_156) k) ?_
  have F241 := (((F232.keep K231q (fun q => ne_b191_b213 (List.mem_singleton.mp q))).ext E235).keep K237q (fun q => ne_b191_b235 (List.mem_singleton.mp q)))
  obtain ⟨cl242, Ar242, S242, H242⟩ := id F241
  refine own_via (T237.setTop (mkF m 158 #[.val (.int p0), .val (.int p1), .val (.int p2), .val (.int p3), .val (.int p4), .val (.int p5), .val (.ref b191), .val (.int zs), .val (.int zr), .val (.ref b213), .val (.int n5), .val (.ref b235), .unset, .unset] [(.int (f210 0)), (.ref b235)])) (fun t k => X237.caload hx (j := (0 : Int32)) (v := (.int (f210 0))) (by rw [e237]; exact Ar242.1) (State.isArrayOf_alike hZ.alike Ar242.2.1) Ar242.2.2 (own_in S242 (by decide)) (own_at H242 (by decide)) (g := (mkF m 157 #[.val (.int p0), .val (.int p1), .val (.int p2), .val (.int p3), .val (.int p4), .val (.int p5), .val (.ref b191), .val (.int zs), .val (.int zr), .val (.ref b213), .val (.int n5), .val (.ref b235), .unset, .unset] [(.int (0 : Int32)), (.ref b191), (.ref b235)])) rfl rfl (hb hby at_157) _ k) ?_
  obtain ⟨cq243, kq243, q243a, q243b, q243c⟩ := isOf hZ e237 G237_0
  obtain ⟨_, _, ⟨T243, L243, k243, n243⟩, -, X243, ⟨Lc243, hQ243, l243, y243, z243⟩, st243⟩ := X237.virtualBack hx (y := (⟨"com/example/honeyguide/honeyguide/Chars", "append", "(C)V"⟩ : MethodName)) (z := (⟨"com/example/honeyguide/honeyguide/Chars", "append", "(C)V"⟩ : MethodName)) hown (mvT hZ (hw _ (List.mem_of_getElem? (i := 27) rfl))) (mvT hZ (hw _ (List.mem_of_getElem? (i := 28) rfl))) (notFace_of_selects (args := #[]) (mvT hZ (hw _ (List.mem_of_getElem? (i := 30) rfl)))) (mvT hZ (hw _ (List.mem_of_getElem? (i := 30) rfl))) (mvT hZ (hw _ (List.mem_of_getElem? (i := 29) rfl))) (by decide) (backOf (W := 0) (rm7 l Z a0 hw [] b235 (f210 0) h237 n0 (Nat.le_trans Z0 K238.1) r_237 (0 : Int32) N239n (fun _ => (0 : Int32)) G237_2 G237_1 G237_0 G237_3 gg_b235 gg_r_237 (by rw [hN239n]; exact own_Nb (own_rb hzr)) (by decide) ne_b235_r_237) hZ (hw _ (List.mem_of_getElem? (i := 31) rfl)) (hw _ (List.mem_of_getElem? (i := 14) rfl)) (by decide) (by decide)) q243a q243c (g := (mkF m 158 #[.val (.int p0), .val (.int p1), .val (.int p2), .val (.int p3), .val (.int p4), .val (.int p5), .val (.ref b191), .val (.int zs), .val (.int zr), .val (.ref b213), .val (.int n5), .val (.ref b235), .unset, .unset] [(.int (f210 0)), (.ref b235)])) rfl (by rw [hml]; rfl) (Steps.refl _) (argsL := [(.int (f210 0))]) (rest := []) (lenOf pd_6 rfl) rfl (by show 2 * 0 + _ ≤ _; exact Nat.le_of_eq rfl) (hb hby at_158) (fun _ _ => ⟨rfl, e237, (by decide : 4 + 0 ≤ _), (by decide : 44 + 0 ≤ _)⟩)
  dsimp only [Pt.U, Pt.locs, Pt.cells, Pt.slots] at X243 l243 y243 z243 st243 hQ243
  rw [y243, z243] at X243
  have X243 : Stand _ _ _ _ _ _ _ _ _ _ T243 L243 4 44 := X243
  obtain ⟨h243, e243⟩ : ∃ h, T243.heap = h := ⟨_, rfl⟩
  rw [e243] at hQ243
  obtain ⟨rfl, N243q, K243q, G243_0, G243_1, G243_2, G243_3⟩ := hQ243
  have N243 : Fr n0 L243 := by rw [l243]; exact Fr.app N237 N243q
  have mq243 : ∀ x ∈ [b235, r_237], x ∈ [] ∨ h0.size ≤ x := by
    intro x hx
    rcases List.mem_cons.mp hx with e | hx
    · rw [e]; exact Or.inr sz_b235
    rw [List.mem_singleton.mp hx]; exact Or.inr sz_r_237
  have K244 : Keep h0 h243 [] := K238.trans K243q mq243
  obtain ⟨z245, hz245⟩ : ∃ z : Int32, z = ((0 : Int32) + (1 : Int32)) := ⟨_, rfl⟩
  rw [← hz245] at G243_2
  obtain ⟨f246, hf246⟩ : ∃ g : Nat → Int32, g = (own_up (fun _ => (0 : Int32)) (0 : Int32).toInt.toNat (nar .char (f210 0))) := ⟨_, rfl⟩
  rw [← hf246] at G243_3
  refine own_via (T243.setTop (mkF m 161 #[.val (.int p0), .val (.int p1), .val (.int p2), .val (.int p3), .val (.int p4), .val (.int p5), .val (.ref b191), .val (.int zs), .val (.int zr), .val (.ref b213), .val (.int n5), .val (.ref b235), .unset, .unset] [])) (fun t k => st243.trans k) ?_
  refine own_via (T243.setTop (mkF m 163 #[.val (.int p0), .val (.int p1), .val (.int p2), .val (.int p3), .val (.int p4), .val (.int p5), .val (.ref b191), .val (.int zs), .val (.int zr), .val (.ref b213), .val (.int n5), .val (.ref b235), .unset, .unset] [(.ref b235)])) (fun t k => XS.aload X243.here hx rfl (hb hby at_161) rfl rfl k) ?_
  refine own_via (T243.setTop (mkF m 165 #[.val (.int p0), .val (.int p1), .val (.int p2), .val (.int p3), .val (.int p4), .val (.int p5), .val (.ref b191), .val (.int zs), .val (.int zr), .val (.ref b213), .val (.int n5), .val (.ref b235), .unset, .unset] [(.ref b191), (.ref b235)])) (fun t k => XS.aload X243.here hx rfl (hb hby at_163) rfl rfl k) ?_
  refine own_via (T243.setTop (mkF m 166 #[.val (.int p0), .val (.int p1), .val (.int p2), .val (.int p3), .val (.int p4), .val (.int p5), .val (.ref b191), .val (.int zs), .val (.int zr), .val (.ref b213), .val (.int n5), .val (.ref b235), .unset, .unset] [(.int (1 : Int32)), (.ref b191), (.ref b235)])) (fun t k => XS.iconst X243.here hx rfl (hb hby at_165) k) ?_
  have F248 := (F241.keep K243q (fun q => (List.mem_cons.mp q).elim ne_b191_b235 (fun q => (List.mem_cons.mp q).elim ne_b191_r_237 (fun q => nomatch q))))
  obtain ⟨cl249, Ar249, S249, H249⟩ := id F248
  refine own_via (T243.setTop (mkF m 167 #[.val (.int p0), .val (.int p1), .val (.int p2), .val (.int p3), .val (.int p4), .val (.int p5), .val (.ref b191), .val (.int zs), .val (.int zr), .val (.ref b213), .val (.int n5), .val (.ref b235), .unset, .unset] [(.int (f210 1)), (.ref b235)])) (fun t k => X243.caload hx (j := (1 : Int32)) (v := (.int (f210 1))) (by rw [e243]; exact Ar249.1) (State.isArrayOf_alike hZ.alike Ar249.2.1) Ar249.2.2 (own_in S249 (by decide)) (own_at H249 (by decide)) (g := (mkF m 166 #[.val (.int p0), .val (.int p1), .val (.int p2), .val (.int p3), .val (.int p4), .val (.int p5), .val (.ref b191), .val (.int zs), .val (.int zr), .val (.ref b213), .val (.int n5), .val (.ref b235), .unset, .unset] [(.int (1 : Int32)), (.ref b191), (.ref b235)])) rfl rfl (hb hby at_166) _ k) ?_
  rw [show z245 = (1 : Int32) from by rw [hz245]; rfl] at G243_2
  obtain ⟨cq250, kq250, q250a, q250b, q250c⟩ := isOf hZ e243 G243_0
  obtain ⟨_, _, ⟨T250, L250, k250, n250⟩, -, X250, ⟨Lc250, hQ250, l250, y250, z250⟩, st250⟩ := X243.virtualBack hx (y := (⟨"com/example/honeyguide/honeyguide/Chars", "append", "(C)V"⟩ : MethodName)) (z := (⟨"com/example/honeyguide/honeyguide/Chars", "append", "(C)V"⟩ : MethodName)) hown (mvT hZ (hw _ (List.mem_of_getElem? (i := 27) rfl))) (mvT hZ (hw _ (List.mem_of_getElem? (i := 28) rfl))) (notFace_of_selects (args := #[]) (mvT hZ (hw _ (List.mem_of_getElem? (i := 30) rfl)))) (mvT hZ (hw _ (List.mem_of_getElem? (i := 30) rfl))) (mvT hZ (hw _ (List.mem_of_getElem? (i := 29) rfl))) (by decide) (backOf (W := 0) (rm7 l Z a0 hw [] b235 (f210 1) h243 n0 (Nat.le_trans Z0 K244.1) r_237 (1 : Int32) N239n f246 G243_1 G243_2 G243_0 G243_3 gg_b235 gg_r_237 (by rw [hN239n]; exact own_Nb (own_rb hzr)) (by decide) ne_b235_r_237) hZ (hw _ (List.mem_of_getElem? (i := 31) rfl)) (hw _ (List.mem_of_getElem? (i := 14) rfl)) (by decide) (by decide)) q250a q250c (g := (mkF m 167 #[.val (.int p0), .val (.int p1), .val (.int p2), .val (.int p3), .val (.int p4), .val (.int p5), .val (.ref b191), .val (.int zs), .val (.int zr), .val (.ref b213), .val (.int n5), .val (.ref b235), .unset, .unset] [(.int (f210 1)), (.ref b235)])) rfl (by rw [hml]; rfl) (Steps.refl _) (argsL := [(.int (f210 1))]) (rest := []) (lenOf pd_6 rfl) rfl (by show 2 * 0 + _ ≤ _; exact Nat.le_of_eq rfl) (hb hby at_167) (fun _ _ => ⟨rfl, e243, (by decide : 4 + 0 ≤ _), (by decide : 44 + 0 ≤ _)⟩)
  dsimp only [Pt.U, Pt.locs, Pt.cells, Pt.slots] at X250 l250 y250 z250 st250 hQ250
  rw [y250, z250] at X250
  have X250 : Stand _ _ _ _ _ _ _ _ _ _ T250 L250 4 44 := X250
  obtain ⟨h250, e250⟩ : ∃ h, T250.heap = h := ⟨_, rfl⟩
  rw [e250] at hQ250
  obtain ⟨rfl, N250q, K250q, G250_0, G250_1, G250_2, G250_3⟩ := hQ250
  have N250 : Fr n0 L250 := by rw [l250]; exact Fr.app N243 N250q
  have mq250 : ∀ x ∈ [b235, r_237], x ∈ [] ∨ h0.size ≤ x := by
    intro x hx
    rcases List.mem_cons.mp hx with e | hx
    · rw [e]; exact Or.inr sz_b235
    rw [List.mem_singleton.mp hx]; exact Or.inr sz_r_237
  have K251 : Keep h0 h250 [] := K244.trans K250q mq250
  obtain ⟨z252, hz252⟩ : ∃ z : Int32, z = ((1 : Int32) + (1 : Int32)) := ⟨_, rfl⟩
  rw [← hz252] at G250_2
  obtain ⟨f253, hf253⟩ : ∃ g : Nat → Int32, g = (own_up f246 (1 : Int32).toInt.toNat (nar .char (f210 1))) := ⟨_, rfl⟩
  rw [← hf253] at G250_3
  refine own_via (T250.setTop (mkF m 170 #[.val (.int p0), .val (.int p1), .val (.int p2), .val (.int p3), .val (.int p4), .val (.int p5), .val (.ref b191), .val (.int zs), .val (.int zr), .val (.ref b213), .val (.int n5), .val (.ref b235), .unset, .unset] [])) (fun t k => st250.trans k) ?_
  refine own_via (T250.setTop (mkF m 172 #[.val (.int p0), .val (.int p1), .val (.int p2), .val (.int p3), .val (.int p4), .val (.int p5), .val (.ref b191), .val (.int zs), .val (.int zr), .val (.ref b213), .val (.int n5), .val (.ref b235), .unset, .unset] [(.ref b235)])) (fun t k => XS.aload X250.here hx rfl (hb hby at_170) rfl rfl k) ?_
  refine own_via (T250.setTop (mkF m 174 #[.val (.int p0), .val (.int p1), .val (.int p2), .val (.int p3), .val (.int p4), .val (.int p5), .val (.ref b191), .val (.int zs), .val (.int zr), .val (.ref b213), .val (.int n5), .val (.ref b235), .unset, .unset] [(.ref b191), (.ref b235)])) (fun t k => XS.aload X250.here hx rfl (hb hby at_172) rfl rfl k) ?_
  refine own_via (T250.setTop (mkF m 175 #[.val (.int p0), .val (.int p1), .val (.int p2), .val (.int p3), .val (.int p4), .val (.int p5), .val (.ref b191), .val (.int zs), .val (.int zr), .val (.ref b213), .val (.int n5), .val (.ref b235), .unset, .unset] [(.int (2 : Int32)), (.ref b191), (.ref b235)])) (fun t k => XS.iconst X250.here hx rfl (hb hby at_174) k) ?_
  have F255 := (F248.keep K250q (fun q => (List.mem_cons.mp q).elim ne_b191_b235 (fun q => (List.mem_cons.mp q).elim ne_b191_r_237 (fun q => nomatch q))))
  obtain ⟨cl256, Ar256, S256, H256⟩ := id F255
  refine own_via (T250.setTop (mkF m 176 #[.val (.int p0), .val (.int p1), .val (.int p2), .val (.int p3), .val (.int p4), .val (.int p5), .val (.ref b191), .val (.int zs), .val (.int zr), .val (.ref b213), .val (.int n5), .val (.ref b235), .unset, .unset] [(.int (f210 2)), (.ref b235)])) (fun t k => X250.caload hx (j := (2 : Int32)) (v := (.int (f210 2))) (by rw [e250]; exact Ar256.1) (State.isArrayOf_alike hZ.alike Ar256.2.1) Ar256.2.2 (own_in S256 (by decide)) (own_at H256 (by decide)) (g := (mkF m 175 #[.val (.int p0), .val (.int p1), .val (.int p2), .val (.int p3), .val (.int p4), .val (.int p5), .val (.ref b191), .val (.int zs), .val (.int zr), .val (.ref b213), .val (.int n5), .val (.ref b235), .unset, .unset] [(.int (2 : Int32)), (.ref b191), (.ref b235)])) rfl rfl (hb hby at_175) _ k) ?_
  rw [show z252 = (2 : Int32) from by rw [hz252]; rfl] at G250_2
  obtain ⟨cq257, kq257, q257a, q257b, q257c⟩ := isOf hZ e250 G250_0
  obtain ⟨_, _, ⟨T257, L257, k257, n257⟩, -, X257, ⟨Lc257, hQ257, l257, y257, z257⟩, st257⟩ := X250.virtualBack hx (y := (⟨"com/example/honeyguide/honeyguide/Chars", "append", "(C)V"⟩ : MethodName)) (z := (⟨"com/example/honeyguide/honeyguide/Chars", "append", "(C)V"⟩ : MethodName)) hown (mvT hZ (hw _ (List.mem_of_getElem? (i := 27) rfl))) (mvT hZ (hw _ (List.mem_of_getElem? (i := 28) rfl))) (notFace_of_selects (args := #[]) (mvT hZ (hw _ (List.mem_of_getElem? (i := 30) rfl)))) (mvT hZ (hw _ (List.mem_of_getElem? (i := 30) rfl))) (mvT hZ (hw _ (List.mem_of_getElem? (i := 29) rfl))) (by decide) (backOf (W := 0) (rm7 l Z a0 hw [] b235 (f210 2) h250 n0 (Nat.le_trans Z0 K251.1) r_237 (2 : Int32) N239n f253 G250_1 G250_2 G250_0 G250_3 gg_b235 gg_r_237 (by rw [hN239n]; exact own_Nb (own_rb hzr)) (by decide) ne_b235_r_237) hZ (hw _ (List.mem_of_getElem? (i := 31) rfl)) (hw _ (List.mem_of_getElem? (i := 14) rfl)) (by decide) (by decide)) q257a q257c (g := (mkF m 176 #[.val (.int p0), .val (.int p1), .val (.int p2), .val (.int p3), .val (.int p4), .val (.int p5), .val (.ref b191), .val (.int zs), .val (.int zr), .val (.ref b213), .val (.int n5), .val (.ref b235), .unset, .unset] [(.int (f210 2)), (.ref b235)])) rfl (by rw [hml]; rfl) (Steps.refl _) (argsL := [(.int (f210 2))]) (rest := []) (lenOf pd_6 rfl) rfl (by show 2 * 0 + _ ≤ _; exact Nat.le_of_eq rfl) (hb hby at_176) (fun _ _ => ⟨rfl, e250, (by decide : 4 + 0 ≤ _), (by decide : 44 + 0 ≤ _)⟩)
  dsimp only [Pt.U, Pt.locs, Pt.cells, Pt.slots] at X257 l257 y257 z257 st257 hQ257
  rw [y257, z257] at X257
  have X257 : Stand _ _ _ _ _ _ _ _ _ _ T257 L257 4 44 := X257
  obtain ⟨h257, e257⟩ : ∃ h, T257.heap = h := ⟨_, rfl⟩
  rw [e257] at hQ257
  obtain ⟨rfl, N257q, K257q, G257_0, G257_1, G257_2, G257_3⟩ := hQ257
  have N257 : Fr n0 L257 := by rw [l257]; exact Fr.app N250 N257q
  have mq257 : ∀ x ∈ [b235, r_237], x ∈ [] ∨ h0.size ≤ x := by
    intro x hx
    rcases List.mem_cons.mp hx with e | hx
    · rw [e]; exact Or.inr sz_b235
    rw [List.mem_singleton.mp hx]; exact Or.inr sz_r_237
  have K258 : Keep h0 h257 [] := K251.trans K257q mq257
  obtain ⟨z259, hz259⟩ : ∃ z : Int32, z = ((2 : Int32) + (1 : Int32)) := ⟨_, rfl⟩
  rw [← hz259] at G257_2
  obtain ⟨f260, hf260⟩ : ∃ g : Nat → Int32, g = (own_up f253 (2 : Int32).toInt.toNat (nar .char (f210 2))) := ⟨_, rfl⟩
  rw [← hf260] at G257_3
  refine own_via (T257.setTop (mkF m 179 #[.val (.int p0), .val (.int p1), .val (.int p2), .val (.int p3), .val (.int p4), .val (.int p5), .val (.ref b191), .val (.int zs), .val (.int zr), .val (.ref b213), .val (.int n5), .val (.ref b235), .unset, .unset] [])) (fun t k => st257.trans k) ?_
  refine own_via (T257.setTop (mkF m 181 #[.val (.int p0), .val (.int p1), .val (.int p2), .val (.int p3), .val (.int p4), .val (.int p5), .val (.ref b191), .val (.int zs), .val (.int zr), .val (.ref b213), .val (.int n5), .val (.ref b235), .unset, .unset] [(.ref b235)])) (fun t k => XS.aload X257.here hx rfl (hb hby at_179) rfl rfl k) ?_
  refine own_via (T257.setTop (mkF m 183 #[.val (.int p0), .val (.int p1), .val (.int p2), .val (.int p3), .val (.int p4), .val (.int p5), .val (.ref b191), .val (.int zs), .val (.int zr), .val (.ref b213), .val (.int n5), .val (.ref b235), .unset, .unset] [(.ref b191), (.ref b235)])) (fun t k => XS.aload X257.here hx rfl (hb hby at_181) rfl rfl k) ?_
  refine own_via (T257.setTop (mkF m 184 #[.val (.int p0), .val (.int p1), .val (.int p2), .val (.int p3), .val (.int p4), .val (.int p5), .val (.ref b191), .val (.int zs), .val (.int zr), .val (.ref b213), .val (.int n5), .val (.ref b235), .unset, .unset] [(.int (3 : Int32)), (.ref b191), (.ref b235)])) (fun t k => XS.iconst X257.here hx rfl (hb hby at_183) k) ?_
  have F262 := (F255.keep K257q (fun q => (List.mem_cons.mp q).elim ne_b191_b235 (fun q => (List.mem_cons.mp q).elim ne_b191_r_237 (fun q => nomatch q))))
  obtain ⟨cl263, Ar263, S263, H263⟩ := id F262
  refine own_via (T257.setTop (mkF m 185 #[.val (.int p0), .val (.int p1), .val (.int p2), .val (.int p3), .val (.int p4), .val (.int p5), .val (.ref b191), .val (.int zs), .val (.int zr), .val (.ref b213), .val (.int n5), .val (.ref b235), .unset, .unset] [(.int (f210 3)), (.ref b235)])) (fun t k => X257.caload hx (j := (3 : Int32)) (v := (.int (f210 3))) (by rw [e257]; exact Ar263.1) (State.isArrayOf_alike hZ.alike Ar263.2.1) Ar263.2.2 (own_in S263 (by decide)) (own_at H263 (by decide)) (g := (mkF m 184 #[.val (.int p0), .val (.int p1), .val (.int p2), .val (.int p3), .val (.int p4), .val (.int p5), .val (.ref b191), .val (.int zs), .val (.int zr), .val (.ref b213), .val (.int n5), .val (.ref b235), .unset, .unset] [(.int (3 : Int32)), (.ref b191), (.ref b235)])) rfl rfl (hb hby at_184) _ k) ?_
  rw [show z259 = (3 : Int32) from by rw [hz259]; rfl] at G257_2
  obtain ⟨cq264, kq264, q264a, q264b, q264c⟩ := isOf hZ e257 G257_0
  obtain ⟨_, _, ⟨T264, L264, k264, n264⟩, -, X264, ⟨Lc264, hQ264, l264, y264, z264⟩, st264⟩ := X257.virtualBack hx (y := (⟨"com/example/honeyguide/honeyguide/Chars", "append", "(C)V"⟩ : MethodName)) (z := (⟨"com/example/honeyguide/honeyguide/Chars", "append", "(C)V"⟩ : MethodName)) hown (mvT hZ (hw _ (List.mem_of_getElem? (i := 27) rfl))) (mvT hZ (hw _ (List.mem_of_getElem? (i := 28) rfl))) (notFace_of_selects (args := #[]) (mvT hZ (hw _ (List.mem_of_getElem? (i := 30) rfl)))) (mvT hZ (hw _ (List.mem_of_getElem? (i := 30) rfl))) (mvT hZ (hw _ (List.mem_of_getElem? (i := 29) rfl))) (by decide) (backOf (W := 0) (rm7 l Z a0 hw [] b235 (f210 3) h257 n0 (Nat.le_trans Z0 K258.1) r_237 (3 : Int32) N239n f260 G257_1 G257_2 G257_0 G257_3 gg_b235 gg_r_237 (by rw [hN239n]; exact own_Nb (own_rb hzr)) (by decide) ne_b235_r_237) hZ (hw _ (List.mem_of_getElem? (i := 31) rfl)) (hw _ (List.mem_of_getElem? (i := 14) rfl)) (by decide) (by decide)) q264a q264c (g := (mkF m 185 #[.val (.int p0), .val (.int p1), .val (.int p2), .val (.int p3), .val (.int p4), .val (.int p5), .val (.ref b191), .val (.int zs), .val (.int zr), .val (.ref b213), .val (.int n5), .val (.ref b235), .unset, .unset] [(.int (f210 3)), (.ref b235)])) rfl (by rw [hml]; rfl) (Steps.refl _) (argsL := [(.int (f210 3))]) (rest := []) (lenOf pd_6 rfl) rfl (by show 2 * 0 + _ ≤ _; exact Nat.le_of_eq rfl) (hb hby at_185) (fun _ _ => ⟨rfl, e257, (by decide : 4 + 0 ≤ _), (by decide : 44 + 0 ≤ _)⟩)
  dsimp only [Pt.U, Pt.locs, Pt.cells, Pt.slots] at X264 l264 y264 z264 st264 hQ264
  rw [y264, z264] at X264
  have X264 : Stand _ _ _ _ _ _ _ _ _ _ T264 L264 4 44 := X264
  obtain ⟨h264, e264⟩ : ∃ h, T264.heap = h := ⟨_, rfl⟩
  rw [e264] at hQ264
  obtain ⟨rfl, N264q, K264q, G264_0, G264_1, G264_2, G264_3⟩ := hQ264
  have N264 : Fr n0 L264 := by rw [l264]; exact Fr.app N257 N264q
  have mq264 : ∀ x ∈ [b235, r_237], x ∈ [] ∨ h0.size ≤ x := by
    intro x hx
    rcases List.mem_cons.mp hx with e | hx
    · rw [e]; exact Or.inr sz_b235
    rw [List.mem_singleton.mp hx]; exact Or.inr sz_r_237
  have K265 : Keep h0 h264 [] := K258.trans K264q mq264
  obtain ⟨z266, hz266⟩ : ∃ z : Int32, z = ((3 : Int32) + (1 : Int32)) := ⟨_, rfl⟩
  rw [← hz266] at G264_2
  obtain ⟨f267, hf267⟩ : ∃ g : Nat → Int32, g = (own_up f260 (3 : Int32).toInt.toNat (nar .char (f210 3))) := ⟨_, rfl⟩
  rw [← hf267] at G264_3
  refine own_via (T264.setTop (mkF m 188 #[.val (.int p0), .val (.int p1), .val (.int p2), .val (.int p3), .val (.int p4), .val (.int p5), .val (.ref b191), .val (.int zs), .val (.int zr), .val (.ref b213), .val (.int n5), .val (.ref b235), .unset, .unset] [])) (fun t k => st264.trans k) ?_
  refine own_via (T264.setTop (mkF m 190 #[.val (.int p0), .val (.int p1), .val (.int p2), .val (.int p3), .val (.int p4), .val (.int p5), .val (.ref b191), .val (.int zs), .val (.int zr), .val (.ref b213), .val (.int n5), .val (.ref b235), .unset, .unset] [(.ref b235)])) (fun t k => XS.aload X264.here hx rfl (hb hby at_188) rfl rfl k) ?_
  refine own_via (T264.setTop (mkF m 192 #[.val (.int p0), .val (.int p1), .val (.int p2), .val (.int p3), .val (.int p4), .val (.int p5), .val (.ref b191), .val (.int zs), .val (.int zr), .val (.ref b213), .val (.int n5), .val (.ref b235), .unset, .unset] [(.ref b191), (.ref b235)])) (fun t k => XS.aload X264.here hx rfl (hb hby at_190) rfl rfl k) ?_
  refine own_via (T264.setTop (mkF m 193 #[.val (.int p0), .val (.int p1), .val (.int p2), .val (.int p3), .val (.int p4), .val (.int p5), .val (.ref b191), .val (.int zs), .val (.int zr), .val (.ref b213), .val (.int n5), .val (.ref b235), .unset, .unset] [(.int (4 : Int32)), (.ref b191), (.ref b235)])) (fun t k => XS.iconst X264.here hx rfl (hb hby at_192) k) ?_
  have F269 := (F262.keep K264q (fun q => (List.mem_cons.mp q).elim ne_b191_b235 (fun q => (List.mem_cons.mp q).elim ne_b191_r_237 (fun q => nomatch q))))
  obtain ⟨cl270, Ar270, S270, H270⟩ := id F269
  refine own_via (T264.setTop (mkF m 194 #[.val (.int p0), .val (.int p1), .val (.int p2), .val (.int p3), .val (.int p4), .val (.int p5), .val (.ref b191), .val (.int zs), .val (.int zr), .val (.ref b213), .val (.int n5), .val (.ref b235), .unset, .unset] [(.int (f210 4)), (.ref b235)])) (fun t k => X264.caload hx (j := (4 : Int32)) (v := (.int (f210 4))) (by rw [e264]; exact Ar270.1) (State.isArrayOf_alike hZ.alike Ar270.2.1) Ar270.2.2 (own_in S270 (by decide)) (own_at H270 (by decide)) (g := (mkF m 193 #[.val (.int p0), .val (.int p1), .val (.int p2), .val (.int p3), .val (.int p4), .val (.int p5), .val (.ref b191), .val (.int zs), .val (.int zr), .val (.ref b213), .val (.int n5), .val (.ref b235), .unset, .unset] [(.int (4 : Int32)), (.ref b191), (.ref b235)])) rfl rfl (hb hby at_193) _ k) ?_
  rw [show z266 = (4 : Int32) from by rw [hz266]; rfl] at G264_2
  obtain ⟨cq271, kq271, q271a, q271b, q271c⟩ := isOf hZ e264 G264_0
  obtain ⟨_, _, ⟨T271, L271, k271, n271⟩, -, X271, ⟨Lc271, hQ271, l271, y271, z271⟩, st271⟩ := X264.virtualBack hx (y := (⟨"com/example/honeyguide/honeyguide/Chars", "append", "(C)V"⟩ : MethodName)) (z := (⟨"com/example/honeyguide/honeyguide/Chars", "append", "(C)V"⟩ : MethodName)) hown (mvT hZ (hw _ (List.mem_of_getElem? (i := 27) rfl))) (mvT hZ (hw _ (List.mem_of_getElem? (i := 28) rfl))) (notFace_of_selects (args := #[]) (mvT hZ (hw _ (List.mem_of_getElem? (i := 30) rfl)))) (mvT hZ (hw _ (List.mem_of_getElem? (i := 30) rfl))) (mvT hZ (hw _ (List.mem_of_getElem? (i := 29) rfl))) (by decide) (backOf (W := 0) (rm7 l Z a0 hw [] b235 (f210 4) h264 n0 (Nat.le_trans Z0 K265.1) r_237 (4 : Int32) N239n f267 G264_1 G264_2 G264_0 G264_3 gg_b235 gg_r_237 (by rw [hN239n]; exact own_Nb (own_rb hzr)) (by decide) ne_b235_r_237) hZ (hw _ (List.mem_of_getElem? (i := 31) rfl)) (hw _ (List.mem_of_getElem? (i := 14) rfl)) (by decide) (by decide)) q271a q271c (g := (mkF m 194 #[.val (.int p0), .val (.int p1), .val (.int p2), .val (.int p3), .val (.int p4), .val (.int p5), .val (.ref b191), .val (.int zs), .val (.int zr), .val (.ref b213), .val (.int n5), .val (.ref b235), .unset, .unset] [(.int (f210 4)), (.ref b235)])) rfl (by rw [hml]; rfl) (Steps.refl _) (argsL := [(.int (f210 4))]) (rest := []) (lenOf pd_6 rfl) rfl (by show 2 * 0 + _ ≤ _; exact Nat.le_of_eq rfl) (hb hby at_194) (fun _ _ => ⟨rfl, e264, (by decide : 4 + 0 ≤ _), (by decide : 44 + 0 ≤ _)⟩)
  dsimp only [Pt.U, Pt.locs, Pt.cells, Pt.slots] at X271 l271 y271 z271 st271 hQ271
  rw [y271, z271] at X271
  have X271 : Stand _ _ _ _ _ _ _ _ _ _ T271 L271 4 44 := X271
  obtain ⟨h271, e271⟩ : ∃ h, T271.heap = h := ⟨_, rfl⟩
  rw [e271] at hQ271
  obtain ⟨rfl, N271q, K271q, G271_0, G271_1, G271_2, G271_3⟩ := hQ271
  have N271 : Fr n0 L271 := by rw [l271]; exact Fr.app N264 N271q
  have mq271 : ∀ x ∈ [b235, r_237], x ∈ [] ∨ h0.size ≤ x := by
    intro x hx
    rcases List.mem_cons.mp hx with e | hx
    · rw [e]; exact Or.inr sz_b235
    rw [List.mem_singleton.mp hx]; exact Or.inr sz_r_237
  have K272 : Keep h0 h271 [] := K265.trans K271q mq271
  obtain ⟨z273, hz273⟩ : ∃ z : Int32, z = ((4 : Int32) + (1 : Int32)) := ⟨_, rfl⟩
  rw [← hz273] at G271_2
  obtain ⟨f274, hf274⟩ : ∃ g : Nat → Int32, g = (own_up f267 (4 : Int32).toInt.toNat (nar .char (f210 4))) := ⟨_, rfl⟩
  rw [← hf274] at G271_3
  refine own_via (T271.setTop (mkF m 197 #[.val (.int p0), .val (.int p1), .val (.int p2), .val (.int p3), .val (.int p4), .val (.int p5), .val (.ref b191), .val (.int zs), .val (.int zr), .val (.ref b213), .val (.int n5), .val (.ref b235), .unset, .unset] [])) (fun t k => st271.trans k) ?_
  refine own_via (T271.setTop (mkF m 199 #[.val (.int p0), .val (.int p1), .val (.int p2), .val (.int p3), .val (.int p4), .val (.int p5), .val (.ref b191), .val (.int zs), .val (.int zr), .val (.ref b213), .val (.int n5), .val (.ref b235), .unset, .unset] [(.ref b235)])) (fun t k => XS.aload X271.here hx rfl (hb hby at_197) rfl rfl k) ?_
  refine own_via (T271.setTop (mkF m 201 #[.val (.int p0), .val (.int p1), .val (.int p2), .val (.int p3), .val (.int p4), .val (.int p5), .val (.ref b191), .val (.int zs), .val (.int zr), .val (.ref b213), .val (.int n5), .val (.ref b235), .unset, .unset] [(.int zs), (.ref b235)])) (fun t k => XS.iload X271.here hx rfl (hb hby at_199) rfl  k) ?_
  rw [show z273 = (5 : Int32) from by rw [hz273]; rfl] at G271_2
  obtain ⟨cq275, kq275, q275a, q275b, q275c⟩ := isOf hZ e271 G271_0
  obtain ⟨_, _, ⟨T275, L275, k275, n275⟩, -, X275, ⟨Lc275, hQ275, l275, y275, z275⟩, st275⟩ := X271.virtualBack hx (y := (⟨"com/example/honeyguide/honeyguide/Chars", "collapseSpaces", "(I)V"⟩ : MethodName)) (z := (⟨"com/example/honeyguide/honeyguide/Chars", "collapseSpaces", "(I)V"⟩ : MethodName)) hown (mvT hZ (hw _ (List.mem_of_getElem? (i := 38) rfl))) (mvT hZ (hw _ (List.mem_of_getElem? (i := 39) rfl))) (notFace_of_selects (args := #[]) (mvT hZ (hw _ (List.mem_of_getElem? (i := 41) rfl)))) (mvT hZ (hw _ (List.mem_of_getElem? (i := 41) rfl))) (mvT hZ (hw _ (List.mem_of_getElem? (i := 40) rfl))) (by decide) (backOf (W := 0) (rm9 l Z a0 hw [] b235 zs h271 n0 (Nat.le_trans Z0 K272.1) r_237 (5 : Int32) N239n f274 G271_1 G271_2 G271_0 G271_3 gg_b235 gg_r_237 (by rw [hN239n]; exact own_Nb (own_rb hzr)) (by decide) (own_sb hzs) ne_b235_r_237) hZ (hw _ (List.mem_of_getElem? (i := 42) rfl)) (hw _ (List.mem_of_getElem? (i := 14) rfl)) (by decide) (by decide)) q275a q275c (g := (mkF m 201 #[.val (.int p0), .val (.int p1), .val (.int p2), .val (.int p3), .val (.int p4), .val (.int p5), .val (.ref b191), .val (.int zs), .val (.int zr), .val (.ref b213), .val (.int n5), .val (.ref b235), .unset, .unset] [(.int zs), (.ref b235)])) rfl (by rw [hml]; rfl) (Steps.refl _) (argsL := [(.int zs)]) (rest := []) (lenOf pd_3 rfl) rfl (by show 2 * 0 + _ ≤ _; exact Nat.le_of_eq rfl) (hb hby at_201) (fun _ _ => ⟨rfl, e271, (by decide : 4 + 0 ≤ _), (by decide : 44 + 0 ≤ _)⟩)
  dsimp only [Pt.U, Pt.locs, Pt.cells, Pt.slots] at X275 l275 y275 z275 st275 hQ275
  rw [y275, z275] at X275
  have X275 : Stand _ _ _ _ _ _ _ _ _ _ T275 L275 4 44 := X275
  obtain ⟨h275, e275⟩ : ∃ h, T275.heap = h := ⟨_, rfl⟩
  rw [e275] at hQ275
  obtain ⟨rfl, N275q, K275q, G275_0, G275_1, G275_2, G275_3⟩ := hQ275
  have N275 : Fr n0 L275 := by rw [l275]; exact Fr.app N271 N275q
  have mq275 : ∀ x ∈ [b235, r_237], x ∈ [] ∨ h0.size ≤ x := by
    intro x hx
    rcases List.mem_cons.mp hx with e | hx
    · rw [e]; exact Or.inr sz_b235
    rw [List.mem_singleton.mp hx]; exact Or.inr sz_r_237
  have K276 : Keep h0 h275 [] := K272.trans K275q mq275
  obtain ⟨z277, hz277⟩ : ∃ z : Int32, z = (own_cl zs (own_colx zs f274)) := ⟨_, rfl⟩
  rw [← hz277] at G275_2
  obtain ⟨f278, hf278⟩ : ∃ g : Nat → Int32, g = (own_colx zs f274).1 := ⟨_, rfl⟩
  rw [← hf278] at G275_3
  refine own_via (T275.setTop (mkF m 204 #[.val (.int p0), .val (.int p1), .val (.int p2), .val (.int p3), .val (.int p4), .val (.int p5), .val (.ref b191), .val (.int zs), .val (.int zr), .val (.ref b213), .val (.int n5), .val (.ref b235), .unset, .unset] [])) (fun t k => st275.trans k) ?_
  refine own_via (T275.setTop (mkF m 206 #[.val (.int p0), .val (.int p1), .val (.int p2), .val (.int p3), .val (.int p4), .val (.int p5), .val (.ref b191), .val (.int zs), .val (.int zr), .val (.ref b213), .val (.int n5), .val (.ref b235), .unset, .unset] [(.ref b235)])) (fun t k => XS.aload X275.here hx rfl (hb hby at_204) rfl rfl k) ?_
  obtain ⟨cq279, kq279, q279a, q279b, q279c⟩ := isOf hZ e275 G275_0
  obtain ⟨_, _, ⟨T279, L279, k279, n279⟩, -, X279, ⟨Lc279, hQ279, l279, y279, z279⟩, st279⟩ := X275.virtualBack hx (y := (⟨"com/example/honeyguide/honeyguide/Chars", "length", "()I"⟩ : MethodName)) (z := (⟨"com/example/honeyguide/honeyguide/Chars", "length", "()I"⟩ : MethodName)) hown (mvT hZ (hw _ (List.mem_of_getElem? (i := 43) rfl))) (mvT hZ (hw _ (List.mem_of_getElem? (i := 44) rfl))) (notFace_of_selects (args := #[]) (mvT hZ (hw _ (List.mem_of_getElem? (i := 46) rfl)))) (mvT hZ (hw _ (List.mem_of_getElem? (i := 46) rfl))) (mvT hZ (hw _ (List.mem_of_getElem? (i := 45) rfl))) (by decide) (backOf (W := 0) (rm10 l Z a0 hw [] b235 h275 n0 (Nat.le_trans Z0 K276.1) z277 G275_2) hZ (hw _ (List.mem_of_getElem? (i := 47) rfl)) (hw _ (List.mem_of_getElem? (i := 14) rfl)) (by decide) (by decide)) q279a q279c (g := (mkF m 206 #[.val (.int p0), .val (.int p1), .val (.int p2), .val (.int p3), .val (.int p4), .val (.int p5), .val (.ref b191), .val (.int zs), .val (.int zr), .val (.ref b213), .val (.int n5), .val (.ref b235), .unset, .unset] [(.ref b235)])) rfl (by rw [hml]; rfl) (Steps.refl _) (argsL := []) (rest := []) (lenOf pd_7 rfl) rfl (by show 2 * 0 + _ ≤ _; exact Nat.le_of_eq rfl) (hb hby at_206) (fun _ _ => ⟨rfl, e275, (by decide : 4 + 0 ≤ _), (by decide : 44 + 0 ≤ _)⟩)
  dsimp only [Pt.U, Pt.locs, Pt.cells, Pt.slots] at X279 l279 y279 z279 st279 hQ279
  rw [y279, z279] at X279
  have X279 : Stand _ _ _ _ _ _ _ _ _ _ T279 L279 4 44 := X279
  obtain ⟨rfl, N279q, e279⟩ := hQ279
  have N279 : Fr n0 L279 := by rw [l279]; exact Fr.app N275 N279q
  refine own_via (T279.setTop (mkF m 209 #[.val (.int p0), .val (.int p1), .val (.int p2), .val (.int p3), .val (.int p4), .val (.int p5), .val (.ref b191), .val (.int zs), .val (.int zr), .val (.ref b213), .val (.int n5), .val (.ref b235), .unset, .unset] [(.int (own_f10 z277))])) (fun t k => st279.trans k) ?_
  obtain ⟨zlen, hzlen⟩ : ∃ z : Int32, z = (own_f10 z277) := ⟨_, rfl⟩
  refine own_via (T279.setTop (mkF m 211 #[.val (.int p0), .val (.int p1), .val (.int p2), .val (.int p3), .val (.int p4), .val (.int p5), .val (.ref b191), .val (.int zs), .val (.int zr), .val (.ref b213), .val (.int n5), .val (.ref b235), .val (.int zlen), .unset] [])) (fun t k => XS.istore X279.here hx rfl (hb hby at_209) rfl (l' := #[.val (.int p0), .val (.int p1), .val (.int p2), .val (.int p3), .val (.int p4), .val (.int p5), .val (.ref b191), .val (.int zs), .val (.int zr), .val (.ref b213), .val (.int n5), .val (.ref b235), .val (.int zlen), .unset]) (by rw [hzlen]; rfl) k) ?_
  refine own_via (T279.setTop (mkF m 213 #[.val (.int p0), .val (.int p1), .val (.int p2), .val (.int p3), .val (.int p4), .val (.int p5), .val (.ref b191), .val (.int zs), .val (.int zr), .val (.ref b213), .val (.int n5), .val (.ref b235), .val (.int zlen), .unset] [(.ref b235)])) (fun t k => XS.aload X279.here hx rfl (hb hby at_211) rfl rfl k) ?_
  obtain ⟨cq280, kq280, q280a, q280b, q280c⟩ := isOf hZ e279 G275_0
  obtain ⟨_, _, ⟨T280, L280, k280, n280⟩, -, X280, ⟨Lc280, hQ280, l280, y280, z280⟩, st280⟩ := X279.virtualBack hx (y := (⟨"com/example/honeyguide/honeyguide/Chars", "chars", "()[C"⟩ : MethodName)) (z := (⟨"com/example/honeyguide/honeyguide/Chars", "chars", "()[C"⟩ : MethodName)) hown (mvT hZ (hw _ (List.mem_of_getElem? (i := 48) rfl))) (mvT hZ (hw _ (List.mem_of_getElem? (i := 49) rfl))) (notFace_of_selects (args := #[]) (mvT hZ (hw _ (List.mem_of_getElem? (i := 51) rfl)))) (mvT hZ (hw _ (List.mem_of_getElem? (i := 51) rfl))) (mvT hZ (hw _ (List.mem_of_getElem? (i := 50) rfl))) (by decide) (backOf (W := 0) (rm11 l Z a0 hw [] b235 h275 n0 (Nat.le_trans Z0 K276.1) r_237 G275_1) hZ (hw _ (List.mem_of_getElem? (i := 52) rfl)) (hw _ (List.mem_of_getElem? (i := 14) rfl)) (by decide) (by decide)) q280a q280c (g := (mkF m 213 #[.val (.int p0), .val (.int p1), .val (.int p2), .val (.int p3), .val (.int p4), .val (.int p5), .val (.ref b191), .val (.int zs), .val (.int zr), .val (.ref b213), .val (.int n5), .val (.ref b235), .val (.int zlen), .unset] [(.ref b235)])) rfl (by rw [hml]; rfl) (Steps.refl _) (argsL := []) (rest := []) (lenOf pd_8 rfl) rfl (by show 2 * 0 + _ ≤ _; exact Nat.le_of_eq rfl) (hb hby at_213) (fun _ _ => ⟨rfl, e279, (by decide : 4 + 0 ≤ _), (by decide : 44 + 0 ≤ _)⟩)
  dsimp only [Pt.U, Pt.locs, Pt.cells, Pt.slots] at X280 l280 y280 z280 st280 hQ280
  rw [y280, z280] at X280
  have X280 : Stand _ _ _ _ _ _ _ _ _ _ T280 L280 4 44 := X280
  obtain ⟨rfl, N280q, e280⟩ := hQ280
  have N280 : Fr n0 L280 := by rw [l280]; exact Fr.app N279 N280q
  refine own_via (T280.setTop (mkF m 216 #[.val (.int p0), .val (.int p1), .val (.int p2), .val (.int p3), .val (.int p4), .val (.int p5), .val (.ref b191), .val (.int zs), .val (.int zr), .val (.ref b213), .val (.int n5), .val (.ref b235), .val (.int zlen), .unset] [(.ref r_237)])) (fun t k => st280.trans k) ?_
  refine own_via (T280.setTop (mkF m 218 #[.val (.int p0), .val (.int p1), .val (.int p2), .val (.int p3), .val (.int p4), .val (.int p5), .val (.ref b191), .val (.int zs), .val (.int zr), .val (.ref b213), .val (.int n5), .val (.ref b235), .val (.int zlen), .val (.ref r_237)] [])) (fun t k => XS.astore X280.here hx rfl (hb hby at_216) rfl rfl (l' := #[.val (.int p0), .val (.int p1), .val (.int p2), .val (.int p3), .val (.int p4), .val (.int p5), .val (.ref b191), .val (.int zs), .val (.int zr), .val (.ref b213), .val (.int n5), .val (.ref b235), .val (.int zlen), .val (.ref r_237)]) rfl k) ?_
  obtain ⟨x0, hx0⟩ : ∃ z : Int32, z = nar .char (own_f1 p0) := ⟨_, rfl⟩
  have hy0 : nar .char x0 = x0 := by rw [hx0]; exact own_nn _
  obtain ⟨x1, hx1⟩ : ∃ z : Int32, z = nar .char (own_f1 p1) := ⟨_, rfl⟩
  have hy1 : nar .char x1 = x1 := by rw [hx1]; exact own_nn _
  obtain ⟨x2, hx2⟩ : ∃ z : Int32, z = nar .char (own_f1 p2) := ⟨_, rfl⟩
  have hy2 : nar .char x2 = x2 := by rw [hx2]; exact own_nn _
  obtain ⟨x3, hx3⟩ : ∃ z : Int32, z = nar .char (own_f1 p3) := ⟨_, rfl⟩
  have hy3 : nar .char x3 = x3 := by rw [hx3]; exact own_nn _
  obtain ⟨x4, hx4⟩ : ∃ z : Int32, z = nar .char (own_f1 p4) := ⟨_, rfl⟩
  have hy4 : nar .char x4 = x4 := by rw [hx4]; exact own_nn _
  have hin : f210 = own_arr x0 x1 x2 x3 x4 := by rw [hf210, hf206, hf202, hf198, hf194, ← hx0, ← hx1, ← hx2, ← hx3, ← hx4, own_z, own_u0, own_u1, own_u2, own_u3, own_u4]
  have hgo : f274 = own_arr x0 x1 x2 x3 x4 := by
    rw [hf274, hf267, hf260, hf253, hf246, hin]
    show own_up (own_up (own_up (own_up (own_up (fun _ => (0 : Int32)) 0 (nar .char x0)) 1 (nar .char x1)) 2 (nar .char x2)) 3 (nar .char x3)) 4 (nar .char x4) = _
    rw [hy0, hy1, hy2, hy3, hy4, own_z, own_u0, own_u1, own_u2, own_u3, own_u4]
  have hmain := own_main x0 x1 x2 x3 x4 zs (own_sb hzs) hy0 hy1 hy2 hy3 hy4 f218 f222 f226 f230 f234 n1 n2 n3 n4 n5 (by rw [hf218, hin, own_z]) (by rw [hn1, hin]) (by rw [hf222, hin]) (by rw [hn2, hin]) (by rw [hf226, hin]) (by rw [hn3, hin]) (by rw [hf230, hin]) (by rw [hn4, hin]) (by rw [hf234, hin]) (by rw [hn5, hin])
  have hlen : zlen = n5 := by rw [hzlen, hz277, hgo]; exact hmain.1
  have hcol : f278 = (own_colx zs (own_arr x0 x1 x2 x3 x4)).1 := by rw [hf278, hgo]
  have hsm0 : ¬ (0 : Int32) < n5 ∨ f278 (0 : Int32).toInt.toNat = f234 (0 : Int32).toInt.toNat := by rw [hcol]; exact hmain.2.1
  have hsm1 : ¬ (1 : Int32) < n5 ∨ f278 (1 : Int32).toInt.toNat = f234 (1 : Int32).toInt.toNat := by rw [hcol]; exact hmain.2.2.1
  have hsm2 : ¬ (2 : Int32) < n5 ∨ f278 (2 : Int32).toInt.toNat = f234 (2 : Int32).toInt.toNat := by rw [hcol]; exact hmain.2.2.2.1
  have hsm3 : ¬ (3 : Int32) < n5 ∨ f278 (3 : Int32).toInt.toNat = f234 (3 : Int32).toInt.toNat := by rw [hcol]; exact hmain.2.2.2.2.1
  have hsm4 : ¬ (4 : Int32) < n5 ∨ f278 (4 : Int32).toInt.toNat = f234 (4 : Int32).toInt.toNat := by rw [hcol]; exact hmain.2.2.2.2.2
  refine own_via (T280.setTop (mkF m 220 #[.val (.int p0), .val (.int p1), .val (.int p2), .val (.int p3), .val (.int p4), .val (.int p5), .val (.ref b191), .val (.int zs), .val (.int zr), .val (.ref b213), .val (.int n5), .val (.ref b235), .val (.int zlen), .val (.ref r_237)] [(.int zlen)])) (fun t k => XS.iload X280.here hx rfl (hb hby at_218) rfl  k) ?_
  refine own_via (T280.setTop (mkF m 222 #[.val (.int p0), .val (.int p1), .val (.int p2), .val (.int p3), .val (.int p4), .val (.int p5), .val (.ref b191), .val (.int zs), .val (.int zr), .val (.ref b213), .val (.int n5), .val (.ref b235), .val (.int zlen), .val (.ref r_237)] [(.int n5), (.int zlen)])) (fun t k => XS.iload X280.here hx rfl (hb hby at_220) rfl  k) ?_
  by_cases hc222_281 : zlen = n5
  · refine own_via (T280.setTop (mkF m 227 #[.val (.int p0), .val (.int p1), .val (.int p2), .val (.int p3), .val (.int p4), .val (.int p5), .val (.ref b191), .val (.int zs), .val (.int zr), .val (.ref b213), .val (.int n5), .val (.ref b235), .val (.int zlen), .val (.ref r_237)] [])) (fun t k => XS.icmpYes X280.here hx rfl (pc0 := 222) (pc' := 227) rfl (hb hby at_222) rfl (teq hc222_281).1 (by decide) (by decide) k) ?_
    refine own_via (T280.setTop (mkF m 229 #[.val (.int p0), .val (.int p1), .val (.int p2), .val (.int p3), .val (.int p4), .val (.int p5), .val (.ref b191), .val (.int zs), .val (.int zr), .val (.ref b213), .val (.int n5), .val (.ref b235), .val (.int zlen), .val (.ref r_237)] [(.ref r_237)])) (fun t k => XS.aload X280.here hx rfl (hb hby at_227) rfl rfl k) ?_
    refine own_via (T280.setTop (mkF m 231 #[.val (.int p0), .val (.int p1), .val (.int p2), .val (.int p3), .val (.int p4), .val (.int p5), .val (.ref b191), .val (.int zs), .val (.int zr), .val (.ref b213), .val (.int n5), .val (.ref b235), .val (.int zlen), .val (.ref r_237)] [(.ref b213), (.ref r_237)])) (fun t k => XS.aload X280.here hx rfl (hb hby at_229) rfl rfl k) ?_
    refine own_via (T280.setTop (mkF m 233 #[.val (.int p0), .val (.int p1), .val (.int p2), .val (.int p3), .val (.int p4), .val (.int p5), .val (.ref b191), .val (.int zs), .val (.int zr), .val (.ref b213), .val (.int n5), .val (.ref b235), .val (.int zlen), .val (.ref r_237)] [(.int n5), (.ref b213), (.ref r_237)])) (fun t k => XS.iload X280.here hx rfl (hb hby at_231) rfl  k) ?_
    refine own_via (T280.setTop (mkF m 234 #[.val (.int p0), .val (.int p1), .val (.int p2), .val (.int p3), .val (.int p4), .val (.int p5), .val (.ref b191), .val (.int zs), .val (.int zr), .val (.ref b213), .val (.int n5), .val (.ref b235), .val (.int zlen), .val (.ref r_237)] [(.int (0 : Int32)), (.int n5), (.ref b213), (.ref r_237)])) (fun t k => XS.iconst X280.here hx rfl (hb hby at_233) k) ?_
    have F283 := ((((((((G231_0.ext E235).keep K237q (fun q => ne_b213_b235 (List.mem_singleton.mp q))).keep K243q (fun q => (List.mem_cons.mp q).elim ne_b213_b235 (fun q => (List.mem_cons.mp q).elim ne_b213_r_237 (fun q => nomatch q)))).keep K250q (fun q => (List.mem_cons.mp q).elim ne_b213_b235 (fun q => (List.mem_cons.mp q).elim ne_b213_r_237 (fun q => nomatch q)))).keep K257q (fun q => (List.mem_cons.mp q).elim ne_b213_b235 (fun q => (List.mem_cons.mp q).elim ne_b213_r_237 (fun q => nomatch q)))).keep K264q (fun q => (List.mem_cons.mp q).elim ne_b213_b235 (fun q => (List.mem_cons.mp q).elim ne_b213_r_237 (fun q => nomatch q)))).keep K271q (fun q => (List.mem_cons.mp q).elim ne_b213_b235 (fun q => (List.mem_cons.mp q).elim ne_b213_r_237 (fun q => nomatch q)))).keep K275q (fun q => (List.mem_cons.mp q).elim ne_b213_b235 (fun q => (List.mem_cons.mp q).elim ne_b213_r_237 (fun q => nomatch q))))
    obtain ⟨_, _, ⟨T282, L282, k282, n282⟩, -, X282, ⟨Lc282, hQ282, l282, y282, z282⟩, st282⟩ := Jvm.LawKit.callS X280 hx (y := (⟨"com/example/honeyguide/honeyguide/CharsCollapseSpacesPinLaw", "same", "([C[CII)Z"⟩ : MethodName)) hown (mvT hZ (hw _ (List.mem_of_getElem? (i := 53) rfl))) (mvT hZ (hw _ (List.mem_of_getElem? (i := 54) rfl))) (mvT hZ (hw _ (List.mem_of_getElem? (i := 3) rfl))) (mvT hZ (hw _ (List.mem_of_getElem? (i := 55) rfl))) (by decide) (backOf (W := 0) (rm12 l Z a0 hw [] r_237 b213 n5 (0 : Int32) h275 n0 (Nat.le_trans Z0 K276.1) N239n f278 f234 G275_3 F283 (by decide) (by rw [hN239n]; exact own_Nb (own_rb hzr))) hZ (hw _ (List.mem_of_getElem? (i := 55) rfl)) (hw _ (List.mem_of_getElem? (i := 3) rfl)) (by decide) (by decide)) (g := (mkF m 234 #[.val (.int p0), .val (.int p1), .val (.int p2), .val (.int p3), .val (.int p4), .val (.int p5), .val (.ref b191), .val (.int zs), .val (.int zr), .val (.ref b213), .val (.int n5), .val (.ref b235), .val (.int zlen), .val (.ref r_237)] [(.int (0 : Int32)), (.int n5), (.ref b213), (.ref r_237)])) rfl (by rw [hml]; rfl) (argsL := [(.ref r_237), (.ref b213), (.int n5), (.int (0 : Int32))]) (rest := []) (lenOf pd_9 rfl) rfl (by show 2 * 0 + _ ≤ _; exact Nat.le_of_eq rfl) (hb hby at_234) (fun _ _ => ⟨rfl, e280, (by decide : 4 + 0 ≤ _), (by decide : 44 + 0 ≤ _)⟩)
    dsimp only [Pt.U, Pt.locs, Pt.cells, Pt.slots] at X282 l282 y282 z282 st282 hQ282
    rw [y282, z282] at X282
    have X282 : Stand _ _ _ _ _ _ _ _ _ _ T282 L282 4 44 := X282
    obtain ⟨rfl, N282q, e282⟩ := hQ282
    have N282 : Fr n0 L282 := by rw [l282]; exact Fr.app N280 N282q
    refine own_via (T282.setTop (mkF m 237 #[.val (.int p0), .val (.int p1), .val (.int p2), .val (.int p3), .val (.int p4), .val (.int p5), .val (.ref b191), .val (.int zs), .val (.int zr), .val (.ref b213), .val (.int n5), .val (.ref b235), .val (.int zlen), .val (.ref r_237)] [(.int (own_f12 n5 (0 : Int32) N239n f278 f234))])) (fun t k => st282 t k) ?_
    by_cases hc237_284 : (own_f12 n5 (0 : Int32) N239n f278 f234) = (0 : Int32)
    · exact absurd hc237_284 (own_same hsm0)
    · refine own_via (T282.setTop (mkF m 240 #[.val (.int p0), .val (.int p1), .val (.int p2), .val (.int p3), .val (.int p4), .val (.int p5), .val (.ref b191), .val (.int zs), .val (.int zr), .val (.ref b213), .val (.int n5), .val (.ref b235), .val (.int zlen), .val (.ref r_237)] [])) (fun t k => XS.ifNo X282.here hx rfl (hb hby at_237) rfl ((if0 _ _).trans (feq hc237_284).1) k) ?_
      refine own_via (T282.setTop (mkF m 242 #[.val (.int p0), .val (.int p1), .val (.int p2), .val (.int p3), .val (.int p4), .val (.int p5), .val (.ref b191), .val (.int zs), .val (.int zr), .val (.ref b213), .val (.int n5), .val (.ref b235), .val (.int zlen), .val (.ref r_237)] [(.ref r_237)])) (fun t k => XS.aload X282.here hx rfl (hb hby at_240) rfl rfl k) ?_
      refine own_via (T282.setTop (mkF m 244 #[.val (.int p0), .val (.int p1), .val (.int p2), .val (.int p3), .val (.int p4), .val (.int p5), .val (.ref b191), .val (.int zs), .val (.int zr), .val (.ref b213), .val (.int n5), .val (.ref b235), .val (.int zlen), .val (.ref r_237)] [(.ref b213), (.ref r_237)])) (fun t k => XS.aload X282.here hx rfl (hb hby at_242) rfl rfl k) ?_
      refine own_via (T282.setTop (mkF m 246 #[.val (.int p0), .val (.int p1), .val (.int p2), .val (.int p3), .val (.int p4), .val (.int p5), .val (.ref b191), .val (.int zs), .val (.int zr), .val (.ref b213), .val (.int n5), .val (.ref b235), .val (.int zlen), .val (.ref r_237)] [(.int n5), (.ref b213), (.ref r_237)])) (fun t k => XS.iload X282.here hx rfl (hb hby at_244) rfl  k) ?_
      refine own_via (T282.setTop (mkF m 247 #[.val (.int p0), .val (.int p1), .val (.int p2), .val (.int p3), .val (.int p4), .val (.int p5), .val (.ref b191), .val (.int zs), .val (.int zr), .val (.ref b213), .val (.int n5), .val (.ref b235), .val (.int zlen), .val (.ref r_237)] [(.int (1 : Int32)), (.int n5), (.ref b213), (.ref r_237)])) (fun t k => XS.iconst X282.here hx rfl (hb hby at_246) k) ?_
      obtain ⟨_, _, ⟨T285, L285, k285, n285⟩, -, X285, ⟨Lc285, hQ285, l285, y285, z285⟩, st285⟩ := Jvm.LawKit.callS X282 hx (y := (⟨"com/example/honeyguide/honeyguide/CharsCollapseSpacesPinLaw", "same", "([C[CII)Z"⟩ : MethodName)) hown (mvT hZ (hw _ (List.mem_of_getElem? (i := 53) rfl))) (mvT hZ (hw _ (List.mem_of_getElem? (i := 54) rfl))) (mvT hZ (hw _ (List.mem_of_getElem? (i := 3) rfl))) (mvT hZ (hw _ (List.mem_of_getElem? (i := 55) rfl))) (by decide) (backOf (W := 0) (rm12 l Z a0 hw [] r_237 b213 n5 (1 : Int32) h275 n0 (Nat.le_trans Z0 K276.1) N239n f278 f234 G275_3 F283 (by decide) (by rw [hN239n]; exact own_Nb (own_rb hzr))) hZ (hw _ (List.mem_of_getElem? (i := 55) rfl)) (hw _ (List.mem_of_getElem? (i := 3) rfl)) (by decide) (by decide)) (g := (mkF m 247 #[.val (.int p0), .val (.int p1), .val (.int p2), .val (.int p3), .val (.int p4), .val (.int p5), .val (.ref b191), .val (.int zs), .val (.int zr), .val (.ref b213), .val (.int n5), .val (.ref b235), .val (.int zlen), .val (.ref r_237)] [(.int (1 : Int32)), (.int n5), (.ref b213), (.ref r_237)])) rfl (by rw [hml]; rfl) (argsL := [(.ref r_237), (.ref b213), (.int n5), (.int (1 : Int32))]) (rest := []) (lenOf pd_9 rfl) rfl (by show 2 * 0 + _ ≤ _; exact Nat.le_of_eq rfl) (hb hby at_247) (fun _ _ => ⟨rfl, e282, (by decide : 4 + 0 ≤ _), (by decide : 44 + 0 ≤ _)⟩)
      dsimp only [Pt.U, Pt.locs, Pt.cells, Pt.slots] at X285 l285 y285 z285 st285 hQ285
      rw [y285, z285] at X285
      have X285 : Stand _ _ _ _ _ _ _ _ _ _ T285 L285 4 44 := X285
      obtain ⟨rfl, N285q, e285⟩ := hQ285
      have N285 : Fr n0 L285 := by rw [l285]; exact Fr.app N282 N285q
      refine own_via (T285.setTop (mkF m 250 #[.val (.int p0), .val (.int p1), .val (.int p2), .val (.int p3), .val (.int p4), .val (.int p5), .val (.ref b191), .val (.int zs), .val (.int zr), .val (.ref b213), .val (.int n5), .val (.ref b235), .val (.int zlen), .val (.ref r_237)] [(.int (own_f12 n5 (1 : Int32) N239n f278 f234))])) (fun t k => st285 t k) ?_
      by_cases hc250_286 : (own_f12 n5 (1 : Int32) N239n f278 f234) = (0 : Int32)
      · exact absurd hc250_286 (own_same hsm1)
      · refine own_via (T285.setTop (mkF m 253 #[.val (.int p0), .val (.int p1), .val (.int p2), .val (.int p3), .val (.int p4), .val (.int p5), .val (.ref b191), .val (.int zs), .val (.int zr), .val (.ref b213), .val (.int n5), .val (.ref b235), .val (.int zlen), .val (.ref r_237)] [])) (fun t k => XS.ifNo X285.here hx rfl (hb hby at_250) rfl ((if0 _ _).trans (feq hc250_286).1) k) ?_
        refine own_via (T285.setTop (mkF m 255 #[.val (.int p0), .val (.int p1), .val (.int p2), .val (.int p3), .val (.int p4), .val (.int p5), .val (.ref b191), .val (.int zs), .val (.int zr), .val (.ref b213), .val (.int n5), .val (.ref b235), .val (.int zlen), .val (.ref r_237)] [(.ref r_237)])) (fun t k => XS.aload X285.here hx rfl (hb hby at_253) rfl rfl k) ?_
        refine own_via (T285.setTop (mkF m 257 #[.val (.int p0), .val (.int p1), .val (.int p2), .val (.int p3), .val (.int p4), .val (.int p5), .val (.ref b191), .val (.int zs), .val (.int zr), .val (.ref b213), .val (.int n5), .val (.ref b235), .val (.int zlen), .val (.ref r_237)] [(.ref b213), (.ref r_237)])) (fun t k => XS.aload X285.here hx rfl (hb hby at_255) rfl rfl k) ?_
        refine own_via (T285.setTop (mkF m 259 #[.val (.int p0), .val (.int p1), .val (.int p2), .val (.int p3), .val (.int p4), .val (.int p5), .val (.ref b191), .val (.int zs), .val (.int zr), .val (.ref b213), .val (.int n5), .val (.ref b235), .val (.int zlen), .val (.ref r_237)] [(.int n5), (.ref b213), (.ref r_237)])) (fun t k => XS.iload X285.here hx rfl (hb hby at_257) rfl  k) ?_
        refine own_via (T285.setTop (mkF m 260 #[.val (.int p0), .val (.int p1), .val (.int p2), .val (.int p3), .val (.int p4), .val (.int p5), .val (.ref b191), .val (.int zs), .val (.int zr), .val (.ref b213), .val (.int n5), .val (.ref b235), .val (.int zlen), .val (.ref r_237)] [(.int (2 : Int32)), (.int n5), (.ref b213), (.ref r_237)])) (fun t k => XS.iconst X285.here hx rfl (hb hby at_259) k) ?_
        obtain ⟨_, _, ⟨T287, L287, k287, n287⟩, -, X287, ⟨Lc287, hQ287, l287, y287, z287⟩, st287⟩ := Jvm.LawKit.callS X285 hx (y := (⟨"com/example/honeyguide/honeyguide/CharsCollapseSpacesPinLaw", "same", "([C[CII)Z"⟩ : MethodName)) hown (mvT hZ (hw _ (List.mem_of_getElem? (i := 53) rfl))) (mvT hZ (hw _ (List.mem_of_getElem? (i := 54) rfl))) (mvT hZ (hw _ (List.mem_of_getElem? (i := 3) rfl))) (mvT hZ (hw _ (List.mem_of_getElem? (i := 55) rfl))) (by decide) (backOf (W := 0) (rm12 l Z a0 hw [] r_237 b213 n5 (2 : Int32) h275 n0 (Nat.le_trans Z0 K276.1) N239n f278 f234 G275_3 F283 (by decide) (by rw [hN239n]; exact own_Nb (own_rb hzr))) hZ (hw _ (List.mem_of_getElem? (i := 55) rfl)) (hw _ (List.mem_of_getElem? (i := 3) rfl)) (by decide) (by decide)) (g := (mkF m 260 #[.val (.int p0), .val (.int p1), .val (.int p2), .val (.int p3), .val (.int p4), .val (.int p5), .val (.ref b191), .val (.int zs), .val (.int zr), .val (.ref b213), .val (.int n5), .val (.ref b235), .val (.int zlen), .val (.ref r_237)] [(.int (2 : Int32)), (.int n5), (.ref b213), (.ref r_237)])) rfl (by rw [hml]; rfl) (argsL := [(.ref r_237), (.ref b213), (.int n5), (.int (2 : Int32))]) (rest := []) (lenOf pd_9 rfl) rfl (by show 2 * 0 + _ ≤ _; exact Nat.le_of_eq rfl) (hb hby at_260) (fun _ _ => ⟨rfl, e285, (by decide : 4 + 0 ≤ _), (by decide : 44 + 0 ≤ _)⟩)
        dsimp only [Pt.U, Pt.locs, Pt.cells, Pt.slots] at X287 l287 y287 z287 st287 hQ287
        rw [y287, z287] at X287
        have X287 : Stand _ _ _ _ _ _ _ _ _ _ T287 L287 4 44 := X287
        obtain ⟨rfl, N287q, e287⟩ := hQ287
        have N287 : Fr n0 L287 := by rw [l287]; exact Fr.app N285 N287q
        refine own_via (T287.setTop (mkF m 263 #[.val (.int p0), .val (.int p1), .val (.int p2), .val (.int p3), .val (.int p4), .val (.int p5), .val (.ref b191), .val (.int zs), .val (.int zr), .val (.ref b213), .val (.int n5), .val (.ref b235), .val (.int zlen), .val (.ref r_237)] [(.int (own_f12 n5 (2 : Int32) N239n f278 f234))])) (fun t k => st287 t k) ?_
        by_cases hc263_288 : (own_f12 n5 (2 : Int32) N239n f278 f234) = (0 : Int32)
        · exact absurd hc263_288 (own_same hsm2)
        · refine own_via (T287.setTop (mkF m 266 #[.val (.int p0), .val (.int p1), .val (.int p2), .val (.int p3), .val (.int p4), .val (.int p5), .val (.ref b191), .val (.int zs), .val (.int zr), .val (.ref b213), .val (.int n5), .val (.ref b235), .val (.int zlen), .val (.ref r_237)] [])) (fun t k => XS.ifNo X287.here hx rfl (hb hby at_263) rfl ((if0 _ _).trans (feq hc263_288).1) k) ?_
          refine own_via (T287.setTop (mkF m 268 #[.val (.int p0), .val (.int p1), .val (.int p2), .val (.int p3), .val (.int p4), .val (.int p5), .val (.ref b191), .val (.int zs), .val (.int zr), .val (.ref b213), .val (.int n5), .val (.ref b235), .val (.int zlen), .val (.ref r_237)] [(.ref r_237)])) (fun t k => XS.aload X287.here hx rfl (hb hby at_266) rfl rfl k) ?_
          refine own_via (T287.setTop (mkF m 270 #[.val (.int p0), .val (.int p1), .val (.int p2), .val (.int p3), .val (.int p4), .val (.int p5), .val (.ref b191), .val (.int zs), .val (.int zr), .val (.ref b213), .val (.int n5), .val (.ref b235), .val (.int zlen), .val (.ref r_237)] [(.ref b213), (.ref r_237)])) (fun t k => XS.aload X287.here hx rfl (hb hby at_268) rfl rfl k) ?_
          refine own_via (T287.setTop (mkF m 272 #[.val (.int p0), .val (.int p1), .val (.int p2), .val (.int p3), .val (.int p4), .val (.int p5), .val (.ref b191), .val (.int zs), .val (.int zr), .val (.ref b213), .val (.int n5), .val (.ref b235), .val (.int zlen), .val (.ref r_237)] [(.int n5), (.ref b213), (.ref r_237)])) (fun t k => XS.iload X287.here hx rfl (hb hby at_270) rfl  k) ?_
          refine own_via (T287.setTop (mkF m 273 #[.val (.int p0), .val (.int p1), .val (.int p2), .val (.int p3), .val (.int p4), .val (.int p5), .val (.ref b191), .val (.int zs), .val (.int zr), .val (.ref b213), .val (.int n5), .val (.ref b235), .val (.int zlen), .val (.ref r_237)] [(.int (3 : Int32)), (.int n5), (.ref b213), (.ref r_237)])) (fun t k => XS.iconst X287.here hx rfl (hb hby at_272) k) ?_
          obtain ⟨_, _, ⟨T289, L289, k289, n289⟩, -, X289, ⟨Lc289, hQ289, l289, y289, z289⟩, st289⟩ := Jvm.LawKit.callS X287 hx (y := (⟨"com/example/honeyguide/honeyguide/CharsCollapseSpacesPinLaw", "same", "([C[CII)Z"⟩ : MethodName)) hown (mvT hZ (hw _ (List.mem_of_getElem? (i := 53) rfl))) (mvT hZ (hw _ (List.mem_of_getElem? (i := 54) rfl))) (mvT hZ (hw _ (List.mem_of_getElem? (i := 3) rfl))) (mvT hZ (hw _ (List.mem_of_getElem? (i := 55) rfl))) (by decide) (backOf (W := 0) (rm12 l Z a0 hw [] r_237 b213 n5 (3 : Int32) h275 n0 (Nat.le_trans Z0 K276.1) N239n f278 f234 G275_3 F283 (by decide) (by rw [hN239n]; exact own_Nb (own_rb hzr))) hZ (hw _ (List.mem_of_getElem? (i := 55) rfl)) (hw _ (List.mem_of_getElem? (i := 3) rfl)) (by decide) (by decide)) (g := (mkF m 273 #[.val (.int p0), .val (.int p1), .val (.int p2), .val (.int p3), .val (.int p4), .val (.int p5), .val (.ref b191), .val (.int zs), .val (.int zr), .val (.ref b213), .val (.int n5), .val (.ref b235), .val (.int zlen), .val (.ref r_237)] [(.int (3 : Int32)), (.int n5), (.ref b213), (.ref r_237)])) rfl (by rw [hml]; rfl) (argsL := [(.ref r_237), (.ref b213), (.int n5), (.int (3 : Int32))]) (rest := []) (lenOf pd_9 rfl) rfl (by show 2 * 0 + _ ≤ _; exact Nat.le_of_eq rfl) (hb hby at_273) (fun _ _ => ⟨rfl, e287, (by decide : 4 + 0 ≤ _), (by decide : 44 + 0 ≤ _)⟩)
          dsimp only [Pt.U, Pt.locs, Pt.cells, Pt.slots] at X289 l289 y289 z289 st289 hQ289
          rw [y289, z289] at X289
          have X289 : Stand _ _ _ _ _ _ _ _ _ _ T289 L289 4 44 := X289
          obtain ⟨rfl, N289q, e289⟩ := hQ289
          have N289 : Fr n0 L289 := by rw [l289]; exact Fr.app N287 N289q
          refine own_via (T289.setTop (mkF m 276 #[.val (.int p0), .val (.int p1), .val (.int p2), .val (.int p3), .val (.int p4), .val (.int p5), .val (.ref b191), .val (.int zs), .val (.int zr), .val (.ref b213), .val (.int n5), .val (.ref b235), .val (.int zlen), .val (.ref r_237)] [(.int (own_f12 n5 (3 : Int32) N239n f278 f234))])) (fun t k => st289 t k) ?_
          by_cases hc276_290 : (own_f12 n5 (3 : Int32) N239n f278 f234) = (0 : Int32)
          · exact absurd hc276_290 (own_same hsm3)
          · refine own_via (T289.setTop (mkF m 279 #[.val (.int p0), .val (.int p1), .val (.int p2), .val (.int p3), .val (.int p4), .val (.int p5), .val (.ref b191), .val (.int zs), .val (.int zr), .val (.ref b213), .val (.int n5), .val (.ref b235), .val (.int zlen), .val (.ref r_237)] [])) (fun t k => XS.ifNo X289.here hx rfl (hb hby at_276) rfl ((if0 _ _).trans (feq hc276_290).1) k) ?_
            refine own_via (T289.setTop (mkF m 281 #[.val (.int p0), .val (.int p1), .val (.int p2), .val (.int p3), .val (.int p4), .val (.int p5), .val (.ref b191), .val (.int zs), .val (.int zr), .val (.ref b213), .val (.int n5), .val (.ref b235), .val (.int zlen), .val (.ref r_237)] [(.ref r_237)])) (fun t k => XS.aload X289.here hx rfl (hb hby at_279) rfl rfl k) ?_
            refine own_via (T289.setTop (mkF m 283 #[.val (.int p0), .val (.int p1), .val (.int p2), .val (.int p3), .val (.int p4), .val (.int p5), .val (.ref b191), .val (.int zs), .val (.int zr), .val (.ref b213), .val (.int n5), .val (.ref b235), .val (.int zlen), .val (.ref r_237)] [(.ref b213), (.ref r_237)])) (fun t k => XS.aload X289.here hx rfl (hb hby at_281) rfl rfl k) ?_
            refine own_via (T289.setTop (mkF m 285 #[.val (.int p0), .val (.int p1), .val (.int p2), .val (.int p3), .val (.int p4), .val (.int p5), .val (.ref b191), .val (.int zs), .val (.int zr), .val (.ref b213), .val (.int n5), .val (.ref b235), .val (.int zlen), .val (.ref r_237)] [(.int n5), (.ref b213), (.ref r_237)])) (fun t k => XS.iload X289.here hx rfl (hb hby at_283) rfl  k) ?_
            refine own_via (T289.setTop (mkF m 286 #[.val (.int p0), .val (.int p1), .val (.int p2), .val (.int p3), .val (.int p4), .val (.int p5), .val (.ref b191), .val (.int zs), .val (.int zr), .val (.ref b213), .val (.int n5), .val (.ref b235), .val (.int zlen), .val (.ref r_237)] [(.int (4 : Int32)), (.int n5), (.ref b213), (.ref r_237)])) (fun t k => XS.iconst X289.here hx rfl (hb hby at_285) k) ?_
            obtain ⟨_, _, ⟨T291, L291, k291, n291⟩, -, X291, ⟨Lc291, hQ291, l291, y291, z291⟩, st291⟩ := Jvm.LawKit.callS X289 hx (y := (⟨"com/example/honeyguide/honeyguide/CharsCollapseSpacesPinLaw", "same", "([C[CII)Z"⟩ : MethodName)) hown (mvT hZ (hw _ (List.mem_of_getElem? (i := 53) rfl))) (mvT hZ (hw _ (List.mem_of_getElem? (i := 54) rfl))) (mvT hZ (hw _ (List.mem_of_getElem? (i := 3) rfl))) (mvT hZ (hw _ (List.mem_of_getElem? (i := 55) rfl))) (by decide) (backOf (W := 0) (rm12 l Z a0 hw [] r_237 b213 n5 (4 : Int32) h275 n0 (Nat.le_trans Z0 K276.1) N239n f278 f234 G275_3 F283 (by decide) (by rw [hN239n]; exact own_Nb (own_rb hzr))) hZ (hw _ (List.mem_of_getElem? (i := 55) rfl)) (hw _ (List.mem_of_getElem? (i := 3) rfl)) (by decide) (by decide)) (g := (mkF m 286 #[.val (.int p0), .val (.int p1), .val (.int p2), .val (.int p3), .val (.int p4), .val (.int p5), .val (.ref b191), .val (.int zs), .val (.int zr), .val (.ref b213), .val (.int n5), .val (.ref b235), .val (.int zlen), .val (.ref r_237)] [(.int (4 : Int32)), (.int n5), (.ref b213), (.ref r_237)])) rfl (by rw [hml]; rfl) (argsL := [(.ref r_237), (.ref b213), (.int n5), (.int (4 : Int32))]) (rest := []) (lenOf pd_9 rfl) rfl (by show 2 * 0 + _ ≤ _; exact Nat.le_of_eq rfl) (hb hby at_286) (fun _ _ => ⟨rfl, e289, (by decide : 4 + 0 ≤ _), (by decide : 44 + 0 ≤ _)⟩)
            dsimp only [Pt.U, Pt.locs, Pt.cells, Pt.slots] at X291 l291 y291 z291 st291 hQ291
            rw [y291, z291] at X291
            have X291 : Stand _ _ _ _ _ _ _ _ _ _ T291 L291 4 44 := X291
            obtain ⟨rfl, N291q, e291⟩ := hQ291
            have N291 : Fr n0 L291 := by rw [l291]; exact Fr.app N289 N291q
            refine own_via (T291.setTop (mkF m 289 #[.val (.int p0), .val (.int p1), .val (.int p2), .val (.int p3), .val (.int p4), .val (.int p5), .val (.ref b191), .val (.int zs), .val (.int zr), .val (.ref b213), .val (.int n5), .val (.ref b235), .val (.int zlen), .val (.ref r_237)] [(.int (own_f12 n5 (4 : Int32) N239n f278 f234))])) (fun t k => st291 t k) ?_
            obtain ⟨z292, hz292⟩ : ∃ z : Int32, z = (if (own_f12 n5 (4 : Int32) N239n f278 f234) = (0 : Int32) then (0 : Int32) else (1 : Int32)) := ⟨_, rfl⟩
            refine own_via (T291.setTop (mkF m 297 #[.val (.int p0), .val (.int p1), .val (.int p2), .val (.int p3), .val (.int p4), .val (.int p5), .val (.ref b191), .val (.int zs), .val (.int zr), .val (.ref b213), .val (.int n5), .val (.ref b235), .val (.int zlen), .val (.ref r_237)] [(.int z292)])) (fun t k => ?_) ?_
            · skip
              by_cases hj289_293 : (own_f12 n5 (4 : Int32) N239n f278 f234) = (0 : Int32)
              · refine XS.ifYes X291.here hx rfl (pc0 := 289) (pc' := 296) rfl (hb hby at_289) rfl ((if0 _ _).trans (teq hj289_293).1) (by decide) (by decide) (?_ : Steps p.tables e below (T291.setTop (mkF m 296 #[.val (.int p0), .val (.int p1), .val (.int p2), .val (.int p3), .val (.int p4), .val (.int p5), .val (.ref b191), .val (.int zs), .val (.int zr), .val (.ref b213), .val (.int n5), .val (.ref b235), .val (.int zlen), .val (.ref r_237)] [])) t)
                refine XS.iconst X291.here hx rfl (hb hby at_296) (?_ : Steps p.tables e below (T291.setTop (mkF m 297 #[.val (.int p0), .val (.int p1), .val (.int p2), .val (.int p3), .val (.int p4), .val (.int p5), .val (.ref b191), .val (.int zs), .val (.int zr), .val (.ref b213), .val (.int n5), .val (.ref b235), .val (.int zlen), .val (.ref r_237)] [(.int (0 : Int32))])) t)
                have q_z292 := (hz292.trans (if_pos hj289_293))
                subst q_z292
                exact k
              · refine XS.ifNo X291.here hx rfl (hb hby at_289) rfl ((if0 _ _).trans (feq hj289_293).1) (?_ : Steps p.tables e below (T291.setTop (mkF m 292 #[.val (.int p0), .val (.int p1), .val (.int p2), .val (.int p3), .val (.int p4), .val (.int p5), .val (.ref b191), .val (.int zs), .val (.int zr), .val (.ref b213), .val (.int n5), .val (.ref b235), .val (.int zlen), .val (.ref r_237)] [])) t)
                refine XS.iconst X291.here hx rfl (hb hby at_292) (?_ : Steps p.tables e below (T291.setTop (mkF m 293 #[.val (.int p0), .val (.int p1), .val (.int p2), .val (.int p3), .val (.int p4), .val (.int p5), .val (.ref b191), .val (.int zs), .val (.int zr), .val (.ref b213), .val (.int n5), .val (.ref b235), .val (.int zlen), .val (.ref r_237)] [(.int (1 : Int32))])) t)
                refine XS.goto X291.here hx rfl (pc0 := 293) (pc' := 297) rfl (hb hby at_293) (by decide) (by decide) (?_ : Steps p.tables e below (T291.setTop (mkF m 297 #[.val (.int p0), .val (.int p1), .val (.int p2), .val (.int p3), .val (.int p4), .val (.int p5), .val (.ref b191), .val (.int zs), .val (.int zr), .val (.ref b213), .val (.int n5), .val (.ref b235), .val (.int zlen), .val (.ref r_237)] [(.int (1 : Int32))])) t)
                have q_z292 := (hz292.trans (if_neg hj289_293))
                subst q_z292
                exact k
            refine own_leave X291 Bd.notSynchronized (v := some (.int (nar .boolean z292))) (fun h => by rw [Bd.returns] at h; cases h) (fun fs hr => retN X291 hx (t := .boolean) Bd.returns (by simp) (hb hby at_297) hr) ?_ (by decide) (by decide)
            refine ⟨?_, N291⟩
            rw [hz292, if_neg (own_same hsm4)]; rfl
  · exact absurd hlen hc222_281
set_option maxRecDepth 65536 in
set_option maxHeartbeats 40000000 in
theorem comes_1 {Post : Tables → Env → Array Value → State → Outcome → State → Prop} (hpost : ∀ tb e args s v u, (limb_1_1.after args s (.returned v) u = true ∧ limb_1_2.after args s (.returned v) u = true ∧ True) → FrameEnd s (.returned v) u (Jvm.fieldLocs frame_1_writes args s ++ Jvm.arrayLocs frame_1_arrays args s ++ Jvm.staticLocs frame_1_statics s) 16 192 → Post tb e args s (.returned v) u) :
    ArmFor flags0 classFile x code maxLocals ret World_1 tables_1 room_1 Calls_1 rest_1 Pre_1 Post := by
  intro l hfl _ _ p e ha hc hk s m args below hf hA hF happ hP
  obtain ⟨hcalls, hrest, hpre⟩ := hP
  obtain ⟨-, -, -, hnamed, -, -, -, hat⟩ := (Spec.applies_iff hf).mp happ
  obtain ⟨hg, hn⟩ := and_e (Cond.before_iff.mp (show (Jvm.Cond.and given_1 narrow_1).before args s = true from hpre))
  obtain ⟨g0, g⟩ := and_e hg
  obtain ⟨ga0, g⟩ := and_e g
  obtain ⟨ga1, g⟩ := and_e g
  obtain ⟨ga2, g⟩ := and_e g
  obtain ⟨ga3, g⟩ := and_e g
  obtain ⟨ga4, g⟩ := and_e g
  have ga5 := g
  obtain ⟨w0, w1, w2, w3, w4, w5, rfl⟩ : ∃ w0 w1 w2 w3 w4 w5 : Value, args = #[w0, w1, w2, w3, w4, w5] := by
    have hs : args.size = 6 := by simpa [Cond.value, given_1] using g0
    obtain ⟨L⟩ := args
    match L, hs with
    | [w0, w1, w2, w3, w4, w5], _ => exact ⟨w0, w1, w2, w3, w4, w5, rfl⟩
  have hw := fun d (hd : d ∈ tables_1) => atoms_spec (ws := Jvm.Cond.code x code maxLocals ret :: tables_1) hat d (List.mem_cons_of_mem _ hd)
  have hfit : Fit s := fun {y c} hc i hi => by
    obtain ⟨ha, rfl⟩ := Array.getElem?_eq_some_iff.mp hc
    have q := List.all_eq_true.mp ((Array.all_eq_true_iff_forall_mem.mp hF) _ (Array.getElem_mem ha)) i (List.mem_range.mpr hi)
    simpa [Array.getElem?_eq_getElem hi] using q
  obtain ⟨i0, ei0⟩ := is_v ga0
  obtain rfl : w0 = (.int i0) := Option.some.inj ei0
  obtain ⟨i1, ei1⟩ := is_v ga1
  obtain rfl : w1 = (.int i1) := Option.some.inj ei1
  obtain ⟨i2, ei2⟩ := is_v ga2
  obtain rfl : w2 = (.int i2) := Option.some.inj ei2
  obtain ⟨i3, ei3⟩ := is_v ga3
  obtain rfl : w3 = (.int i3) := Option.some.inj ei3
  obtain ⟨i4, ei4⟩ := is_v ga4
  obtain rfl : w4 = (.int i4) := Option.some.inj ei4
  obtain ⟨i5, ei5⟩ := is_v ga5
  obtain rfl : w5 = (.int i5) := Option.some.inj ei5
  obtain ⟨n, o, h1, h2, h3, _, L, rfl, ⟨rfl, N⟩, hq⟩ := rm0 l s _ hw tables_1 i0 i1 i2 i3 i4 i5 s.heap s.heap.size (Nat.le_refl _)  p e ha hc hk s m _ below hf ((Spec.applies_iff_loose hf).mp happ).1 ⟨rfl, State.Warmed39.refl s, rfl⟩ trivial
  refine ⟨n, _, h1, h2, h3, hpost _ _ _ _ _ _ ⟨Cond.after_iff.mpr rfl, Cond.after_iff.mpr (eq_i res_at (Term.int_eval (1)) rfl), trivial⟩ ⟨hq.1, hq.2.1, (hq.2.2.sift fun y hy => Or.inr (N y hy)).mono (by decide) (by decide)⟩⟩
theorem main_1_1 : Claimed_1_1 := comes_1 fun _ _ _ _ _ _ h hF => ⟨h.1, hF⟩
theorem main_1_2 : Claimed_1_2 := comes_1 fun _ _ _ _ _ _ h hF => ⟨h.2.1, hF⟩
end Jvm.Pilot.@@N@@
namespace Jvm.Pilot.@@N@@
open Jvm Jvm.ClassFile Sem Op Lib Jvm.Free Jvm.Stand Jvm.Pilot.@@N@@.Jvm.D
/-! MADE BY PROGRAM (witnessworld.py) out of the Statement's table words and the real class files: 12 classes; the members and pool entries that the words name. The judged class is class 1, her method 6. -/
namespace start1
open Jvm.ClassFile
def u (s : String) : CpInfo := .utf8 (stringToUtf16 s)
/-- a pool by its gaps: so many unusable entries, then the entry; so many at the end -/
def gap : Nat → List CpInfo → List CpInfo
  | 0, r => r
  | n + 1, r => .unusable :: gap n r
def poolList (es : List (Nat × CpInfo)) (last : Nat) : List CpInfo := es.foldr (fun e r => gap e.1 (e.2 :: r)) (gap last [])
def pool (es : List (Nat × CpInfo)) (last : Nat) : Array CpInfo := ⟨poolList es last⟩
def fileOf (pool : Array CpInfo) (this : Nat) (attrs : Array Attribute := #[]) (ms : Array MethodInfo := #[]) (fl : Nat := 33) (sup : Nat := 0) (ifs : Array Nat := #[]) (fds : Array FieldInfo := #[]) : ClassFile where
  minorVersion := 0
  majorVersion := 65
  constantPool := pool
  accessFlags := fl
  thisClass := this
  superClass := sup
  interfaces := ifs
  fields := fds
  methods := ms
  attributes := attrs
def plain (name : String) (sup : Option ClassId) : Class where
  name := name
  kind := .ordinary
  loader := none
  accessFlags := 33
  super := sup
  interfaces := #[]
  cf := none
  fields := #[]
  methods := #[]
  instanceTypes := #[]
  staticTypes := #[]
  resolved := #[]
  callSites := []
  init := .initialized
  statics := none
  mirror := none

def pool0 : Array CpInfo := pool [(5, u "<init>"), (0, u "()V"), (1, .class_ 10), (1, u "java/lang/Object")] 113

def k0c0 : Code := { maxStack := 0, maxLocals := 1, code := object_method_1_code, exceptionTable := #[], attributes := #[] }
def k0m0 : Method := { name := "<init>", desc := "()V", sig := { parameters := [], returnType := none }, accessFlags := 1, code := some k0c0 }
/-- java/lang/Object -/
def k0 : Class := { plain "java/lang/Object" none with
  accessFlags := 33
  interfaces := #[]
  cf := some (fileOf pool0 8 #[] #[{ accessFlags := 1, nameIndex := 5, descriptorIndex := 6, attributes := #[] }] 33 0 #[] #[])
  fields := #[]
  methods := #[k0m0]
  instanceTypes := #[]
  staticTypes := #[]
  resolved := Array.replicate 124 none
  statics := none }

def pool1 : Array CpInfo := pool [(2, .class_ 4), (1, u "java/lang/Object"), (0, u "<init>"), (0, u "()V"), (0, .methodref 8 9), (0, .class_ 10), (0, .nameAndType 11 12), (0, u "com/example/honeyguide/honeyguide/CharsCollapseSpacesPinLaw"), (0, u "laterWord"), (0, u "([CI)Z"), (0, .methodref 8 14), (0, .nameAndType 15 16), (0, u "kept"), (0, u "([CII)Z"), (0, .methodref 8 18), (0, .nameAndType 19 20), (0, u "draw"), (0, u "(I)C"), (0, .integer 2147483647), (0, .methodref 8 23), (0, .nameAndType 24 25), (0, u "put"), (0, u "([CI[CII)I"), (0, .class_ 27), (0, u "com/example/honeyguide/honeyguide/Chars"), (0, .methodref 26 29), (0, .nameAndType 5 30), (0, u "(I)V"), (0, .methodref 26 32), (0, .nameAndType 33 34), (0, u "append"), (0, u "(C)V"), (0, .methodref 26 36), (0, .nameAndType 37 30), (0, u "collapseSpaces"), (0, .methodref 26 39), (0, .nameAndType 40 41), (0, u "length"), (0, u "()I"), (0, .methodref 26 43), (0, .nameAndType 44 45), (0, u "chars"), (0, u "()[C"), (0, .methodref 8 47), (0, .nameAndType 48 49), (0, u "same"), (0, u "([C[CII)Z"), (3, u "law"), (0, u "(IIIIII)Z")] 4

def k1m0 : Method := { name := "<init>", desc := "()V", sig := { parameters := [], returnType := none }, accessFlags := 1, code := none }
def k1c1 : Code := { maxStack := 2, maxLocals := 1, code := method_2_code, exceptionTable := #[], attributes := #[] }
def k1m1 : Method := { name := "draw", desc := "(I)C", sig := { parameters := [.int], returnType := some .char }, accessFlags := 10, code := some k1c1 }
def k1c2 : Code := { maxStack := 3, maxLocals := 2, code := method_3_code, exceptionTable := #[], attributes := #[] }
def k1m2 : Method := { name := "laterWord", desc := "([CI)Z", sig := { parameters := [(.array .char), .int], returnType := some .boolean }, accessFlags := 10, code := some k1c2 }
def k1c3 : Code := { maxStack := 3, maxLocals := 3, code := method_4_code, exceptionTable := #[], attributes := #[] }
def k1m3 : Method := { name := "kept", desc := "([CII)Z", sig := { parameters := [(.array .char), .int, .int], returnType := some .boolean }, accessFlags := 10, code := some k1c3 }
def k1c4 : Code := { maxStack := 4, maxLocals := 5, code := method_5_code, exceptionTable := #[], attributes := #[] }
def k1m4 : Method := { name := "put", desc := "([CI[CII)I", sig := { parameters := [(.array .char), .int, (.array .char), .int, .int], returnType := some .int }, accessFlags := 10, code := some k1c4 }
def k1c5 : Code := { maxStack := 3, maxLocals := 4, code := method_6_code, exceptionTable := #[], attributes := #[] }
def k1m5 : Method := { name := "same", desc := "([C[CII)Z", sig := { parameters := [(.array .char), (.array .char), .int, .int], returnType := some .boolean }, accessFlags := 10, code := some k1c5 }
def k1c6 : Code := { maxStack := 5, maxLocals := 14, code := code, exceptionTable := #[], attributes := #[] }
def k1m6 : Method := { name := "law", desc := "(IIIIII)Z", sig := { parameters := [.int, .int, .int, .int, .int, .int], returnType := some .boolean }, accessFlags := 9, code := some k1c6 }
/-- com/example/honeyguide/honeyguide/CharsCollapseSpacesPinLaw -/
def k1 : Class := { plain "com/example/honeyguide/honeyguide/CharsCollapseSpacesPinLaw" (some 0) with
  accessFlags := 49
  interfaces := #[]
  cf := some (fileOf pool1 8 #[] #[{ accessFlags := 1, nameIndex := 5, descriptorIndex := 6, attributes := #[] }, { accessFlags := 10, nameIndex := 19, descriptorIndex := 20, attributes := #[] }, { accessFlags := 10, nameIndex := 11, descriptorIndex := 12, attributes := #[] }, { accessFlags := 10, nameIndex := 15, descriptorIndex := 16, attributes := #[] }, { accessFlags := 10, nameIndex := 24, descriptorIndex := 25, attributes := #[] }, { accessFlags := 10, nameIndex := 48, descriptorIndex := 49, attributes := #[] }, { accessFlags := 9, nameIndex := 53, descriptorIndex := 54, attributes := #[] }] 49 2 #[] #[])
  fields := #[]
  methods := #[k1m0, k1m1, k1m2, k1m3, k1m4, k1m5, k1m6]
  instanceTypes := #[]
  staticTypes := #[]
  resolved := Array.replicate 59 none
  statics := none }

def pool2 : Array CpInfo := pool [(1, .methodref 2 3), (0, .class_ 4), (0, .nameAndType 5 6), (0, u "java/lang/Object"), (0, u "<init>"), (0, u "()V"), (0, .class_ 8), (0, u "com/example/honeyguide/honeyguide/Chars"), (0, .methodref 10 11), (0, .class_ 12), (0, .nameAndType 13 14), (0, u "java/lang/Math"), (0, u "max"), (0, u "(II)I"), (0, .fieldref 7 16), (0, .nameAndType 17 18), (0, u "chars"), (0, u "[C"), (0, .fieldref 7 20), (0, .nameAndType 21 22), (0, u "length"), (0, u "I"), (0, .methodref 7 24), (0, .nameAndType 25 26), (0, u "room"), (0, u "(I)V"), (10, u "()I"), (7, .long 2), (3, .long 2147483631), (13, u "FEW"), (4, u "()[C"), (1, u "append"), (0, u "(C)V"), (3, u "collapseSpaces")] 3

def k2c0 : Code := { maxStack := 3, maxLocals := 2, code := prog_11_method_1_code, exceptionTable := #[], attributes := #[] }
def k2m0 : Method := { name := "<init>", desc := "(I)V", sig := { parameters := [.int], returnType := none }, accessFlags := 0, code := some k2c0 }
def k2c1 : Code := { maxStack := 1, maxLocals := 1, code := prog_11_method_2_code, exceptionTable := #[], attributes := #[] }
def k2m1 : Method := { name := "chars", desc := "()[C", sig := { parameters := [], returnType := some (.array .char) }, accessFlags := 0, code := some k2c1 }
def k2c2 : Code := { maxStack := 1, maxLocals := 1, code := prog_11_method_3_code, exceptionTable := #[], attributes := #[] }
def k2m2 : Method := { name := "length", desc := "()I", sig := { parameters := [], returnType := some .int }, accessFlags := 0, code := some k2c2 }
def k2c3 : Code := { maxStack := 5, maxLocals := 2, code := prog_11_method_5_code, exceptionTable := #[], attributes := #[] }
def k2m3 : Method := { name := "append", desc := "(C)V", sig := { parameters := [.char], returnType := none }, accessFlags := 0, code := some k2c3 }
def k2c4 : Code := { maxStack := 3, maxLocals := 6, code := prog_11_method_9_code, exceptionTable := #[], attributes := #[] }
def k2m4 : Method := { name := "collapseSpaces", desc := "(I)V", sig := { parameters := [.int], returnType := none }, accessFlags := 0, code := some k2c4 }
def k2c5 : Code := { maxStack := 8, maxLocals := 4, code := prog_11_method_10_code, exceptionTable := #[], attributes := #[] }
def k2m5 : Method := { name := "room", desc := "(I)V", sig := { parameters := [.int], returnType := none }, accessFlags := 2, code := some k2c5 }
/-- com/example/honeyguide/honeyguide/Chars -/
def k2 : Class := { plain "com/example/honeyguide/honeyguide/Chars" (some 0) with
  accessFlags := 48
  interfaces := #[]
  cf := some (fileOf pool2 7 #[] #[{ accessFlags := 0, nameIndex := 5, descriptorIndex := 26, attributes := #[] }, { accessFlags := 0, nameIndex := 17, descriptorIndex := 68, attributes := #[] }, { accessFlags := 0, nameIndex := 21, descriptorIndex := 37, attributes := #[] }, { accessFlags := 0, nameIndex := 70, descriptorIndex := 71, attributes := #[] }, { accessFlags := 0, nameIndex := 75, descriptorIndex := 26, attributes := #[] }, { accessFlags := 2, nameIndex := 25, descriptorIndex := 26, attributes := #[] }] 48 2 #[] #[{ accessFlags := 26, nameIndex := 63, descriptorIndex := 22, attributes := #[] }, { accessFlags := 2, nameIndex := 17, descriptorIndex := 18, attributes := #[] }, { accessFlags := 2, nameIndex := 21, descriptorIndex := 22, attributes := #[] }])
  fields := #[{ name := "FEW", type := .int, accessFlags := 26, slot := 0, constantValue := 0 }, { name := "chars", type := (.array .char), accessFlags := 2, slot := 0, constantValue := 0 }, { name := "length", type := .int, accessFlags := 2, slot := 1, constantValue := 0 }]
  methods := #[k2m0, k2m1, k2m2, k2m3, k2m4, k2m5]
  instanceTypes := #[(.array .char), .int]
  staticTypes := #[.int]
  resolved := Array.replicate 79 none
  statics := none }

def pool3 : Array CpInfo := pool [(1, .class_ 2), (0, u "java/lang/Math"), (1, .class_ 6), (1, u "java/lang/Object"), (0, u "<init>"), (0, u "()V"), (89, .class_ 100), (1, u "java/lang/Math$RandomNumberGeneratorHolder"), (71, u "negativeZeroFloatBits"), (0, u "J"), (2, u "negativeZeroDoubleBits"), (21, u "max"), (46, u "$assertionsDisabled"), (0, u "Z"), (88, u "(II)I"), (2, u "twoToTheDoubleScaleDown"), (0, u "D"), (4, u "twoToTheDoubleScaleUp"), (9, u "E"), (3, u "PI"), (2, u "TAU"), (2, u "DEGREES_TO_RADIANS"), (0, u "RADIANS_TO_DEGREES")] 94

def k3m0 : Method := { name := "<init>", desc := "()V", sig := { parameters := [], returnType := none }, accessFlags := 2, code := none }
def k3c1 : Code := { maxStack := 2, maxLocals := 2, code := jdk_29_method_65_code, exceptionTable := #[], attributes := #[] }
def k3m1 : Method := { name := "max", desc := "(II)I", sig := { parameters := [.int, .int], returnType := some .int }, accessFlags := 9, code := some k3c1 }
/-- java/lang/Math -/
def k3 : Class := { plain "java/lang/Math" (some 0) with
  accessFlags := 49
  interfaces := #[]
  cf := some (fileOf pool3 1 #[.nestMembers #[98]] #[{ accessFlags := 2, nameIndex := 7, descriptorIndex := 8, attributes := #[] }, { accessFlags := 9, nameIndex := 198, descriptorIndex := 335, attributes := #[] }] 49 4 #[] #[{ accessFlags := 25, nameIndex := 354, descriptorIndex := 339, attributes := #[] }, { accessFlags := 25, nameIndex := 358, descriptorIndex := 339, attributes := #[] }, { accessFlags := 25, nameIndex := 361, descriptorIndex := 339, attributes := #[] }, { accessFlags := 26, nameIndex := 364, descriptorIndex := 339, attributes := #[] }, { accessFlags := 26, nameIndex := 365, descriptorIndex := 339, attributes := #[] }, { accessFlags := 26, nameIndex := 172, descriptorIndex := 173, attributes := #[] }, { accessFlags := 26, nameIndex := 176, descriptorIndex := 173, attributes := #[] }, { accessFlags := 8, nameIndex := 344, descriptorIndex := 339, attributes := #[] }, { accessFlags := 8, nameIndex := 338, descriptorIndex := 339, attributes := #[] }, { accessFlags := 4120, nameIndex := 245, descriptorIndex := 246, attributes := #[] }])
  fields := #[{ name := "E", type := .double, accessFlags := 25, slot := 0, constantValue := 0 }, { name := "PI", type := .double, accessFlags := 25, slot := 1, constantValue := 0 }, { name := "TAU", type := .double, accessFlags := 25, slot := 2, constantValue := 0 }, { name := "DEGREES_TO_RADIANS", type := .double, accessFlags := 26, slot := 3, constantValue := 0 }, { name := "RADIANS_TO_DEGREES", type := .double, accessFlags := 26, slot := 4, constantValue := 0 }, { name := "negativeZeroFloatBits", type := .long, accessFlags := 26, slot := 5, constantValue := 0 }, { name := "negativeZeroDoubleBits", type := .long, accessFlags := 26, slot := 6, constantValue := 0 }, { name := "twoToTheDoubleScaleUp", type := .double, accessFlags := 8, slot := 7, constantValue := 0 }, { name := "twoToTheDoubleScaleDown", type := .double, accessFlags := 8, slot := 8, constantValue := 0 }, { name := "$assertionsDisabled", type := .boolean, accessFlags := 4120, slot := 9, constantValue := 0 }]
  methods := #[k3m0, k3m1]
  instanceTypes := #[]
  staticTypes := #[.double, .double, .double, .double, .double, .long, .long, .double, .double, .boolean]
  resolved := Array.replicate 460 none
  statics := none }

def pool4 : Array CpInfo := pool [(1, u "java/lang/Cloneable"), (0, .class_ 1), (0, u "java/lang/Object"), (0, .class_ 3)] 3

/-- java/lang/Cloneable -/
def k4 : Class := { plain "java/lang/Cloneable" (some 0) with
  accessFlags := 1537
  interfaces := #[]
  cf := some (fileOf pool4 2 #[] #[] 1537 4 #[] #[])
  fields := #[]
  methods := #[]
  instanceTypes := #[]
  staticTypes := #[]
  resolved := Array.replicate 8 none
  statics := none }

def pool5 : Array CpInfo := pool [(1, u "java/io/Serializable"), (0, .class_ 1), (0, u "java/lang/Object"), (0, .class_ 3)] 3

/-- java/io/Serializable -/
def k5 : Class := { plain "java/io/Serializable" (some 0) with
  accessFlags := 1537
  interfaces := #[]
  cf := some (fileOf pool5 2 #[] #[] 1537 4 #[] #[])
  fields := #[]
  methods := #[]
  instanceTypes := #[]
  staticTypes := #[]
  resolved := Array.replicate 8 none
  statics := none }

/-- the primitive byte -/
def k6 : Class := { plain "byte" none with kind := .primitive 'B', accessFlags := 0x411 }
/-- [B -/
def k7 : Class := { plain "[B" (some 0) with kind := .array 6 .byte, interfaces := #[4, 5], accessFlags := 1041 }

/-- the primitive char -/
def k8 : Class := { plain "char" none with kind := .primitive 'C', accessFlags := 0x411 }
/-- [C -/
def k9 : Class := { plain "[C" (some 0) with kind := .array 8 .char, interfaces := #[4, 5], accessFlags := 1041 }

/-- the primitive int -/
def k10 : Class := { plain "int" none with kind := .primitive 'I', accessFlags := 0x411 }
/-- [I -/
def k11 : Class := { plain "[I" (some 0) with kind := .array 10 .int, interfaces := #[4, 5], accessFlags := 1041 }

def heap : Heap := #[]
def classes : Array Class := #[k0, k1, k2, k3, k4, k5, k6, k7, k8, k9, k10, k11]
def interned : List (Array UInt16 × Addr) := []
def slotsUsed : Nat := 0
def theMethod : MethodId := ⟨1, 6⟩
def args0 : Array Value := #[.int 5, .int 7, .int 3, .int 9, .int 2, .int 1]
def aboutOver (below : List Frame) : State where
  vm := { classes := classes, interned := interned.toArray }
  heap := heap
  slotsUsed := slotsUsed
  threads := #[{ frames := .invoking theMethod args0 :: below }]
def below0 : List Frame := [.native { method := ⟨0, 0⟩, args := #[] }]
def about1 : State := aboutOver below0
def p0 : Program := .bare "" "" ""
def e0 : Env := launch0.env 0 0 0
theorem w_frames : about1.frames = Frame.invoking theMethod args0 :: below0 := rfl
set_option maxRecDepth 65536 in
theorem w_args : argsFit about1.vm theMethod args0 = true := by decide +kernel
set_option maxRecDepth 65536 in
theorem w_heap : heapFits about1 = true := by decide +kernel
set_option maxRecDepth 65536 in
theorem w_runnable : about1.curStatus? = some .runnable := by decide +kernel
set_option maxRecDepth 65536 in
theorem w_alone : about1.alone = true := by decide +kernel
set_option maxRecDepth 65536 in
theorem w_named : about1.methodNamed? x = some theMethod := by decide +kernel
set_option maxRecDepth 65536 in
theorem w_hears : about1.hears theMethod below0 = true := by decide +kernel
set_option maxRecDepth 65536 in
theorem w_ripe : about1.ripe theMethod args0 below0 = true := by decide +kernel
theorem w_running : about1.status = .running := rfl
set_option maxRecDepth 65536 in
theorem w_room : about1.hasRoom e0.platform room_1 = true :=
  launch0.hasRoom_least _ room_1 (by decide +kernel) (by decide +kernel) (by decide +kernel) (by decide +kernel) (by decide +kernel) (by decide +kernel)
theorem allAtoms_all (ts : List Jvm.Cond) (a : Array Jvm.Value) (st : Jvm.State) : (allAtoms ts).before a st = ts.all (fun c => c.before a st) := by
  induction ts with
  | nil => rfl
  | cons c t ih =>
    show (Jvm.Cond.and c (allAtoms t)).before a st = _
    rw [Jvm.Cond.before_and, ih, List.all_cons]
def words1 : List Jvm.Cond := Jvm.Cond.code x code maxLocals ret :: tables_1
/-- a 'code' word, met by the world's own term for the bytes: nothing is compared byte by byte -/
theorem code_word {y : MethodName} {bytes : ByteArray} {mx : Nat} {rt : Option FieldType} {a : Array Value} {s : State} {m : MethodId} {meth : Method} {c : Code} (h1 : s.methodNamed? y = some m) (h2 : s.vm.method? m = some meth) (h3 : meth.code = some c) (h4 : c.code = bytes)
    (h5 : (c.maxLocals == mx && c.exceptionTable.isEmpty && decide (c.maxStack ≤ mostOperands) && decide (meth.sig.returnType = rt) && !meth.locks && decide (parseMethodDescriptor y.desc = some meth.sig)) = true) : (Jvm.Cond.code y bytes mx rt).before a s = true := by
  simp only [Bool.and_eq_true, beq_iff_eq, Bool.not_eq_true', decide_eq_true_eq] at h5
  obtain ⟨⟨⟨⟨⟨g1, g2⟩, g3⟩, g4⟩, g5⟩, g6⟩ := h5
  simp [Cond.before, Cond.holds, Cond.value, h1, h2, h3, h4, g1, g2, g3, g4, g5, g6]
def isCode : Jvm.Cond → Bool
  | .code _ _ _ _ => true
  | _ => false
theorem all_split {L : List Jvm.Cond} {P : Jvm.Cond → Bool} (h1 : L.all (fun c => isCode c || P c) = true) (h2 : ∀ c ∈ L.filter isCode, P c = true) : L.all P = true := by
  refine List.all_eq_true.mpr fun c hc => ?_
  have h := List.all_eq_true.mp h1 c hc
  rcases Bool.eq_false_or_eq_true (isCode c) with hi | hi
  · exact h2 c (List.mem_filter.mpr ⟨hc, hi⟩)
  · simpa [hi] using h
set_option maxRecDepth 65536 in
theorem w_c0 : (Jvm.Cond.code x code maxLocals ret).before args0 about1 = true := code_word (m := ⟨1, 6⟩) (meth := k1m6) (c := k1c6) (by decide +kernel) rfl rfl rfl (by decide +kernel)
set_option maxRecDepth 65536 in
theorem w_c1 : (Jvm.Cond.code ({ cls := "com/example/honeyguide/honeyguide/CharsCollapseSpacesPinLaw", name := "draw", desc := "(I)C" } : Jvm.MethodName) method_2_code (1 : Nat) (Option.some Jvm.ClassFile.FieldType.char)).before args0 about1 = true := code_word (m := ⟨1, 1⟩) (meth := k1m1) (c := k1c1) (by decide +kernel) rfl rfl rfl (by decide +kernel)
set_option maxRecDepth 65536 in
theorem w_c2 : (Jvm.Cond.code ({ cls := "com/example/honeyguide/honeyguide/CharsCollapseSpacesPinLaw", name := "put", desc := "([CI[CII)I" } : Jvm.MethodName) method_5_code (5 : Nat) (Option.some Jvm.ClassFile.FieldType.int)).before args0 about1 = true := code_word (m := ⟨1, 4⟩) (meth := k1m4) (c := k1c4) (by decide +kernel) rfl rfl rfl (by decide +kernel)
set_option maxRecDepth 65536 in
theorem w_c3 : (Jvm.Cond.code ({ cls := "com/example/honeyguide/honeyguide/CharsCollapseSpacesPinLaw", name := "kept", desc := "([CII)Z" } : Jvm.MethodName) method_4_code (3 : Nat) (Option.some Jvm.ClassFile.FieldType.boolean)).before args0 about1 = true := code_word (m := ⟨1, 3⟩) (meth := k1m3) (c := k1c3) (by decide +kernel) rfl rfl rfl (by decide +kernel)
set_option maxRecDepth 65536 in
theorem w_c4 : (Jvm.Cond.code ({ cls := "com/example/honeyguide/honeyguide/Chars", name := "<init>", desc := "(I)V" } : Jvm.MethodName) prog_11_method_1_code (2 : Nat) (Option.none : Option Jvm.ClassFile.FieldType)).before args0 about1 = true := code_word (m := ⟨2, 0⟩) (meth := k2m0) (c := k2c0) (by decide +kernel) rfl rfl rfl (by decide +kernel)
set_option maxRecDepth 65536 in
theorem w_c5 : (Jvm.Cond.code ({ cls := "java/lang/Object", name := "<init>", desc := "()V" } : Jvm.MethodName) object_method_1_code (1 : Nat) (Option.none : Option Jvm.ClassFile.FieldType)).before args0 about1 = true := code_word (m := ⟨0, 0⟩) (meth := k0m0) (c := k0c0) (by decide +kernel) rfl rfl rfl (by decide +kernel)
set_option maxRecDepth 65536 in
theorem w_c6 : (Jvm.Cond.code ({ cls := "java/lang/Math", name := "max", desc := "(II)I" } : Jvm.MethodName) jdk_29_method_65_code (2 : Nat) (Option.some Jvm.ClassFile.FieldType.int)).before args0 about1 = true := code_word (m := ⟨3, 1⟩) (meth := k3m1) (c := k3c1) (by decide +kernel) rfl rfl rfl (by decide +kernel)
set_option maxRecDepth 65536 in
theorem w_c7 : (Jvm.Cond.code ({ cls := "com/example/honeyguide/honeyguide/Chars", name := "append", desc := "(C)V" } : Jvm.MethodName) prog_11_method_5_code (2 : Nat) (Option.none : Option Jvm.ClassFile.FieldType)).before args0 about1 = true := code_word (m := ⟨2, 3⟩) (meth := k2m3) (c := k2c3) (by decide +kernel) rfl rfl rfl (by decide +kernel)
set_option maxRecDepth 65536 in
theorem w_c8 : (Jvm.Cond.code ({ cls := "com/example/honeyguide/honeyguide/Chars", name := "room", desc := "(I)V" } : Jvm.MethodName) prog_11_method_10_code (4 : Nat) (Option.none : Option Jvm.ClassFile.FieldType)).before args0 about1 = true := code_word (m := ⟨2, 5⟩) (meth := k2m5) (c := k2c5) (by decide +kernel) rfl rfl rfl (by decide +kernel)
set_option maxRecDepth 65536 in
theorem w_c9 : (Jvm.Cond.code ({ cls := "com/example/honeyguide/honeyguide/Chars", name := "collapseSpaces", desc := "(I)V" } : Jvm.MethodName) prog_11_method_9_code (6 : Nat) (Option.none : Option Jvm.ClassFile.FieldType)).before args0 about1 = true := code_word (m := ⟨2, 4⟩) (meth := k2m4) (c := k2c4) (by decide +kernel) rfl rfl rfl (by decide +kernel)
set_option maxRecDepth 65536 in
theorem w_c10 : (Jvm.Cond.code ({ cls := "com/example/honeyguide/honeyguide/Chars", name := "length", desc := "()I" } : Jvm.MethodName) prog_11_method_3_code (1 : Nat) (Option.some Jvm.ClassFile.FieldType.int)).before args0 about1 = true := code_word (m := ⟨2, 2⟩) (meth := k2m2) (c := k2c2) (by decide +kernel) rfl rfl rfl (by decide +kernel)
set_option maxRecDepth 65536 in
theorem w_c11 : (Jvm.Cond.code ({ cls := "com/example/honeyguide/honeyguide/Chars", name := "chars", desc := "()[C" } : Jvm.MethodName) prog_11_method_2_code (1 : Nat) (Option.some (Jvm.ClassFile.FieldType.array Jvm.ClassFile.FieldType.char))).before args0 about1 = true := code_word (m := ⟨2, 1⟩) (meth := k2m1) (c := k2c1) (by decide +kernel) rfl rfl rfl (by decide +kernel)
set_option maxRecDepth 65536 in
theorem w_c12 : (Jvm.Cond.code ({ cls := "com/example/honeyguide/honeyguide/CharsCollapseSpacesPinLaw", name := "same", desc := "([C[CII)Z" } : Jvm.MethodName) method_6_code (4 : Nat) (Option.some Jvm.ClassFile.FieldType.boolean)).before args0 about1 = true := code_word (m := ⟨1, 5⟩) (meth := k1m5) (c := k1c5) (by decide +kernel) rfl rfl rfl (by decide +kernel)
set_option maxRecDepth 65536 in
theorem w_c13 : (Jvm.Cond.code ({ cls := "com/example/honeyguide/honeyguide/CharsCollapseSpacesPinLaw", name := "laterWord", desc := "([CI)Z" } : Jvm.MethodName) method_3_code (2 : Nat) (Option.some Jvm.ClassFile.FieldType.boolean)).before args0 about1 = true := code_word (m := ⟨1, 2⟩) (meth := k1m2) (c := k1c2) (by decide +kernel) rfl rfl rfl (by decide +kernel)
def codes1 : List Jvm.Cond := [Jvm.Cond.code x code maxLocals ret, Jvm.Cond.code ({ cls := "com/example/honeyguide/honeyguide/CharsCollapseSpacesPinLaw", name := "draw", desc := "(I)C" } : Jvm.MethodName) method_2_code (1 : Nat) (Option.some Jvm.ClassFile.FieldType.char), Jvm.Cond.code ({ cls := "com/example/honeyguide/honeyguide/CharsCollapseSpacesPinLaw", name := "put", desc := "([CI[CII)I" } : Jvm.MethodName) method_5_code (5 : Nat) (Option.some Jvm.ClassFile.FieldType.int), Jvm.Cond.code ({ cls := "com/example/honeyguide/honeyguide/CharsCollapseSpacesPinLaw", name := "kept", desc := "([CII)Z" } : Jvm.MethodName) method_4_code (3 : Nat) (Option.some Jvm.ClassFile.FieldType.boolean), Jvm.Cond.code ({ cls := "com/example/honeyguide/honeyguide/Chars", name := "<init>", desc := "(I)V" } : Jvm.MethodName) prog_11_method_1_code (2 : Nat) (Option.none : Option Jvm.ClassFile.FieldType), Jvm.Cond.code ({ cls := "java/lang/Object", name := "<init>", desc := "()V" } : Jvm.MethodName) object_method_1_code (1 : Nat) (Option.none : Option Jvm.ClassFile.FieldType), Jvm.Cond.code ({ cls := "java/lang/Math", name := "max", desc := "(II)I" } : Jvm.MethodName) jdk_29_method_65_code (2 : Nat) (Option.some Jvm.ClassFile.FieldType.int), Jvm.Cond.code ({ cls := "com/example/honeyguide/honeyguide/Chars", name := "append", desc := "(C)V" } : Jvm.MethodName) prog_11_method_5_code (2 : Nat) (Option.none : Option Jvm.ClassFile.FieldType), Jvm.Cond.code ({ cls := "com/example/honeyguide/honeyguide/Chars", name := "room", desc := "(I)V" } : Jvm.MethodName) prog_11_method_10_code (4 : Nat) (Option.none : Option Jvm.ClassFile.FieldType), Jvm.Cond.code ({ cls := "com/example/honeyguide/honeyguide/Chars", name := "collapseSpaces", desc := "(I)V" } : Jvm.MethodName) prog_11_method_9_code (6 : Nat) (Option.none : Option Jvm.ClassFile.FieldType), Jvm.Cond.code ({ cls := "com/example/honeyguide/honeyguide/Chars", name := "length", desc := "()I" } : Jvm.MethodName) prog_11_method_3_code (1 : Nat) (Option.some Jvm.ClassFile.FieldType.int), Jvm.Cond.code ({ cls := "com/example/honeyguide/honeyguide/Chars", name := "chars", desc := "()[C" } : Jvm.MethodName) prog_11_method_2_code (1 : Nat) (Option.some (Jvm.ClassFile.FieldType.array Jvm.ClassFile.FieldType.char)), Jvm.Cond.code ({ cls := "com/example/honeyguide/honeyguide/CharsCollapseSpacesPinLaw", name := "same", desc := "([C[CII)Z" } : Jvm.MethodName) method_6_code (4 : Nat) (Option.some Jvm.ClassFile.FieldType.boolean), Jvm.Cond.code ({ cls := "com/example/honeyguide/honeyguide/CharsCollapseSpacesPinLaw", name := "laterWord", desc := "([CI)Z" } : Jvm.MethodName) method_3_code (2 : Nat) (Option.some Jvm.ClassFile.FieldType.boolean)]
set_option maxRecDepth 65536 in
theorem codes_eq : words1.filter isCode = codes1 := rfl
theorem w_codes : ∀ c ∈ words1.filter isCode, c.before args0 about1 = true := by
  rw [codes_eq]
  intro c hc
  simp only [codes1, List.mem_cons, List.not_mem_nil, or_false] at hc
  rcases hc with rfl | rfl | rfl | rfl | rfl | rfl | rfl | rfl | rfl | rfl | rfl | rfl | rfl | rfl
  · exact w_c0
  · exact w_c1
  · exact w_c2
  · exact w_c3
  · exact w_c4
  · exact w_c5
  · exact w_c6
  · exact w_c7
  · exact w_c8
  · exact w_c9
  · exact w_c10
  · exact w_c11
  · exact w_c12
  · exact w_c13
set_option maxRecDepth 65536 in
theorem w_t1 : (words1.take 24).all (fun c => isCode c || c.before args0 about1) = true := by decide +kernel
set_option maxRecDepth 65536 in
theorem w_t2 : ((words1.drop 24).take 24).all (fun c => isCode c || c.before args0 about1) = true := by decide +kernel
set_option maxRecDepth 65536 in
theorem w_t3 : ((words1.drop 24).drop 24).all (fun c => isCode c || c.before args0 about1) = true := by decide +kernel
theorem w_tables : (allAtoms (Jvm.Cond.code x code maxLocals ret :: tables_1)).before args0 about1 = true := by
  rw [allAtoms_all]
  show words1.all (fun c => c.before args0 about1) = true
  refine all_split ?_ w_codes
  rw [← List.take_append_drop 24 words1, List.all_append, w_t1, ← List.take_append_drop 24 (words1.drop 24), List.all_append, w_t2, w_t3]
  rfl
set_option maxRecDepth 65536 in
theorem w_case : (Jvm.Cond.and given_1 narrow_1).before args0 about1 = true := by decide +kernel
theorem w_applies : (headSpec (Jvm.Cond.code x code maxLocals ret :: tables_1) room_1).applies x e0.platform about1 = true :=
  (Spec.applies_iff w_frames).mpr ⟨w_running, w_runnable, w_alone, w_named, w_hears, w_ripe, w_room, w_tables⟩
theorem atStart : AtStart classFile x code maxLocals ret World_1 tables_1 room_1 Calls_1 rest_1 Pre_1 launch0 p0 e0 about1 theMethod args0 below0 :=
  ⟨lists_1, trivial, launch0.admits_env _ _ _, launch0.least_env, fairChoices_fair.cas, fairChoices_fair.clock, w_frames, w_args, w_heap, w_applies, trivial, trivial, w_case⟩
end start1
theorem witness_1 : WitnessClaimed_1 := ⟨start1.p0, start1.e0, start1.about1, start1.theMethod, start1.args0, start1.below0, start1.atStart⟩
end Jvm.Pilot.@@N@@
