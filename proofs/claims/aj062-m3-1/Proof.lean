import JvmDerived
import JvmDerived.Pilot.@@N@@Statement
import JvmDerived.Pilot.@@N@@Code
set_option linter.unusedVariables false
set_option linter.unusedSimpArgs false
namespace Jvm.RoadKit
open Sem ClassFile Op Lib Jvm.Stand Jvm.Free Jvm.LawKit
section New
variable {p : Program} {l : Launch} {e : Env} {R : Room} {s : State} {m : MethodId} {args : Array Value} {below : List Frame} {meth : Method} {c : Code} {T : State} {locs : List Loc} {cells slots : Nat}
theorem retI (X : Stand p l e R s m args below meth c T locs cells slots) (hx : p.tables.exec = Jvm.exec) {pc : Nat} {Ls : Array Slot} {z : Int32} {rest : List Value} (hret : meth.sig.returnType = some .int) (hd : decode c.code pc = .ok (.ireturn, 1)) {fs : List Frame}
    (hl : ∀ (f : JFrame) (acts : List Action), f.method = m → f.locked = none → f.entered = [] → (doReturn e (T.setTop f) acts (some (.int z))).1 = T.setFrames fs) : Steps p.tables e below (T.setTop (mkF m pc Ls (.int z :: rest))) (T.setFrames fs) :=
  retOut X hx hret rfl (Or.inl ⟨rfl, Or.inl rfl, _, rfl⟩) hd hl
end New
end Jvm.RoadKit
namespace Jvm.Pilot.@@N@@
open Jvm Jvm.ClassFile Sem Op Lib Jvm.Free Jvm.Stand Jvm.LawKit Jvm.RoadKit Bundle Jvm.Pilot.@@N@@.Jvm.D
/-! own_Goes: from A the run comes to a state of which P holds -/
def own_Goes (p : Program) (e : Env) (below : List Frame) (P : State → Prop) (A : State) : Prop := ∃ B, Steps p.tables e below A B ∧ P B
def own_Fin (s : State) (below : List Frame) (QQ : Option Value → Heap → List Loc → Prop) (C N : Nat) (B : State) : Prop := ∃ v L, B.status = .running ∧ Ended B below (.returned v) ∧ QQ v B.heap L ∧ FrameEnd s (.returned v) B L C N
theorem own_via {p : Program} {e : Env} {below : List Frame} {P : State → Prop} {A : State} (B : State) (h : ∀ t, Steps p.tables e below B t → Steps p.tables e below A t) (k : own_Goes p e below P B) : own_Goes p e below P A := by
  obtain ⟨t, h1, h2⟩ := k
  exact ⟨t, h t h1, h2⟩
theorem own_body {p : Program} {e : Env} {below : List Frame} {s s₁ : State} {QQ : Option Value → Heap → List Loc → Prop} {C N ml : Nat} {m : MethodId} {args : Array Value} {F : JFrame} (hF : entryFrame m args ml = F) (k : own_Goes p e below (own_Fin s below QQ C N) (s₁.setTop F)) :
    ∃ s₂ o, Steps p.tables e below (s₁.setTop (entryFrame m args ml)) s₂ ∧ s₂.status = .running ∧ Ended s₂ below o ∧ (∃ v L, o = .returned v ∧ QQ v s₂.heap L ∧ FrameEnd s o s₂ L C N) := by
  obtain ⟨B, h1, v, L, h2, h3, h4, h5⟩ := k
  exact ⟨B, .returned v, hF ▸ h1, h2, h3, v, L, rfl, h4, h5⟩
theorem own_leave {p : Program} {l : Launch} {e : Env} {R : Room} {s : State} {m : MethodId} {args : Array Value} {below : List Frame} {meth : Method} {c : Code} {T : State} {locs : List Loc} {cells slots : Nat} {QQ : Option Value → Heap → List Loc → Prop} {C N : Nat}
    (X : Stand p l e R s m args below meth c T locs cells slots) (hlocks : meth.locks = false) {v : Option Value} (hv : meth.sig.returnType = none → v = none) {F : JFrame}
    (hstep : ∀ fs, (∀ (f : JFrame) (acts : List Action), f.method = m → f.locked = none → f.entered = [] → (doReturn e (T.setTop f) acts v).1 = T.setFrames fs) → Steps p.tables e below (T.setTop F) (T.setFrames fs))
    (hq : QQ v T.heap locs) (hc : cells ≤ C) (hn : slots ≤ N) : own_Goes p e below (own_Fin s below QQ C N) (T.setTop F) := by
  obtain ⟨fs, hr, hrun, hended, hW, hsame⟩ := X.leave hv hlocks
  exact ⟨_, hstep fs hr, v, locs, hrun, hended, hq, ⟨_, rfl⟩, hW, hsame.mono hc hn⟩
/-- what a body that writes nothing leaves -/
def own_Q (r : Option Value) (h0 : Heap) (n0 : Nat) (v : Option Value) (h : Heap) (L : List Loc) : Prop := v = r ∧ Fr n0 L ∧ h = h0
def own_tz : Nat → Int64 → Int32 → Int32
  | 0, _, c => c
  | n + 1, r, c => if (r - (r / (10 : Int64)) * (10 : Int64)) = (0 : Int64) then own_tz n (r / (10 : Int64)) (c + (1 : Int32)) else c
theorem own_tzS {n : Nat} {r : Int64} {c : Int32} (h : (r - (r / (10 : Int64)) * (10 : Int64)) = (0 : Int64)) : own_tz (n + 1) r c = own_tz n (r / (10 : Int64)) (c + (1 : Int32)) := if_pos h
theorem own_tzN {n : Nat} {r : Int64} {c : Int32} (h : ¬ (r - (r / (10 : Int64)) * (10 : Int64)) = (0 : Int64)) : own_tz (n + 1) r c = c := if_neg h
theorem own_r0 {r : Int64} (h1 : -(10 ^ 0 : Int) < r.toInt) (h2 : r.toInt < (10 ^ 0 : Int)) : r = 0 := by
  apply Int64.toInt_inj.mp
  have e : (0 : Int64).toInt = 0 := rfl
  rw [e]; simp at h1 h2; omega
theorem own_b19 (r : Int64) : -(10 ^ 19 : Int) < r.toInt ∧ r.toInt < (10 ^ 19 : Int) := by
  have := rng64 r; constructor <;> omega
/-- one digit off: r = 10 q -/
theorem own_ten {r : Int64} (h : (r - (r / (10 : Int64)) * (10 : Int64)) = (0 : Int64)) : r.toInt = 10 * (r / (10 : Int64)).toInt := by
  have e : (0 : Int64).toInt = 0 := rfl
  have d := c_ldiv r (10 : Int64) 10 rfl (by decide)
  have m := c_lrem r (10 : Int64) 10 rfl
  rw [h, e] at m
  by_cases q : 0 ≤ r.toInt
  · have := d.1 q; have := m.1 q; omega
  · have := d.2 (by omega); have := m.2 (by omega); omega
theorem own_nten {r : Int64} (h : ¬ (r - (r / (10 : Int64)) * (10 : Int64)) = (0 : Int64)) : ¬ r.toInt % 10 = 0 := by
  intro q
  apply h; apply Int64.toInt_inj.mp
  have e : (0 : Int64).toInt = 0 := rfl
  have m := c_lrem r (10 : Int64) 10 rfl
  rw [e]
  by_cases q : 0 ≤ r.toInt
  · have := m.1 q; omega
  · have := m.2 (by omega); omega
theorem own_q0 {r : Int64} (h1 : ¬ r = 0) (h : (r - (r / (10 : Int64)) * (10 : Int64)) = (0 : Int64)) : ¬ (r / (10 : Int64)) = 0 := by
  intro q
  have := own_ten h
  rw [q] at this
  exact h1 (Int64.toInt_inj.mp this)
theorem own_ql {n : Nat} {r : Int64} (h1 : ¬ r = 0) (h2 : -(10 ^ (n + 1) : Int) < r.toInt) (h3 : r.toInt < (10 ^ (n + 1) : Int)) (h : (r - (r / (10 : Int64)) * (10 : Int64)) = (0 : Int64)) : -(10 ^ n : Int) < (r / (10 : Int64)).toInt ∧ (r / (10 : Int64)).toInt < (10 ^ n : Int) := by
  have := own_ten h
  rw [Int.pow_succ] at h2 h3
  generalize (10 ^ n : Int) = P at *
  omega
theorem own_tzfacts (n : Nat) : ∀ (r : Int64) (c : Int32), ¬ r = 0 → -(10 ^ n : Int) < r.toInt → r.toInt < (10 ^ n : Int) → 0 ≤ c.toInt → c.toInt + n ≤ 100 → ∃ (j : Nat) (w : Int), j < n ∧ (own_tz n r c).toInt = c.toInt + j ∧ r.toInt = 10 ^ j * w ∧ ¬ w % 10 = 0 := by
  induction n with
  | zero => intro r c h1 h2 h3; exact absurd (own_r0 h2 h3) h1
  | succ n ih =>
    intro r c h1 h2 h3 hc hn
    by_cases h : (r - (r / (10 : Int64)) * (10 : Int64)) = (0 : Int64)
    · rw [own_tzS h]
      have e1 : (1 : Int32).toInt = 1 := rfl
      have ec : (c + (1 : Int32)).toInt = c.toInt + 1 := by
        have := c_iadd c (1 : Int32); have := rng32 (c + (1 : Int32)); omega
      obtain ⟨j, w, a1, a2, a3, a4⟩ := ih (r / (10 : Int64)) (c + (1 : Int32)) (own_q0 h1 h) (own_ql h1 h2 h3 h).1 (own_ql h1 h2 h3 h).2 (by omega) (by omega)
      refine ⟨j + 1, w, by omega, by omega, ?_, a4⟩
      rw [own_ten h, a3, Int.pow_succ]
      rw [Int.mul_comm (10 ^ j) 10, Int.mul_assoc]
    · rw [own_tzN h]
      exact ⟨0, r.toInt, by omega, by omega, by simp, own_nten h⟩
def own_pl : List Int64 := [1, 10, 100, 1000, 10000, 100000, 1000000, 10000000, 100000000, 1000000000, 10000000000, 100000000000, 1000000000000, 10000000000000, 100000000000000, 1000000000000000, 10000000000000000, 100000000000000000, 1000000000000000000]
def own_p (j : Int32) : Int64 := own_pl.getD j.toNatClampNeg 0
theorem own_p10 : ∀ k : Fin 19, (own_pl.getD k.val 0).toInt = (10 : Int) ^ k.val := by decide +kernel
theorem own_pv {j : Int32} (h : ¬ j < 0 ∧ j < (19 : Int32)) : (own_p j).toInt = (10 : Int) ^ j.toInt.toNat ∧ 0 ≤ j.toInt ∧ j.toInt < 19 := by
  have e0 : (0 : Int32).toInt = 0 := rfl
  have e1 : (19 : Int32).toInt = 19 := rfl
  obtain ⟨h1, h2⟩ := h
  rw [Int32.lt_iff_toInt_lt] at h1 h2
  have hk : j.toNatClampNeg = j.toInt.toNat := rfl
  have := own_p10 ⟨j.toInt.toNat, by omega⟩
  refine ⟨?_, by omega, by omega⟩
  unfold own_p; rw [hk]; exact this
theorem own_pnz {j : Int32} (h : ¬ j < 0 ∧ j < (19 : Int32)) : own_p j ≠ 0 := by
  intro q
  have a := (own_pv h).1
  rw [q] at a
  have e : (0 : Int64).toInt = 0 := rfl
  rw [e] at a
  have : (0 : Int) < 10 ^ j.toInt.toNat := Int.pow_pos (by decide)
  omega
theorem own_inb {b k : Int32} (h : k = ((b &&& (2147483647 : Int32)) % (19 : Int32))) : ¬ k < 0 ∧ k < (19 : Int32) := by
  have e0 : (0 : Int32).toInt = 0 := rfl
  have e1 : (19 : Int32).toInt = 19 := rfl
  have a := (c_and b (2147483647 : Int32) (by decide)).1
  have m := (c_irem (b &&& (2147483647 : Int32)) (19 : Int32) 19 rfl).1 a
  rw [← h] at m
  rw [Int32.lt_iff_toInt_lt, Int32.lt_iff_toInt_lt]
  omega
theorem own_hat {cl : Cell} {j : Int32} {vs : List Value} {dv : Value} (H : Has cl vs dv) (S : cl.slots.size = (19 : Int32).toNatClampNeg) (h : ¬ j < 0 ∧ j < (19 : Int32)) (e : vs = own_pl.map Value.long := by rfl) (ed : dv = .long 0 := by rfl) : cl.slots[j.toNatClampNeg]? = some (.long (own_p j)) := by
  have hb := own_pv h
  have hk : j.toNatClampNeg = j.toInt.toNat := rfl
  have e19 : (19 : Int32).toNatClampNeg = 19 := rfl
  rw [H _ (by rw [S, e19, hk]; omega), e, ed]
  unfold own_p
  rw [List.getD_eq_getElem?_getD, List.getD_eq_getElem?_getD, List.getElem?_map]
  cases own_pl[j.toNatClampNeg]? <;> rfl
theorem own_facts {v : Int64} {n : Int32} (hv : ¬ v = 0) (hn : n = own_tz 19 v 0) : ¬ n < (0 : Int32) ∧ ¬ (18 : Int32) < n ∧ (v - (v / (own_p n)) * (own_p n)) = (0 : Int64) ∧ ¬ ((v / (own_p n)) - ((v / (own_p n)) / (10 : Int64)) * (10 : Int64)) = (0 : Int64) ∧ n < (19 : Int32) := by
  have e0 : (0 : Int32).toInt = 0 := rfl
  have e18 : (18 : Int32).toInt = 18 := rfl
  have e19 : (19 : Int32).toInt = 19 := rfl
  have ez : (0 : Int64).toInt = 0 := rfl
  obtain ⟨j, w, a1, a2, a3, a4⟩ := own_tzfacts 19 v 0 hv (own_b19 v).1 (own_b19 v).2 (by decide) (by decide)
  rw [← hn, e0] at a2
  have b1 : ¬ n < (0 : Int32) := by rw [Int32.lt_iff_toInt_lt]; omega
  have b2 : n < (19 : Int32) := by rw [Int32.lt_iff_toInt_lt]; omega
  have b3 : ¬ (18 : Int32) < n := by rw [Int32.lt_iff_toInt_lt]; omega
  obtain ⟨p1, p2, p3⟩ := own_pv ⟨b1, b2⟩
  have hj : n.toInt.toNat = j := by omega
  rw [hj] at p1
  have pp : (0 : Int) < 10 ^ j := Int.pow_pos (by decide)
  have hne : own_p n ≠ -1 := by
    intro q; rw [q] at p1; have : (-1 : Int64).toInt = -1 := rfl; omega
  have d := c_ldiv v (own_p n) (10 ^ j) p1 hne
  have m := c_lrem v (own_p n) (10 ^ j) p1
  have q1 : (v / own_p n).toInt = w := by
    by_cases q : 0 ≤ v.toInt
    · rw [d.1 q, a3, Int.mul_ediv_cancel_left _ (by omega)]
    · rw [d.2 (by omega), a3, ← Int.mul_neg, Int.mul_ediv_cancel_left _ (by omega), Int.neg_neg]
  refine ⟨b1, b3, ?_, ?_, b2⟩
  · apply Int64.toInt_inj.mp
    rw [ez]
    by_cases q : 0 ≤ v.toInt
    · rw [m.1 q, a3, Int.mul_emod_right]
    · rw [m.2 (by omega), a3, ← Int.mul_neg, Int.mul_emod_right]; rfl
  · intro h
    have := own_ten h
    rw [q1] at this
    omega
theorem d1_0 : decode prog_9_method_10_code 0 = .ok (.lload_n 0, 1) := by decide +kernel
theorem d1_1 : decode prog_9_method_10_code 1 = .ok (.lconst 0, 1) := by decide +kernel
theorem d1_2 : decode prog_9_method_10_code 2 = .ok (.lcmp, 1) := by decide +kernel
theorem d1_3 : decode prog_9_method_10_code 3 = .ok (.ifCond .ne 13, 3) := by decide +kernel
theorem d1_16 : decode prog_9_method_10_code 16 = .ok (.iconst 0, 1) := by decide +kernel
theorem d1_17 : decode prog_9_method_10_code 17 = .ok (.istore_n 2, 1) := by decide +kernel
theorem d1_18 : decode prog_9_method_10_code 18 = .ok (.lload_n 0, 1) := by decide +kernel
theorem d1_19 : decode prog_9_method_10_code 19 = .ok (.lstore_n 3, 1) := by decide +kernel
theorem d1_20 : decode prog_9_method_10_code 20 = .ok (.lload_n 3, 1) := by decide +kernel
theorem d1_21 : decode prog_9_method_10_code 21 = .ok (.ldc2_w 36, 3) := by decide +kernel
theorem d1_24 : decode prog_9_method_10_code 24 = .ok (.lrem, 1) := by decide +kernel
theorem d1_25 : decode prog_9_method_10_code 25 = .ok (.lconst 0, 1) := by decide +kernel
theorem d1_26 : decode prog_9_method_10_code 26 = .ok (.lcmp, 1) := by decide +kernel
theorem d1_27 : decode prog_9_method_10_code 27 = .ok (.ifCond .ne 15, 3) := by decide +kernel
theorem d1_30 : decode prog_9_method_10_code 30 = .ok (.lload_n 3, 1) := by decide +kernel
theorem d1_31 : decode prog_9_method_10_code 31 = .ok (.ldc2_w 36, 3) := by decide +kernel
theorem d1_34 : decode prog_9_method_10_code 34 = .ok (.ldiv, 1) := by decide +kernel
theorem d1_35 : decode prog_9_method_10_code 35 = .ok (.lstore_n 3, 1) := by decide +kernel
theorem d1_36 : decode prog_9_method_10_code 36 = .ok (.iinc 2 1, 3) := by decide +kernel
theorem d1_39 : decode prog_9_method_10_code 39 = .ok (.goto (-19), 3) := by decide +kernel
theorem d1_42 : decode prog_9_method_10_code 42 = .ok (.iload_n 2, 1) := by decide +kernel
theorem d1_43 : decode prog_9_method_10_code 43 = .ok (.ireturn, 1) := by decide +kernel
theorem pn_com_example_denary_denary_arith_LongArithmetic : plainName "com/example/denary/denary/arith/LongArithmetic" = true := by first | (simp [plainName, overriddenIn]; done) | decide +kernel
theorem ef_1 (m : MethodId) (p0 : Int64) : entryFrame m #[(.long p0)] 5 = mkF m 0 #[.val (.long p0), .second, .unset, .unset, .unset] [] := by first | (simp [entryFrame, mkF, argsToLocals, Value.category]; done) | rfl
set_option maxRecDepth 65536 in
set_option maxHeartbeats 40000000 in
theorem rm1 (l : Launch) (Z : State) (a0 : Array Value) (hw : ∀ d ∈ tables_1, d.before a0 Z = true) (ws : List Jvm.Cond) (p0 : Int64) (h0 : Heap) (n0 : Nat) (Z0 : n0 ≤ h0.size) (hnz : ¬ p0 = 0) :
    MetFree l (⟨"com/example/denary/denary/arith/LongArithmetic", "trailingZeros", "(J)I"⟩ : MethodName) (head1 (Jvm.Cond.code (⟨"com/example/denary/denary/arith/LongArithmetic", "trailingZeros", "(J)I"⟩ : MethodName) prog_9_method_10_code 5 (some .int) :: ws) ({ frames := 0, cells := 0, slots := 0, locals := 0 } : Room)) (fun a U => a = #[(.long p0)] ∧ Z.Warmed39 U.vm ∧ U.heap = h0) (fun _ _ _ _ _ => True) (fun _ U o U' => ∃ v L, o = .returned v ∧ (own_Q (some (.int (own_tz 19 p0 0))) h0 n0) v U'.heap L ∧ FrameEnd U o U' L ({ frames := 0, cells := 0, slots := 0, locals := 0 } : Room).cells ({ frames := 0, cells := 0, slots := 0, locals := 0 } : Room).slots) := by
  refine MetFree.of_bodySF (plainFor_of_name pn_com_example_denary_denary_arith_LongArithmetic) hisR ?_
  intro p e s m args below meth c s₁ Bd hml0 hP hK
  obtain ⟨rfl, hZ, hh⟩ := hP
  have hx := Bd.exec
  have hby := Bd.bytes
  have hml : c.maxLocals = 5 := hml0
  have hown : s.vm.findClass "com/example/denary/denary/arith/LongArithmetic" = some m.cls := findClass_of_methodNamed Bd.named
  have hnm := (name_of_methodNamed Bd.named Bd.method).1
  have X0 : Stand p l e ({ frames := 0, cells := 0, slots := 0, locals := 0 } : Room) s m #[(.long p0)] below meth c s₁ [] 0 0 := Stand.of_body Bd
  have e0 : s₁.heap = h0 := by rw [← hh, Bd.state]; rfl
  have N0 := Fr.nil n0
  refine own_body (QQ := (own_Q (some (.int (own_tz 19 p0 0))) h0 n0)) (ef_1 m p0) ?_
  refine own_via (s₁.setTop (mkF m 1 #[.val (.long p0), .second, .unset, .unset, .unset] [(.long p0)])) (fun t k => XS.lloadN X0.here hx rfl (hb hby d1_0) rfl  k) ?_
  refine own_via (s₁.setTop (mkF m 2 #[.val (.long p0), .second, .unset, .unset, .unset] [(.long (0 : Int64)), (.long p0)])) (fun t k => XS.lconst X0.here hx rfl (hb hby d1_1) k) ?_
  refine own_via (s₁.setTop (mkF m 3 #[.val (.long p0), .second, .unset, .unset, .unset] [(.int (lcmpW p0 (0 : Int64)))])) (fun t k => XS.lcmp X0.here hx rfl (hb hby d1_2) rfl k) ?_
  refine own_via (s₁.setTop (mkF m 16 #[.val (.long p0), .second, .unset, .unset, .unset] [])) (fun t k => XS.ifYes X0.here hx rfl (pc0 := 3) (pc' := 16) rfl (hb hby d1_3) rfl ((if0 _ _).trans (feq (fun q => hnz ((lw_eq p0 (0 : Int64)).mp q))).2) (by decide) (by decide) k) ?_
  refine own_via (s₁.setTop (mkF m 17 #[.val (.long p0), .second, .unset, .unset, .unset] [(.int (0 : Int32))])) (fun t k => XS.iconst X0.here hx rfl (hb hby d1_16) k) ?_
  refine own_via (s₁.setTop (mkF m 18 #[.val (.long p0), .second, .val (.int (0 : Int32)), .unset, .unset] [])) (fun t k => XS.istoreN X0.here hx rfl (hb hby d1_17) rfl (l' := #[.val (.long p0), .second, .val (.int (0 : Int32)), .unset, .unset]) rfl k) ?_
  refine own_via (s₁.setTop (mkF m 19 #[.val (.long p0), .second, .val (.int (0 : Int32)), .unset, .unset] [(.long p0)])) (fun t k => XS.lloadN X0.here hx rfl (hb hby d1_18) rfl  k) ?_
  refine own_via (s₁.setTop (mkF m 20 #[.val (.long p0), .second, .val (.int (0 : Int32)), .val (.long p0), .second] [])) (fun t k => XS.lstoreN X0.here hx rfl (hb hby d1_19) rfl (l' := #[.val (.long p0), .second, .val (.int (0 : Int32)), .val (.long p0), .second]) rfl k) ?_
  have loop : ∀ (n : Nat) (r : Int64) (cnt : Int32), ¬ r = 0 → -(10 ^ n : Int) < r.toInt → r.toInt < (10 ^ n : Int) → own_tz n r cnt = own_tz 19 p0 0 → own_Goes p e below (own_Fin s below (own_Q (some (.int (own_tz 19 p0 0))) h0 n0) ({ frames := 0, cells := 0, slots := 0, locals := 0 } : Room).cells ({ frames := 0, cells := 0, slots := 0, locals := 0 } : Room).slots) (s₁.setTop (mkF m 20 #[.val (.long p0), .second, .val (.int cnt), .val (.long r), .second] [])) := by
    intro n
    induction n with
    | zero => intro r cnt h1 h2 h3 hres; exact absurd (own_r0 h2 h3) h1
    | succ n ih =>
      intro r cnt h1 h2 h3 hres
      refine own_via (s₁.setTop (mkF m 21 #[.val (.long p0), .second, .val (.int cnt), .val (.long r), .second] [(.long r)])) (fun t k => XS.lloadN X0.here hx rfl (hb hby d1_20) rfl  k) ?_
      refine own_via (s₁.setTop (mkF m 24 #[.val (.long p0), .second, .val (.int cnt), .val (.long r), .second] [(.long (10 : Int64)), (.long r)])) (fun t k => X0.ldc2Long hx hown (mvT hZ (hw _ (List.mem_of_getElem? (i := 24) rfl))) (g := (mkF m 21 #[.val (.long p0), .second, .val (.int cnt), .val (.long r), .second] [(.long r)])) rfl (hb hby d1_21) _ k) ?_
      refine own_via (s₁.setTop (mkF m 25 #[.val (.long p0), .second, .val (.int cnt), .val (.long r), .second] [(.long (r - (r / (10 : Int64)) * (10 : Int64)))])) (fun t k => XS.lrem X0.here hx rfl (hb hby d1_24) rfl (by decide) k) ?_
      refine own_via (s₁.setTop (mkF m 26 #[.val (.long p0), .second, .val (.int cnt), .val (.long r), .second] [(.long (0 : Int64)), (.long (r - (r / (10 : Int64)) * (10 : Int64)))])) (fun t k => XS.lconst X0.here hx rfl (hb hby d1_25) k) ?_
      refine own_via (s₁.setTop (mkF m 27 #[.val (.long p0), .second, .val (.int cnt), .val (.long r), .second] [(.int (lcmpW (r - (r / (10 : Int64)) * (10 : Int64)) (0 : Int64)))])) (fun t k => XS.lcmp X0.here hx rfl (hb hby d1_26) rfl k) ?_
      by_cases hc27_1 : (r - (r / (10 : Int64)) * (10 : Int64)) = (0 : Int64)
      · refine own_via (s₁.setTop (mkF m 30 #[.val (.long p0), .second, .val (.int cnt), .val (.long r), .second] [])) (fun t k => XS.ifNo X0.here hx rfl (hb hby d1_27) rfl ((if0 _ _).trans (teq ((lw_eq (r - (r / (10 : Int64)) * (10 : Int64)) (0 : Int64)).mpr hc27_1)).2) k) ?_
        refine own_via (s₁.setTop (mkF m 31 #[.val (.long p0), .second, .val (.int cnt), .val (.long r), .second] [(.long r)])) (fun t k => XS.lloadN X0.here hx rfl (hb hby d1_30) rfl  k) ?_
        refine own_via (s₁.setTop (mkF m 34 #[.val (.long p0), .second, .val (.int cnt), .val (.long r), .second] [(.long (10 : Int64)), (.long r)])) (fun t k => X0.ldc2Long hx hown (mvT hZ (hw _ (List.mem_of_getElem? (i := 24) rfl))) (g := (mkF m 31 #[.val (.long p0), .second, .val (.int cnt), .val (.long r), .second] [(.long r)])) rfl (hb hby d1_31) _ k) ?_
        refine own_via (s₁.setTop (mkF m 35 #[.val (.long p0), .second, .val (.int cnt), .val (.long r), .second] [(.long (r / (10 : Int64)))])) (fun t k => XS.ldiv X0.here hx rfl (hb hby d1_34) rfl (by decide) k) ?_
        refine own_via (s₁.setTop (mkF m 36 #[.val (.long p0), .second, .val (.int cnt), .val (.long (r / (10 : Int64))), .second] [])) (fun t k => XS.lstoreN X0.here hx rfl (hb hby d1_35) rfl (l' := #[.val (.long p0), .second, .val (.int cnt), .val (.long (r / (10 : Int64))), .second]) rfl k) ?_
        refine own_via (s₁.setTop (mkF m 39 #[.val (.long p0), .second, .val (.int (cnt + (1 : Int32))), .val (.long (r / (10 : Int64))), .second] [])) (fun t k => XS.iinc X0.here hx rfl (hb hby d1_36) rfl (l' := #[.val (.long p0), .second, .val (.int (cnt + (1 : Int32))), .val (.long (r / (10 : Int64))), .second]) rfl k) ?_
        refine own_via (s₁.setTop (mkF m 20 #[.val (.long p0), .second, .val (.int (cnt + (1 : Int32))), .val (.long (r / (10 : Int64))), .second] [])) (fun t k => XS.goto X0.here hx rfl (pc0 := 39) (pc' := 20) rfl (hb hby d1_39) (by decide) (by decide) k) ?_
        exact ih _ _ (own_q0 h1 hc27_1) (own_ql h1 h2 h3 hc27_1).1 (own_ql h1 h2 h3 hc27_1).2 ((own_tzS hc27_1).symm.trans hres)
      · refine own_via (s₁.setTop (mkF m 42 #[.val (.long p0), .second, .val (.int cnt), .val (.long r), .second] [])) (fun t k => XS.ifYes X0.here hx rfl (pc0 := 27) (pc' := 42) rfl (hb hby d1_27) rfl ((if0 _ _).trans (feq (fun q => hc27_1 ((lw_eq (r - (r / (10 : Int64)) * (10 : Int64)) (0 : Int64)).mp q))).2) (by decide) (by decide) k) ?_
        refine own_via (s₁.setTop (mkF m 43 #[.val (.long p0), .second, .val (.int cnt), .val (.long r), .second] [(.int cnt)])) (fun t k => XS.iloadN X0.here hx rfl (hb hby d1_42) rfl  k) ?_
        refine own_leave X0 Bd.notSynchronized (v := some (.int cnt)) (fun h => by rw [Bd.returns] at h; cases h) (fun fs hr => retI X0 hx Bd.returns (hb hby d1_43) hr) ?_ (by decide) (by decide)
        refine ⟨?_, N0, e0⟩
        rw [← hres, own_tzN hc27_1]
  exact loop 19 p0 0 hnz (own_b19 p0).1 (own_b19 p0).2 rfl
def own_Q0 (n0 : Nat) (v : Option Value) (h : Heap) (L : List Loc) : Prop := v = some (.int 1) ∧ Fr n0 L
theorem pd_0 : parseMethodDescriptor "(J)I" = some ⟨[.long], some .int⟩ := by decide +kernel
theorem pn_com_example_denary_denary_arith_LongArithmeticTrailingZerosPinLaw : plainName "com/example/denary/denary/arith/LongArithmeticTrailingZerosPinLaw" = true := by first | (simp [plainName, overriddenIn]; done) | decide +kernel
theorem ef_0 (m : MethodId) (p0 : Int64) (p1 : Int32) : entryFrame m #[(.long p0), (.int p1)] maxLocals = mkF m 0 #[.val (.long p0), .second, .val (.int p1), .unset, .unset, .unset, .unset, .unset] [] := by first | (simp [entryFrame, mkF, argsToLocals, Value.category, maxLocals]; done) | rfl
set_option maxRecDepth 65536 in
set_option maxHeartbeats 40000000 in
theorem rm0 (l : Launch) (Z : State) (a0 : Array Value) (hw : ∀ d ∈ tables_1, d.before a0 Z = true) (ws : List Jvm.Cond) (p0 : Int64) (p1 : Int32) (h0 : Heap) (n0 : Nat) (Z0 : n0 ≤ h0.size)  :
    MetFree l x (head1 (Jvm.Cond.code x code maxLocals ret :: ws) room_1) (fun a U => a = #[(.long p0), (.int p1)] ∧ Z.Warmed39 U.vm ∧ U.heap = h0) (fun _ _ _ _ _ => True) (fun _ U o U' => ∃ v L, o = .returned v ∧ (own_Q0 n0) v U'.heap L ∧ FrameEnd U o U' L room_1.cells room_1.slots) := by
  refine MetFree.of_bodySF (plainFor_of_name pn_com_example_denary_denary_arith_LongArithmeticTrailingZerosPinLaw) hisR ?_
  intro p e s m args below meth c s₁ Bd hml0 hP hK
  obtain ⟨rfl, hZ, hh⟩ := hP
  have hx := Bd.exec
  have hby := Bd.bytes
  have hml : c.maxLocals = 8 := hml0
  have hown : s.vm.findClass "com/example/denary/denary/arith/LongArithmeticTrailingZerosPinLaw" = some m.cls := findClass_of_methodNamed Bd.named
  have hnm := (name_of_methodNamed Bd.named Bd.method).1
  have X0 : Stand p l e room_1 s m #[(.long p0), (.int p1)] below meth c s₁ [] 0 0 := Stand.of_body Bd
  have e0 : s₁.heap = h0 := by rw [← hh, Bd.state]; rfl
  have N0 := Fr.nil n0
  refine own_body (QQ := (own_Q0 n0)) (ef_0 m p0 p1) ?_
  refine own_via (s₁.setTop (mkF m 2 #[.val (.long p0), .second, .val (.int p1), .unset, .unset, .unset, .unset, .unset] [(.int (19 : Int32))])) (fun t k => XS.bipush X0.here hx rfl (hb hby at_0) k) ?_
  obtain ⟨T2, h2, k2, X2, e2, E2, A2, st2⟩ := newP X0 hx hZ (hw _ (List.mem_of_getElem? (i := 0) rfl)) e0 (g := (mkF m 2 #[.val (.long p0), .second, .val (.int p1), .unset, .unset, .unset, .unset, .unset] [(.int (19 : Int32))])) rfl (hb hby at_2) rfl (by decide) (cap := 19) (by decide) (by decide) (by decide) (by decide)
  obtain ⟨b2, g2⟩ : ∃ z, z = h0.size := ⟨_, rfl⟩
  rw [← g2] at A2 st2
  have gg_b2 : n0 ≤ b2 := Nat.le_trans (Nat.le_trans Z0 (Keep.refl h0 []).1) (Nat.le_of_eq g2.symm)
  have sz_b2 : h0.size ≤ b2 := Nat.le_trans (Keep.refl h0 []).1 (Nat.le_of_eq g2.symm)
  have V2 : Arv Z h2 b2 k2 .long (19 : Int32) [(.long (0 : Int64)), (.long (0 : Int64)), (.long (0 : Int64)), (.long (0 : Int64)), (.long (0 : Int64)), (.long (0 : Int64)), (.long (0 : Int64)), (.long (0 : Int64)), (.long (0 : Int64)), (.long (0 : Int64)), (.long (0 : Int64)), (.long (0 : Int64)), (.long (0 : Int64)), (.long (0 : Int64)), (.long (0 : Int64)), (.long (0 : Int64)), (.long (0 : Int64)), (.long (0 : Int64)), (.long (0 : Int64))] (.long (0 : Int64)) := (Arv.new A2 (by decide)).pad (pad_rep [] (.long (0 : Int64)) 19)
  have K3 : Keep h0 h2 [] := (Keep.refl h0 []).ext E2
  refine own_via (T2.setTop (mkF m 4 #[.val (.long p0), .second, .val (.int p1), .unset, .unset, .unset, .unset, .unset] [(.ref b2)])) (fun t k => st2 t k) ?_
  refine own_via (T2.setTop (mkF m 5 #[.val (.long p0), .second, .val (.int p1), .unset, .unset, .unset, .unset, .unset] [(.ref b2), (.ref b2)])) (fun t k => XS.dup X2.here hx rfl (hb hby at_4) rfl rfl k) ?_
  refine own_via (T2.setTop (mkF m 6 #[.val (.long p0), .second, .val (.int p1), .unset, .unset, .unset, .unset, .unset] [(.int (0 : Int32)), (.ref b2), (.ref b2)])) (fun t k => XS.iconst X2.here hx rfl (hb hby at_5) k) ?_
  refine own_via (T2.setTop (mkF m 7 #[.val (.long p0), .second, .val (.int p1), .unset, .unset, .unset, .unset, .unset] [(.long (1 : Int64)), (.int (0 : Int32)), (.ref b2), (.ref b2)])) (fun t k => XS.lconst X2.here hx rfl (hb hby at_6) k) ?_
  obtain ⟨cl5, Ar5, q5, S5, M5, H5, G5⟩ := id V2
  obtain ⟨T4, h4, X4, e4, W4, st4⟩ := stJ X2 hx hZ e2 Ar5 (j := (0 : Int32)) (inb_of S5 ⟨by decide, by decide⟩) (g := (mkF m 7 #[.val (.long p0), .second, .val (.int p1), .unset, .unset, .unset, .unset, .unset] [(.long (1 : Int64)), (.int (0 : Int32)), (.ref b2), (.ref b2)])) rfl rfl (hb hby at_7)
  have V4 : Arv Z h4 b2 k2 .long (19 : Int32) [(.long (1 : Int64)), (.long (0 : Int64)), (.long (0 : Int64)), (.long (0 : Int64)), (.long (0 : Int64)), (.long (0 : Int64)), (.long (0 : Int64)), (.long (0 : Int64)), (.long (0 : Int64)), (.long (0 : Int64)), (.long (0 : Int64)), (.long (0 : Int64)), (.long (0 : Int64)), (.long (0 : Int64)), (.long (0 : Int64)), (.long (0 : Int64)), (.long (0 : Int64)), (.long (0 : Int64)), (.long (0 : Int64))] (.long (0 : Int64)) := Arv.set Ar5 q5 S5 M5 H5 G5 rfl W4 0 rfl (Nat.le_of_ble_eq_true rfl)
  have N4 := Fr.snoc X4 N0 gg_b2
  have K6 : Keep h0 h4 [] := K3.wr W4 (Or.inr sz_b2)
  refine own_via (T4.setTop (mkF m 8 #[.val (.long p0), .second, .val (.int p1), .unset, .unset, .unset, .unset, .unset] [(.ref b2)])) (fun t k => st4 t k) ?_
  refine own_via (T4.setTop (mkF m 9 #[.val (.long p0), .second, .val (.int p1), .unset, .unset, .unset, .unset, .unset] [(.ref b2), (.ref b2)])) (fun t k => XS.dup X4.here hx rfl (hb hby at_8) rfl rfl k) ?_
  refine own_via (T4.setTop (mkF m 10 #[.val (.long p0), .second, .val (.int p1), .unset, .unset, .unset, .unset, .unset] [(.int (1 : Int32)), (.ref b2), (.ref b2)])) (fun t k => XS.iconst X4.here hx rfl (hb hby at_9) k) ?_
  refine own_via (T4.setTop (mkF m 13 #[.val (.long p0), .second, .val (.int p1), .unset, .unset, .unset, .unset, .unset] [(.long (10 : Int64)), (.int (1 : Int32)), (.ref b2), (.ref b2)])) (fun t k => X4.ldc2Long hx hown (mvT hZ (hw _ (List.mem_of_getElem? (i := 1) rfl))) (g := (mkF m 10 #[.val (.long p0), .second, .val (.int p1), .unset, .unset, .unset, .unset, .unset] [(.int (1 : Int32)), (.ref b2), (.ref b2)])) rfl (hb hby at_10) _ k) ?_
  obtain ⟨cl8, Ar8, q8, S8, M8, H8, G8⟩ := id V4
  obtain ⟨T7, h7, X7, e7, W7, st7⟩ := stJ X4 hx hZ e4 Ar8 (j := (1 : Int32)) (inb_of S8 ⟨by decide, by decide⟩) (g := (mkF m 13 #[.val (.long p0), .second, .val (.int p1), .unset, .unset, .unset, .unset, .unset] [(.long (10 : Int64)), (.int (1 : Int32)), (.ref b2), (.ref b2)])) rfl rfl (hb hby at_13)
  have V7 : Arv Z h7 b2 k2 .long (19 : Int32) [(.long (1 : Int64)), (.long (10 : Int64)), (.long (0 : Int64)), (.long (0 : Int64)), (.long (0 : Int64)), (.long (0 : Int64)), (.long (0 : Int64)), (.long (0 : Int64)), (.long (0 : Int64)), (.long (0 : Int64)), (.long (0 : Int64)), (.long (0 : Int64)), (.long (0 : Int64)), (.long (0 : Int64)), (.long (0 : Int64)), (.long (0 : Int64)), (.long (0 : Int64)), (.long (0 : Int64)), (.long (0 : Int64))] (.long (0 : Int64)) := Arv.set Ar8 q8 S8 M8 H8 G8 rfl W7 1 rfl (Nat.le_of_ble_eq_true rfl)
  have N7 := Fr.snoc X7 N4 gg_b2
  have K9 : Keep h0 h7 [] := K6.wr W7 (Or.inr sz_b2)
  refine own_via (T7.setTop (mkF m 14 #[.val (.long p0), .second, .val (.int p1), .unset, .unset, .unset, .unset, .unset] [(.ref b2)])) (fun t k => st7 t k) ?_
  refine own_via (T7.setTop (mkF m 15 #[.val (.long p0), .second, .val (.int p1), .unset, .unset, .unset, .unset, .unset] [(.ref b2), (.ref b2)])) (fun t k => XS.dup X7.here hx rfl (hb hby at_14) rfl rfl k) ?_
  refine own_via (T7.setTop (mkF m 16 #[.val (.long p0), .second, .val (.int p1), .unset, .unset, .unset, .unset, .unset] [(.int (2 : Int32)), (.ref b2), (.ref b2)])) (fun t k => XS.iconst X7.here hx rfl (hb hby at_15) k) ?_
  refine own_via (T7.setTop (mkF m 19 #[.val (.long p0), .second, .val (.int p1), .unset, .unset, .unset, .unset, .unset] [(.long (100 : Int64)), (.int (2 : Int32)), (.ref b2), (.ref b2)])) (fun t k => X7.ldc2Long hx hown (mvT hZ (hw _ (List.mem_of_getElem? (i := 2) rfl))) (g := (mkF m 16 #[.val (.long p0), .second, .val (.int p1), .unset, .unset, .unset, .unset, .unset] [(.int (2 : Int32)), (.ref b2), (.ref b2)])) rfl (hb hby at_16) _ k) ?_
  obtain ⟨cl11, Ar11, q11, S11, M11, H11, G11⟩ := id V7
  obtain ⟨T10, h10, X10, e10, W10, st10⟩ := stJ X7 hx hZ e7 Ar11 (j := (2 : Int32)) (inb_of S11 ⟨by decide, by decide⟩) (g := (mkF m 19 #[.val (.long p0), .second, .val (.int p1), .unset, .unset, .unset, .unset, .unset] [(.long (100 : Int64)), (.int (2 : Int32)), (.ref b2), (.ref b2)])) rfl rfl (hb hby at_19)
  have V10 : Arv Z h10 b2 k2 .long (19 : Int32) [(.long (1 : Int64)), (.long (10 : Int64)), (.long (100 : Int64)), (.long (0 : Int64)), (.long (0 : Int64)), (.long (0 : Int64)), (.long (0 : Int64)), (.long (0 : Int64)), (.long (0 : Int64)), (.long (0 : Int64)), (.long (0 : Int64)), (.long (0 : Int64)), (.long (0 : Int64)), (.long (0 : Int64)), (.long (0 : Int64)), (.long (0 : Int64)), (.long (0 : Int64)), (.long (0 : Int64)), (.long (0 : Int64))] (.long (0 : Int64)) := Arv.set Ar11 q11 S11 M11 H11 G11 rfl W10 2 rfl (Nat.le_of_ble_eq_true rfl)
  have N10 := Fr.snoc X10 N7 gg_b2
  have K12 : Keep h0 h10 [] := K9.wr W10 (Or.inr sz_b2)
  refine own_via (T10.setTop (mkF m 20 #[.val (.long p0), .second, .val (.int p1), .unset, .unset, .unset, .unset, .unset] [(.ref b2)])) (fun t k => st10 t k) ?_
  refine own_via (T10.setTop (mkF m 21 #[.val (.long p0), .second, .val (.int p1), .unset, .unset, .unset, .unset, .unset] [(.ref b2), (.ref b2)])) (fun t k => XS.dup X10.here hx rfl (hb hby at_20) rfl rfl k) ?_
  refine own_via (T10.setTop (mkF m 22 #[.val (.long p0), .second, .val (.int p1), .unset, .unset, .unset, .unset, .unset] [(.int (3 : Int32)), (.ref b2), (.ref b2)])) (fun t k => XS.iconst X10.here hx rfl (hb hby at_21) k) ?_
  refine own_via (T10.setTop (mkF m 25 #[.val (.long p0), .second, .val (.int p1), .unset, .unset, .unset, .unset, .unset] [(.long (1000 : Int64)), (.int (3 : Int32)), (.ref b2), (.ref b2)])) (fun t k => X10.ldc2Long hx hown (mvT hZ (hw _ (List.mem_of_getElem? (i := 3) rfl))) (g := (mkF m 22 #[.val (.long p0), .second, .val (.int p1), .unset, .unset, .unset, .unset, .unset] [(.int (3 : Int32)), (.ref b2), (.ref b2)])) rfl (hb hby at_22) _ k) ?_
  obtain ⟨cl14, Ar14, q14, S14, M14, H14, G14⟩ := id V10
  obtain ⟨T13, h13, X13, e13, W13, st13⟩ := stJ X10 hx hZ e10 Ar14 (j := (3 : Int32)) (inb_of S14 ⟨by decide, by decide⟩) (g := (mkF m 25 #[.val (.long p0), .second, .val (.int p1), .unset, .unset, .unset, .unset, .unset] [(.long (1000 : Int64)), (.int (3 : Int32)), (.ref b2), (.ref b2)])) rfl rfl (hb hby at_25)
  have V13 : Arv Z h13 b2 k2 .long (19 : Int32) [(.long (1 : Int64)), (.long (10 : Int64)), (.long (100 : Int64)), (.long (1000 : Int64)), (.long (0 : Int64)), (.long (0 : Int64)), (.long (0 : Int64)), (.long (0 : Int64)), (.long (0 : Int64)), (.long (0 : Int64)), (.long (0 : Int64)), (.long (0 : Int64)), (.long (0 : Int64)), (.long (0 : Int64)), (.long (0 : Int64)), (.long (0 : Int64)), (.long (0 : Int64)), (.long (0 : Int64)), (.long (0 : Int64))] (.long (0 : Int64)) := Arv.set Ar14 q14 S14 M14 H14 G14 rfl W13 3 rfl (Nat.le_of_ble_eq_true rfl)
  have N13 := Fr.snoc X13 N10 gg_b2
  have K15 : Keep h0 h13 [] := K12.wr W13 (Or.inr sz_b2)
  refine own_via (T13.setTop (mkF m 26 #[.val (.long p0), .second, .val (.int p1), .unset, .unset, .unset, .unset, .unset] [(.ref b2)])) (fun t k => st13 t k) ?_
  refine own_via (T13.setTop (mkF m 27 #[.val (.long p0), .second, .val (.int p1), .unset, .unset, .unset, .unset, .unset] [(.ref b2), (.ref b2)])) (fun t k => XS.dup X13.here hx rfl (hb hby at_26) rfl rfl k) ?_
  refine own_via (T13.setTop (mkF m 28 #[.val (.long p0), .second, .val (.int p1), .unset, .unset, .unset, .unset, .unset] [(.int (4 : Int32)), (.ref b2), (.ref b2)])) (fun t k => XS.iconst X13.here hx rfl (hb hby at_27) k) ?_
  refine own_via (T13.setTop (mkF m 31 #[.val (.long p0), .second, .val (.int p1), .unset, .unset, .unset, .unset, .unset] [(.long (10000 : Int64)), (.int (4 : Int32)), (.ref b2), (.ref b2)])) (fun t k => X13.ldc2Long hx hown (mvT hZ (hw _ (List.mem_of_getElem? (i := 4) rfl))) (g := (mkF m 28 #[.val (.long p0), .second, .val (.int p1), .unset, .unset, .unset, .unset, .unset] [(.int (4 : Int32)), (.ref b2), (.ref b2)])) rfl (hb hby at_28) _ k) ?_
  obtain ⟨cl17, Ar17, q17, S17, M17, H17, G17⟩ := id V13
  obtain ⟨T16, h16, X16, e16, W16, st16⟩ := stJ X13 hx hZ e13 Ar17 (j := (4 : Int32)) (inb_of S17 ⟨by decide, by decide⟩) (g := (mkF m 31 #[.val (.long p0), .second, .val (.int p1), .unset, .unset, .unset, .unset, .unset] [(.long (10000 : Int64)), (.int (4 : Int32)), (.ref b2), (.ref b2)])) rfl rfl (hb hby at_31)
  have V16 : Arv Z h16 b2 k2 .long (19 : Int32) [(.long (1 : Int64)), (.long (10 : Int64)), (.long (100 : Int64)), (.long (1000 : Int64)), (.long (10000 : Int64)), (.long (0 : Int64)), (.long (0 : Int64)), (.long (0 : Int64)), (.long (0 : Int64)), (.long (0 : Int64)), (.long (0 : Int64)), (.long (0 : Int64)), (.long (0 : Int64)), (.long (0 : Int64)), (.long (0 : Int64)), (.long (0 : Int64)), (.long (0 : Int64)), (.long (0 : Int64)), (.long (0 : Int64))] (.long (0 : Int64)) := Arv.set Ar17 q17 S17 M17 H17 G17 rfl W16 4 rfl (Nat.le_of_ble_eq_true rfl)
  have N16 := Fr.snoc X16 N13 gg_b2
  have K18 : Keep h0 h16 [] := K15.wr W16 (Or.inr sz_b2)
  refine own_via (T16.setTop (mkF m 32 #[.val (.long p0), .second, .val (.int p1), .unset, .unset, .unset, .unset, .unset] [(.ref b2)])) (fun t k => st16 t k) ?_
  refine own_via (T16.setTop (mkF m 33 #[.val (.long p0), .second, .val (.int p1), .unset, .unset, .unset, .unset, .unset] [(.ref b2), (.ref b2)])) (fun t k => XS.dup X16.here hx rfl (hb hby at_32) rfl rfl k) ?_
  refine own_via (T16.setTop (mkF m 34 #[.val (.long p0), .second, .val (.int p1), .unset, .unset, .unset, .unset, .unset] [(.int (5 : Int32)), (.ref b2), (.ref b2)])) (fun t k => XS.iconst X16.here hx rfl (hb hby at_33) k) ?_
  refine own_via (T16.setTop (mkF m 37 #[.val (.long p0), .second, .val (.int p1), .unset, .unset, .unset, .unset, .unset] [(.long (100000 : Int64)), (.int (5 : Int32)), (.ref b2), (.ref b2)])) (fun t k => X16.ldc2Long hx hown (mvT hZ (hw _ (List.mem_of_getElem? (i := 5) rfl))) (g := (mkF m 34 #[.val (.long p0), .second, .val (.int p1), .unset, .unset, .unset, .unset, .unset] [(.int (5 : Int32)), (.ref b2), (.ref b2)])) rfl (hb hby at_34) _ k) ?_
  obtain ⟨cl20, Ar20, q20, S20, M20, H20, G20⟩ := id V16
  obtain ⟨T19, h19, X19, e19, W19, st19⟩ := stJ X16 hx hZ e16 Ar20 (j := (5 : Int32)) (inb_of S20 ⟨by decide, by decide⟩) (g := (mkF m 37 #[.val (.long p0), .second, .val (.int p1), .unset, .unset, .unset, .unset, .unset] [(.long (100000 : Int64)), (.int (5 : Int32)), (.ref b2), (.ref b2)])) rfl rfl (hb hby at_37)
  have V19 : Arv Z h19 b2 k2 .long (19 : Int32) [(.long (1 : Int64)), (.long (10 : Int64)), (.long (100 : Int64)), (.long (1000 : Int64)), (.long (10000 : Int64)), (.long (100000 : Int64)), (.long (0 : Int64)), (.long (0 : Int64)), (.long (0 : Int64)), (.long (0 : Int64)), (.long (0 : Int64)), (.long (0 : Int64)), (.long (0 : Int64)), (.long (0 : Int64)), (.long (0 : Int64)), (.long (0 : Int64)), (.long (0 : Int64)), (.long (0 : Int64)), (.long (0 : Int64))] (.long (0 : Int64)) := Arv.set Ar20 q20 S20 M20 H20 G20 rfl W19 5 rfl (Nat.le_of_ble_eq_true rfl)
  have N19 := Fr.snoc X19 N16 gg_b2
  have K21 : Keep h0 h19 [] := K18.wr W19 (Or.inr sz_b2)
  refine own_via (T19.setTop (mkF m 38 #[.val (.long p0), .second, .val (.int p1), .unset, .unset, .unset, .unset, .unset] [(.ref b2)])) (fun t k => st19 t k) ?_
  refine own_via (T19.setTop (mkF m 39 #[.val (.long p0), .second, .val (.int p1), .unset, .unset, .unset, .unset, .unset] [(.ref b2), (.ref b2)])) (fun t k => XS.dup X19.here hx rfl (hb hby at_38) rfl rfl k) ?_
  refine own_via (T19.setTop (mkF m 41 #[.val (.long p0), .second, .val (.int p1), .unset, .unset, .unset, .unset, .unset] [(.int (6 : Int32)), (.ref b2), (.ref b2)])) (fun t k => XS.bipush X19.here hx rfl (hb hby at_39) k) ?_
  refine own_via (T19.setTop (mkF m 44 #[.val (.long p0), .second, .val (.int p1), .unset, .unset, .unset, .unset, .unset] [(.long (1000000 : Int64)), (.int (6 : Int32)), (.ref b2), (.ref b2)])) (fun t k => X19.ldc2Long hx hown (mvT hZ (hw _ (List.mem_of_getElem? (i := 6) rfl))) (g := (mkF m 41 #[.val (.long p0), .second, .val (.int p1), .unset, .unset, .unset, .unset, .unset] [(.int (6 : Int32)), (.ref b2), (.ref b2)])) rfl (hb hby at_41) _ k) ?_
  obtain ⟨cl23, Ar23, q23, S23, M23, H23, G23⟩ := id V19
  obtain ⟨T22, h22, X22, e22, W22, st22⟩ := stJ X19 hx hZ e19 Ar23 (j := (6 : Int32)) (inb_of S23 ⟨by decide, by decide⟩) (g := (mkF m 44 #[.val (.long p0), .second, .val (.int p1), .unset, .unset, .unset, .unset, .unset] [(.long (1000000 : Int64)), (.int (6 : Int32)), (.ref b2), (.ref b2)])) rfl rfl (hb hby at_44)
  have V22 : Arv Z h22 b2 k2 .long (19 : Int32) [(.long (1 : Int64)), (.long (10 : Int64)), (.long (100 : Int64)), (.long (1000 : Int64)), (.long (10000 : Int64)), (.long (100000 : Int64)), (.long (1000000 : Int64)), (.long (0 : Int64)), (.long (0 : Int64)), (.long (0 : Int64)), (.long (0 : Int64)), (.long (0 : Int64)), (.long (0 : Int64)), (.long (0 : Int64)), (.long (0 : Int64)), (.long (0 : Int64)), (.long (0 : Int64)), (.long (0 : Int64)), (.long (0 : Int64))] (.long (0 : Int64)) := Arv.set Ar23 q23 S23 M23 H23 G23 rfl W22 6 rfl (Nat.le_of_ble_eq_true rfl)
  have N22 := Fr.snoc X22 N19 gg_b2
  have K24 : Keep h0 h22 [] := K21.wr W22 (Or.inr sz_b2)
  refine own_via (T22.setTop (mkF m 45 #[.val (.long p0), .second, .val (.int p1), .unset, .unset, .unset, .unset, .unset] [(.ref b2)])) (fun t k => st22 t k) ?_
  refine own_via (T22.setTop (mkF m 46 #[.val (.long p0), .second, .val (.int p1), .unset, .unset, .unset, .unset, .unset] [(.ref b2), (.ref b2)])) (fun t k => XS.dup X22.here hx rfl (hb hby at_45) rfl rfl k) ?_
  refine own_via (T22.setTop (mkF m 48 #[.val (.long p0), .second, .val (.int p1), .unset, .unset, .unset, .unset, .unset] [(.int (7 : Int32)), (.ref b2), (.ref b2)])) (fun t k => XS.bipush X22.here hx rfl (hb hby at_46) k) ?_
  refine own_via (T22.setTop (mkF m 51 #[.val (.long p0), .second, .val (.int p1), .unset, .unset, .unset, .unset, .unset] [(.long (10000000 : Int64)), (.int (7 : Int32)), (.ref b2), (.ref b2)])) (fun t k => X22.ldc2Long hx hown (mvT hZ (hw _ (List.mem_of_getElem? (i := 7) rfl))) (g := (mkF m 48 #[.val (.long p0), .second, .val (.int p1), .unset, .unset, .unset, .unset, .unset] [(.int (7 : Int32)), (.ref b2), (.ref b2)])) rfl (hb hby at_48) _ k) ?_
  obtain ⟨cl26, Ar26, q26, S26, M26, H26, G26⟩ := id V22
  obtain ⟨T25, h25, X25, e25, W25, st25⟩ := stJ X22 hx hZ e22 Ar26 (j := (7 : Int32)) (inb_of S26 ⟨by decide, by decide⟩) (g := (mkF m 51 #[.val (.long p0), .second, .val (.int p1), .unset, .unset, .unset, .unset, .unset] [(.long (10000000 : Int64)), (.int (7 : Int32)), (.ref b2), (.ref b2)])) rfl rfl (hb hby at_51)
  have V25 : Arv Z h25 b2 k2 .long (19 : Int32) [(.long (1 : Int64)), (.long (10 : Int64)), (.long (100 : Int64)), (.long (1000 : Int64)), (.long (10000 : Int64)), (.long (100000 : Int64)), (.long (1000000 : Int64)), (.long (10000000 : Int64)), (.long (0 : Int64)), (.long (0 : Int64)), (.long (0 : Int64)), (.long (0 : Int64)), (.long (0 : Int64)), (.long (0 : Int64)), (.long (0 : Int64)), (.long (0 : Int64)), (.long (0 : Int64)), (.long (0 : Int64)), (.long (0 : Int64))] (.long (0 : Int64)) := Arv.set Ar26 q26 S26 M26 H26 G26 rfl W25 7 rfl (Nat.le_of_ble_eq_true rfl)
  have N25 := Fr.snoc X25 N22 gg_b2
  have K27 : Keep h0 h25 [] := K24.wr W25 (Or.inr sz_b2)
  refine own_via (T25.setTop (mkF m 52 #[.val (.long p0), .second, .val (.int p1), .unset, .unset, .unset, .unset, .unset] [(.ref b2)])) (fun t k => st25 t k) ?_
  refine own_via (T25.setTop (mkF m 53 #[.val (.long p0), .second, .val (.int p1), .unset, .unset, .unset, .unset, .unset] [(.ref b2), (.ref b2)])) (fun t k => XS.dup X25.here hx rfl (hb hby at_52) rfl rfl k) ?_
  refine own_via (T25.setTop (mkF m 55 #[.val (.long p0), .second, .val (.int p1), .unset, .unset, .unset, .unset, .unset] [(.int (8 : Int32)), (.ref b2), (.ref b2)])) (fun t k => XS.bipush X25.here hx rfl (hb hby at_53) k) ?_
  refine own_via (T25.setTop (mkF m 58 #[.val (.long p0), .second, .val (.int p1), .unset, .unset, .unset, .unset, .unset] [(.long (100000000 : Int64)), (.int (8 : Int32)), (.ref b2), (.ref b2)])) (fun t k => X25.ldc2Long hx hown (mvT hZ (hw _ (List.mem_of_getElem? (i := 8) rfl))) (g := (mkF m 55 #[.val (.long p0), .second, .val (.int p1), .unset, .unset, .unset, .unset, .unset] [(.int (8 : Int32)), (.ref b2), (.ref b2)])) rfl (hb hby at_55) _ k) ?_
  obtain ⟨cl29, Ar29, q29, S29, M29, H29, G29⟩ := id V25
  obtain ⟨T28, h28, X28, e28, W28, st28⟩ := stJ X25 hx hZ e25 Ar29 (j := (8 : Int32)) (inb_of S29 ⟨by decide, by decide⟩) (g := (mkF m 58 #[.val (.long p0), .second, .val (.int p1), .unset, .unset, .unset, .unset, .unset] [(.long (100000000 : Int64)), (.int (8 : Int32)), (.ref b2), (.ref b2)])) rfl rfl (hb hby at_58)
  have V28 : Arv Z h28 b2 k2 .long (19 : Int32) [(.long (1 : Int64)), (.long (10 : Int64)), (.long (100 : Int64)), (.long (1000 : Int64)), (.long (10000 : Int64)), (.long (100000 : Int64)), (.long (1000000 : Int64)), (.long (10000000 : Int64)), (.long (100000000 : Int64)), (.long (0 : Int64)), (.long (0 : Int64)), (.long (0 : Int64)), (.long (0 : Int64)), (.long (0 : Int64)), (.long (0 : Int64)), (.long (0 : Int64)), (.long (0 : Int64)), (.long (0 : Int64)), (.long (0 : Int64))] (.long (0 : Int64)) := Arv.set Ar29 q29 S29 M29 H29 G29 rfl W28 8 rfl (Nat.le_of_ble_eq_true rfl)
  have N28 := Fr.snoc X28 N25 gg_b2
  have K30 : Keep h0 h28 [] := K27.wr W28 (Or.inr sz_b2)
  refine own_via (T28.setTop (mkF m 59 #[.val (.long p0), .second, .val (.int p1), .unset, .unset, .unset, .unset, .unset] [(.ref b2)])) (fun t k => st28 t k) ?_
  refine own_via (T28.setTop (mkF m 60 #[.val (.long p0), .second, .val (.int p1), .unset, .unset, .unset, .unset, .unset] [(.ref b2), (.ref b2)])) (fun t k => XS.dup X28.here hx rfl (hb hby at_59) rfl rfl k) ?_
  refine own_via (T28.setTop (mkF m 62 #[.val (.long p0), .second, .val (.int p1), .unset, .unset, .unset, .unset, .unset] [(.int (9 : Int32)), (.ref b2), (.ref b2)])) (fun t k => XS.bipush X28.here hx rfl (hb hby at_60) k) ?_
  refine own_via (T28.setTop (mkF m 65 #[.val (.long p0), .second, .val (.int p1), .unset, .unset, .unset, .unset, .unset] [(.long (1000000000 : Int64)), (.int (9 : Int32)), (.ref b2), (.ref b2)])) (fun t k => X28.ldc2Long hx hown (mvT hZ (hw _ (List.mem_of_getElem? (i := 9) rfl))) (g := (mkF m 62 #[.val (.long p0), .second, .val (.int p1), .unset, .unset, .unset, .unset, .unset] [(.int (9 : Int32)), (.ref b2), (.ref b2)])) rfl (hb hby at_62) _ k) ?_
  obtain ⟨cl32, Ar32, q32, S32, M32, H32, G32⟩ := id V28
  obtain ⟨T31, h31, X31, e31, W31, st31⟩ := stJ X28 hx hZ e28 Ar32 (j := (9 : Int32)) (inb_of S32 ⟨by decide, by decide⟩) (g := (mkF m 65 #[.val (.long p0), .second, .val (.int p1), .unset, .unset, .unset, .unset, .unset] [(.long (1000000000 : Int64)), (.int (9 : Int32)), (.ref b2), (.ref b2)])) rfl rfl (hb hby at_65)
  have V31 : Arv Z h31 b2 k2 .long (19 : Int32) [(.long (1 : Int64)), (.long (10 : Int64)), (.long (100 : Int64)), (.long (1000 : Int64)), (.long (10000 : Int64)), (.long (100000 : Int64)), (.long (1000000 : Int64)), (.long (10000000 : Int64)), (.long (100000000 : Int64)), (.long (1000000000 : Int64)), (.long (0 : Int64)), (.long (0 : Int64)), (.long (0 : Int64)), (.long (0 : Int64)), (.long (0 : Int64)), (.long (0 : Int64)), (.long (0 : Int64)), (.long (0 : Int64)), (.long (0 : Int64))] (.long (0 : Int64)) := Arv.set Ar32 q32 S32 M32 H32 G32 rfl W31 9 rfl (Nat.le_of_ble_eq_true rfl)
  have N31 := Fr.snoc X31 N28 gg_b2
  have K33 : Keep h0 h31 [] := K30.wr W31 (Or.inr sz_b2)
  refine own_via (T31.setTop (mkF m 66 #[.val (.long p0), .second, .val (.int p1), .unset, .unset, .unset, .unset, .unset] [(.ref b2)])) (fun t k => st31 t k) ?_
  refine own_via (T31.setTop (mkF m 67 #[.val (.long p0), .second, .val (.int p1), .unset, .unset, .unset, .unset, .unset] [(.ref b2), (.ref b2)])) (fun t k => XS.dup X31.here hx rfl (hb hby at_66) rfl rfl k) ?_
  refine own_via (T31.setTop (mkF m 69 #[.val (.long p0), .second, .val (.int p1), .unset, .unset, .unset, .unset, .unset] [(.int (10 : Int32)), (.ref b2), (.ref b2)])) (fun t k => XS.bipush X31.here hx rfl (hb hby at_67) k) ?_
  refine own_via (T31.setTop (mkF m 72 #[.val (.long p0), .second, .val (.int p1), .unset, .unset, .unset, .unset, .unset] [(.long (10000000000 : Int64)), (.int (10 : Int32)), (.ref b2), (.ref b2)])) (fun t k => X31.ldc2Long hx hown (mvT hZ (hw _ (List.mem_of_getElem? (i := 10) rfl))) (g := (mkF m 69 #[.val (.long p0), .second, .val (.int p1), .unset, .unset, .unset, .unset, .unset] [(.int (10 : Int32)), (.ref b2), (.ref b2)])) rfl (hb hby at_69) _ k) ?_
  obtain ⟨cl35, Ar35, q35, S35, M35, H35, G35⟩ := id V31
  obtain ⟨T34, h34, X34, e34, W34, st34⟩ := stJ X31 hx hZ e31 Ar35 (j := (10 : Int32)) (inb_of S35 ⟨by decide, by decide⟩) (g := (mkF m 72 #[.val (.long p0), .second, .val (.int p1), .unset, .unset, .unset, .unset, .unset] [(.long (10000000000 : Int64)), (.int (10 : Int32)), (.ref b2), (.ref b2)])) rfl rfl (hb hby at_72)
  have V34 : Arv Z h34 b2 k2 .long (19 : Int32) [(.long (1 : Int64)), (.long (10 : Int64)), (.long (100 : Int64)), (.long (1000 : Int64)), (.long (10000 : Int64)), (.long (100000 : Int64)), (.long (1000000 : Int64)), (.long (10000000 : Int64)), (.long (100000000 : Int64)), (.long (1000000000 : Int64)), (.long (10000000000 : Int64)), (.long (0 : Int64)), (.long (0 : Int64)), (.long (0 : Int64)), (.long (0 : Int64)), (.long (0 : Int64)), (.long (0 : Int64)), (.long (0 : Int64)), (.long (0 : Int64))] (.long (0 : Int64)) := Arv.set Ar35 q35 S35 M35 H35 G35 rfl W34 10 rfl (Nat.le_of_ble_eq_true rfl)
  have N34 := Fr.snoc X34 N31 gg_b2
  have K36 : Keep h0 h34 [] := K33.wr W34 (Or.inr sz_b2)
  refine own_via (T34.setTop (mkF m 73 #[.val (.long p0), .second, .val (.int p1), .unset, .unset, .unset, .unset, .unset] [(.ref b2)])) (fun t k => st34 t k) ?_
  refine own_via (T34.setTop (mkF m 74 #[.val (.long p0), .second, .val (.int p1), .unset, .unset, .unset, .unset, .unset] [(.ref b2), (.ref b2)])) (fun t k => XS.dup X34.here hx rfl (hb hby at_73) rfl rfl k) ?_
  refine own_via (T34.setTop (mkF m 76 #[.val (.long p0), .second, .val (.int p1), .unset, .unset, .unset, .unset, .unset] [(.int (11 : Int32)), (.ref b2), (.ref b2)])) (fun t k => XS.bipush X34.here hx rfl (hb hby at_74) k) ?_
  refine own_via (T34.setTop (mkF m 79 #[.val (.long p0), .second, .val (.int p1), .unset, .unset, .unset, .unset, .unset] [(.long (100000000000 : Int64)), (.int (11 : Int32)), (.ref b2), (.ref b2)])) (fun t k => X34.ldc2Long hx hown (mvT hZ (hw _ (List.mem_of_getElem? (i := 11) rfl))) (g := (mkF m 76 #[.val (.long p0), .second, .val (.int p1), .unset, .unset, .unset, .unset, .unset] [(.int (11 : Int32)), (.ref b2), (.ref b2)])) rfl (hb hby at_76) _ k) ?_
  obtain ⟨cl38, Ar38, q38, S38, M38, H38, G38⟩ := id V34
  obtain ⟨T37, h37, X37, e37, W37, st37⟩ := stJ X34 hx hZ e34 Ar38 (j := (11 : Int32)) (inb_of S38 ⟨by decide, by decide⟩) (g := (mkF m 79 #[.val (.long p0), .second, .val (.int p1), .unset, .unset, .unset, .unset, .unset] [(.long (100000000000 : Int64)), (.int (11 : Int32)), (.ref b2), (.ref b2)])) rfl rfl (hb hby at_79)
  have V37 : Arv Z h37 b2 k2 .long (19 : Int32) [(.long (1 : Int64)), (.long (10 : Int64)), (.long (100 : Int64)), (.long (1000 : Int64)), (.long (10000 : Int64)), (.long (100000 : Int64)), (.long (1000000 : Int64)), (.long (10000000 : Int64)), (.long (100000000 : Int64)), (.long (1000000000 : Int64)), (.long (10000000000 : Int64)), (.long (100000000000 : Int64)), (.long (0 : Int64)), (.long (0 : Int64)), (.long (0 : Int64)), (.long (0 : Int64)), (.long (0 : Int64)), (.long (0 : Int64)), (.long (0 : Int64))] (.long (0 : Int64)) := Arv.set Ar38 q38 S38 M38 H38 G38 rfl W37 11 rfl (Nat.le_of_ble_eq_true rfl)
  have N37 := Fr.snoc X37 N34 gg_b2
  have K39 : Keep h0 h37 [] := K36.wr W37 (Or.inr sz_b2)
  refine own_via (T37.setTop (mkF m 80 #[.val (.long p0), .second, .val (.int p1), .unset, .unset, .unset, .unset, .unset] [(.ref b2)])) (fun t k => st37 t k) ?_
  refine own_via (T37.setTop (mkF m 81 #[.val (.long p0), .second, .val (.int p1), .unset, .unset, .unset, .unset, .unset] [(.ref b2), (.ref b2)])) (fun t k => XS.dup X37.here hx rfl (hb hby at_80) rfl rfl k) ?_
  refine own_via (T37.setTop (mkF m 83 #[.val (.long p0), .second, .val (.int p1), .unset, .unset, .unset, .unset, .unset] [(.int (12 : Int32)), (.ref b2), (.ref b2)])) (fun t k => XS.bipush X37.here hx rfl (hb hby at_81) k) ?_
  refine own_via (T37.setTop (mkF m 86 #[.val (.long p0), .second, .val (.int p1), .unset, .unset, .unset, .unset, .unset] [(.long (1000000000000 : Int64)), (.int (12 : Int32)), (.ref b2), (.ref b2)])) (fun t k => X37.ldc2Long hx hown (mvT hZ (hw _ (List.mem_of_getElem? (i := 12) rfl))) (g := (mkF m 83 #[.val (.long p0), .second, .val (.int p1), .unset, .unset, .unset, .unset, .unset] [(.int (12 : Int32)), (.ref b2), (.ref b2)])) rfl (hb hby at_83) _ k) ?_
  obtain ⟨cl41, Ar41, q41, S41, M41, H41, G41⟩ := id V37
  obtain ⟨T40, h40, X40, e40, W40, st40⟩ := stJ X37 hx hZ e37 Ar41 (j := (12 : Int32)) (inb_of S41 ⟨by decide, by decide⟩) (g := (mkF m 86 #[.val (.long p0), .second, .val (.int p1), .unset, .unset, .unset, .unset, .unset] [(.long (1000000000000 : Int64)), (.int (12 : Int32)), (.ref b2), (.ref b2)])) rfl rfl (hb hby at_86)
  have V40 : Arv Z h40 b2 k2 .long (19 : Int32) [(.long (1 : Int64)), (.long (10 : Int64)), (.long (100 : Int64)), (.long (1000 : Int64)), (.long (10000 : Int64)), (.long (100000 : Int64)), (.long (1000000 : Int64)), (.long (10000000 : Int64)), (.long (100000000 : Int64)), (.long (1000000000 : Int64)), (.long (10000000000 : Int64)), (.long (100000000000 : Int64)), (.long (1000000000000 : Int64)), (.long (0 : Int64)), (.long (0 : Int64)), (.long (0 : Int64)), (.long (0 : Int64)), (.long (0 : Int64)), (.long (0 : Int64))] (.long (0 : Int64)) := Arv.set Ar41 q41 S41 M41 H41 G41 rfl W40 12 rfl (Nat.le_of_ble_eq_true rfl)
  have N40 := Fr.snoc X40 N37 gg_b2
  have K42 : Keep h0 h40 [] := K39.wr W40 (Or.inr sz_b2)
  refine own_via (T40.setTop (mkF m 87 #[.val (.long p0), .second, .val (.int p1), .unset, .unset, .unset, .unset, .unset] [(.ref b2)])) (fun t k => st40 t k) ?_
  refine own_via (T40.setTop (mkF m 88 #[.val (.long p0), .second, .val (.int p1), .unset, .unset, .unset, .unset, .unset] [(.ref b2), (.ref b2)])) (fun t k => XS.dup X40.here hx rfl (hb hby at_87) rfl rfl k) ?_
  refine own_via (T40.setTop (mkF m 90 #[.val (.long p0), .second, .val (.int p1), .unset, .unset, .unset, .unset, .unset] [(.int (13 : Int32)), (.ref b2), (.ref b2)])) (fun t k => XS.bipush X40.here hx rfl (hb hby at_88) k) ?_
  refine own_via (T40.setTop (mkF m 93 #[.val (.long p0), .second, .val (.int p1), .unset, .unset, .unset, .unset, .unset] [(.long (10000000000000 : Int64)), (.int (13 : Int32)), (.ref b2), (.ref b2)])) (fun t k => X40.ldc2Long hx hown (mvT hZ (hw _ (List.mem_of_getElem? (i := 13) rfl))) (g := (mkF m 90 #[.val (.long p0), .second, .val (.int p1), .unset, .unset, .unset, .unset, .unset] [(.int (13 : Int32)), (.ref b2), (.ref b2)])) rfl (hb hby at_90) _ k) ?_
  obtain ⟨cl44, Ar44, q44, S44, M44, H44, G44⟩ := id V40
  obtain ⟨T43, h43, X43, e43, W43, st43⟩ := stJ X40 hx hZ e40 Ar44 (j := (13 : Int32)) (inb_of S44 ⟨by decide, by decide⟩) (g := (mkF m 93 #[.val (.long p0), .second, .val (.int p1), .unset, .unset, .unset, .unset, .unset] [(.long (10000000000000 : Int64)), (.int (13 : Int32)), (.ref b2), (.ref b2)])) rfl rfl (hb hby at_93)
  have V43 : Arv Z h43 b2 k2 .long (19 : Int32) [(.long (1 : Int64)), (.long (10 : Int64)), (.long (100 : Int64)), (.long (1000 : Int64)), (.long (10000 : Int64)), (.long (100000 : Int64)), (.long (1000000 : Int64)), (.long (10000000 : Int64)), (.long (100000000 : Int64)), (.long (1000000000 : Int64)), (.long (10000000000 : Int64)), (.long (100000000000 : Int64)), (.long (1000000000000 : Int64)), (.long (10000000000000 : Int64)), (.long (0 : Int64)), (.long (0 : Int64)), (.long (0 : Int64)), (.long (0 : Int64)), (.long (0 : Int64))] (.long (0 : Int64)) := Arv.set Ar44 q44 S44 M44 H44 G44 rfl W43 13 rfl (Nat.le_of_ble_eq_true rfl)
  have N43 := Fr.snoc X43 N40 gg_b2
  have K45 : Keep h0 h43 [] := K42.wr W43 (Or.inr sz_b2)
  refine own_via (T43.setTop (mkF m 94 #[.val (.long p0), .second, .val (.int p1), .unset, .unset, .unset, .unset, .unset] [(.ref b2)])) (fun t k => st43 t k) ?_
  refine own_via (T43.setTop (mkF m 95 #[.val (.long p0), .second, .val (.int p1), .unset, .unset, .unset, .unset, .unset] [(.ref b2), (.ref b2)])) (fun t k => XS.dup X43.here hx rfl (hb hby at_94) rfl rfl k) ?_
  refine own_via (T43.setTop (mkF m 97 #[.val (.long p0), .second, .val (.int p1), .unset, .unset, .unset, .unset, .unset] [(.int (14 : Int32)), (.ref b2), (.ref b2)])) (fun t k => XS.bipush X43.here hx rfl (hb hby at_95) k) ?_
  refine own_via (T43.setTop (mkF m 100 #[.val (.long p0), .second, .val (.int p1), .unset, .unset, .unset, .unset, .unset] [(.long (100000000000000 : Int64)), (.int (14 : Int32)), (.ref b2), (.ref b2)])) (fun t k => X43.ldc2Long hx hown (mvT hZ (hw _ (List.mem_of_getElem? (i := 14) rfl))) (g := (mkF m 97 #[.val (.long p0), .second, .val (.int p1), .unset, .unset, .unset, .unset, .unset] [(.int (14 : Int32)), (.ref b2), (.ref b2)])) rfl (hb hby at_97) _ k) ?_
  obtain ⟨cl47, Ar47, q47, S47, M47, H47, G47⟩ := id V43
  obtain ⟨T46, h46, X46, e46, W46, st46⟩ := stJ X43 hx hZ e43 Ar47 (j := (14 : Int32)) (inb_of S47 ⟨by decide, by decide⟩) (g := (mkF m 100 #[.val (.long p0), .second, .val (.int p1), .unset, .unset, .unset, .unset, .unset] [(.long (100000000000000 : Int64)), (.int (14 : Int32)), (.ref b2), (.ref b2)])) rfl rfl (hb hby at_100)
  have V46 : Arv Z h46 b2 k2 .long (19 : Int32) [(.long (1 : Int64)), (.long (10 : Int64)), (.long (100 : Int64)), (.long (1000 : Int64)), (.long (10000 : Int64)), (.long (100000 : Int64)), (.long (1000000 : Int64)), (.long (10000000 : Int64)), (.long (100000000 : Int64)), (.long (1000000000 : Int64)), (.long (10000000000 : Int64)), (.long (100000000000 : Int64)), (.long (1000000000000 : Int64)), (.long (10000000000000 : Int64)), (.long (100000000000000 : Int64)), (.long (0 : Int64)), (.long (0 : Int64)), (.long (0 : Int64)), (.long (0 : Int64))] (.long (0 : Int64)) := Arv.set Ar47 q47 S47 M47 H47 G47 rfl W46 14 rfl (Nat.le_of_ble_eq_true rfl)
  have N46 := Fr.snoc X46 N43 gg_b2
  have K48 : Keep h0 h46 [] := K45.wr W46 (Or.inr sz_b2)
  refine own_via (T46.setTop (mkF m 101 #[.val (.long p0), .second, .val (.int p1), .unset, .unset, .unset, .unset, .unset] [(.ref b2)])) (fun t k => st46 t k) ?_
  refine own_via (T46.setTop (mkF m 102 #[.val (.long p0), .second, .val (.int p1), .unset, .unset, .unset, .unset, .unset] [(.ref b2), (.ref b2)])) (fun t k => XS.dup X46.here hx rfl (hb hby at_101) rfl rfl k) ?_
  refine own_via (T46.setTop (mkF m 104 #[.val (.long p0), .second, .val (.int p1), .unset, .unset, .unset, .unset, .unset] [(.int (15 : Int32)), (.ref b2), (.ref b2)])) (fun t k => XS.bipush X46.here hx rfl (hb hby at_102) k) ?_
  refine own_via (T46.setTop (mkF m 107 #[.val (.long p0), .second, .val (.int p1), .unset, .unset, .unset, .unset, .unset] [(.long (1000000000000000 : Int64)), (.int (15 : Int32)), (.ref b2), (.ref b2)])) (fun t k => X46.ldc2Long hx hown (mvT hZ (hw _ (List.mem_of_getElem? (i := 15) rfl))) (g := (mkF m 104 #[.val (.long p0), .second, .val (.int p1), .unset, .unset, .unset, .unset, .unset] [(.int (15 : Int32)), (.ref b2), (.ref b2)])) rfl (hb hby at_104) _ k) ?_
  obtain ⟨cl50, Ar50, q50, S50, M50, H50, G50⟩ := id V46
  obtain ⟨T49, h49, X49, e49, W49, st49⟩ := stJ X46 hx hZ e46 Ar50 (j := (15 : Int32)) (inb_of S50 ⟨by decide, by decide⟩) (g := (mkF m 107 #[.val (.long p0), .second, .val (.int p1), .unset, .unset, .unset, .unset, .unset] [(.long (1000000000000000 : Int64)), (.int (15 : Int32)), (.ref b2), (.ref b2)])) rfl rfl (hb hby at_107)
  have V49 : Arv Z h49 b2 k2 .long (19 : Int32) [(.long (1 : Int64)), (.long (10 : Int64)), (.long (100 : Int64)), (.long (1000 : Int64)), (.long (10000 : Int64)), (.long (100000 : Int64)), (.long (1000000 : Int64)), (.long (10000000 : Int64)), (.long (100000000 : Int64)), (.long (1000000000 : Int64)), (.long (10000000000 : Int64)), (.long (100000000000 : Int64)), (.long (1000000000000 : Int64)), (.long (10000000000000 : Int64)), (.long (100000000000000 : Int64)), (.long (1000000000000000 : Int64)), (.long (0 : Int64)), (.long (0 : Int64)), (.long (0 : Int64))] (.long (0 : Int64)) := Arv.set Ar50 q50 S50 M50 H50 G50 rfl W49 15 rfl (Nat.le_of_ble_eq_true rfl)
  have N49 := Fr.snoc X49 N46 gg_b2
  have K51 : Keep h0 h49 [] := K48.wr W49 (Or.inr sz_b2)
  refine own_via (T49.setTop (mkF m 108 #[.val (.long p0), .second, .val (.int p1), .unset, .unset, .unset, .unset, .unset] [(.ref b2)])) (fun t k => st49 t k) ?_
  refine own_via (T49.setTop (mkF m 109 #[.val (.long p0), .second, .val (.int p1), .unset, .unset, .unset, .unset, .unset] [(.ref b2), (.ref b2)])) (fun t k => XS.dup X49.here hx rfl (hb hby at_108) rfl rfl k) ?_
  refine own_via (T49.setTop (mkF m 111 #[.val (.long p0), .second, .val (.int p1), .unset, .unset, .unset, .unset, .unset] [(.int (16 : Int32)), (.ref b2), (.ref b2)])) (fun t k => XS.bipush X49.here hx rfl (hb hby at_109) k) ?_
  refine own_via (T49.setTop (mkF m 114 #[.val (.long p0), .second, .val (.int p1), .unset, .unset, .unset, .unset, .unset] [(.long (10000000000000000 : Int64)), (.int (16 : Int32)), (.ref b2), (.ref b2)])) (fun t k => X49.ldc2Long hx hown (mvT hZ (hw _ (List.mem_of_getElem? (i := 16) rfl))) (g := (mkF m 111 #[.val (.long p0), .second, .val (.int p1), .unset, .unset, .unset, .unset, .unset] [(.int (16 : Int32)), (.ref b2), (.ref b2)])) rfl (hb hby at_111) _ k) ?_
  obtain ⟨cl53, Ar53, q53, S53, M53, H53, G53⟩ := id V49
  obtain ⟨T52, h52, X52, e52, W52, st52⟩ := stJ X49 hx hZ e49 Ar53 (j := (16 : Int32)) (inb_of S53 ⟨by decide, by decide⟩) (g := (mkF m 114 #[.val (.long p0), .second, .val (.int p1), .unset, .unset, .unset, .unset, .unset] [(.long (10000000000000000 : Int64)), (.int (16 : Int32)), (.ref b2), (.ref b2)])) rfl rfl (hb hby at_114)
  have V52 : Arv Z h52 b2 k2 .long (19 : Int32) [(.long (1 : Int64)), (.long (10 : Int64)), (.long (100 : Int64)), (.long (1000 : Int64)), (.long (10000 : Int64)), (.long (100000 : Int64)), (.long (1000000 : Int64)), (.long (10000000 : Int64)), (.long (100000000 : Int64)), (.long (1000000000 : Int64)), (.long (10000000000 : Int64)), (.long (100000000000 : Int64)), (.long (1000000000000 : Int64)), (.long (10000000000000 : Int64)), (.long (100000000000000 : Int64)), (.long (1000000000000000 : Int64)), (.long (10000000000000000 : Int64)), (.long (0 : Int64)), (.long (0 : Int64))] (.long (0 : Int64)) := Arv.set Ar53 q53 S53 M53 H53 G53 rfl W52 16 rfl (Nat.le_of_ble_eq_true rfl)
  have N52 := Fr.snoc X52 N49 gg_b2
  have K54 : Keep h0 h52 [] := K51.wr W52 (Or.inr sz_b2)
  refine own_via (T52.setTop (mkF m 115 #[.val (.long p0), .second, .val (.int p1), .unset, .unset, .unset, .unset, .unset] [(.ref b2)])) (fun t k => st52 t k) ?_
  refine own_via (T52.setTop (mkF m 116 #[.val (.long p0), .second, .val (.int p1), .unset, .unset, .unset, .unset, .unset] [(.ref b2), (.ref b2)])) (fun t k => XS.dup X52.here hx rfl (hb hby at_115) rfl rfl k) ?_
  refine own_via (T52.setTop (mkF m 118 #[.val (.long p0), .second, .val (.int p1), .unset, .unset, .unset, .unset, .unset] [(.int (17 : Int32)), (.ref b2), (.ref b2)])) (fun t k => XS.bipush X52.here hx rfl (hb hby at_116) k) ?_
  refine own_via (T52.setTop (mkF m 121 #[.val (.long p0), .second, .val (.int p1), .unset, .unset, .unset, .unset, .unset] [(.long (100000000000000000 : Int64)), (.int (17 : Int32)), (.ref b2), (.ref b2)])) (fun t k => X52.ldc2Long hx hown (mvT hZ (hw _ (List.mem_of_getElem? (i := 17) rfl))) (g := (mkF m 118 #[.val (.long p0), .second, .val (.int p1), .unset, .unset, .unset, .unset, .unset] [(.int (17 : Int32)), (.ref b2), (.ref b2)])) rfl (hb hby at_118) _ k) ?_
  obtain ⟨cl56, Ar56, q56, S56, M56, H56, G56⟩ := id V52
  obtain ⟨T55, h55, X55, e55, W55, st55⟩ := stJ X52 hx hZ e52 Ar56 (j := (17 : Int32)) (inb_of S56 ⟨by decide, by decide⟩) (g := (mkF m 121 #[.val (.long p0), .second, .val (.int p1), .unset, .unset, .unset, .unset, .unset] [(.long (100000000000000000 : Int64)), (.int (17 : Int32)), (.ref b2), (.ref b2)])) rfl rfl (hb hby at_121)
  have V55 : Arv Z h55 b2 k2 .long (19 : Int32) [(.long (1 : Int64)), (.long (10 : Int64)), (.long (100 : Int64)), (.long (1000 : Int64)), (.long (10000 : Int64)), (.long (100000 : Int64)), (.long (1000000 : Int64)), (.long (10000000 : Int64)), (.long (100000000 : Int64)), (.long (1000000000 : Int64)), (.long (10000000000 : Int64)), (.long (100000000000 : Int64)), (.long (1000000000000 : Int64)), (.long (10000000000000 : Int64)), (.long (100000000000000 : Int64)), (.long (1000000000000000 : Int64)), (.long (10000000000000000 : Int64)), (.long (100000000000000000 : Int64)), (.long (0 : Int64))] (.long (0 : Int64)) := Arv.set Ar56 q56 S56 M56 H56 G56 rfl W55 17 rfl (Nat.le_of_ble_eq_true rfl)
  have N55 := Fr.snoc X55 N52 gg_b2
  have K57 : Keep h0 h55 [] := K54.wr W55 (Or.inr sz_b2)
  refine own_via (T55.setTop (mkF m 122 #[.val (.long p0), .second, .val (.int p1), .unset, .unset, .unset, .unset, .unset] [(.ref b2)])) (fun t k => st55 t k) ?_
  refine own_via (T55.setTop (mkF m 123 #[.val (.long p0), .second, .val (.int p1), .unset, .unset, .unset, .unset, .unset] [(.ref b2), (.ref b2)])) (fun t k => XS.dup X55.here hx rfl (hb hby at_122) rfl rfl k) ?_
  refine own_via (T55.setTop (mkF m 125 #[.val (.long p0), .second, .val (.int p1), .unset, .unset, .unset, .unset, .unset] [(.int (18 : Int32)), (.ref b2), (.ref b2)])) (fun t k => XS.bipush X55.here hx rfl (hb hby at_123) k) ?_
  refine own_via (T55.setTop (mkF m 128 #[.val (.long p0), .second, .val (.int p1), .unset, .unset, .unset, .unset, .unset] [(.long (1000000000000000000 : Int64)), (.int (18 : Int32)), (.ref b2), (.ref b2)])) (fun t k => X55.ldc2Long hx hown (mvT hZ (hw _ (List.mem_of_getElem? (i := 18) rfl))) (g := (mkF m 125 #[.val (.long p0), .second, .val (.int p1), .unset, .unset, .unset, .unset, .unset] [(.int (18 : Int32)), (.ref b2), (.ref b2)])) rfl (hb hby at_125) _ k) ?_
  obtain ⟨cl59, Ar59, q59, S59, M59, H59, G59⟩ := id V55
  obtain ⟨T58, h58, X58, e58, W58, st58⟩ := stJ X55 hx hZ e55 Ar59 (j := (18 : Int32)) (inb_of S59 ⟨by decide, by decide⟩) (g := (mkF m 128 #[.val (.long p0), .second, .val (.int p1), .unset, .unset, .unset, .unset, .unset] [(.long (1000000000000000000 : Int64)), (.int (18 : Int32)), (.ref b2), (.ref b2)])) rfl rfl (hb hby at_128)
  have V58 : Arv Z h58 b2 k2 .long (19 : Int32) [(.long (1 : Int64)), (.long (10 : Int64)), (.long (100 : Int64)), (.long (1000 : Int64)), (.long (10000 : Int64)), (.long (100000 : Int64)), (.long (1000000 : Int64)), (.long (10000000 : Int64)), (.long (100000000 : Int64)), (.long (1000000000 : Int64)), (.long (10000000000 : Int64)), (.long (100000000000 : Int64)), (.long (1000000000000 : Int64)), (.long (10000000000000 : Int64)), (.long (100000000000000 : Int64)), (.long (1000000000000000 : Int64)), (.long (10000000000000000 : Int64)), (.long (100000000000000000 : Int64)), (.long (1000000000000000000 : Int64))] (.long (0 : Int64)) := Arv.set Ar59 q59 S59 M59 H59 G59 rfl W58 18 rfl (Nat.le_of_ble_eq_true rfl)
  have N58 := Fr.snoc X58 N55 gg_b2
  have K60 : Keep h0 h58 [] := K57.wr W58 (Or.inr sz_b2)
  refine own_via (T58.setTop (mkF m 129 #[.val (.long p0), .second, .val (.int p1), .unset, .unset, .unset, .unset, .unset] [(.ref b2)])) (fun t k => st58 t k) ?_
  refine own_via (T58.setTop (mkF m 130 #[.val (.long p0), .second, .val (.int p1), .val (.ref b2), .unset, .unset, .unset, .unset] [])) (fun t k => XS.astoreN X58.here hx rfl (hb hby at_129) rfl rfl (l' := #[.val (.long p0), .second, .val (.int p1), .val (.ref b2), .unset, .unset, .unset, .unset]) rfl k) ?_
  refine own_via (T58.setTop (mkF m 131 #[.val (.long p0), .second, .val (.int p1), .val (.ref b2), .unset, .unset, .unset, .unset] [(.int p1)])) (fun t k => XS.iloadN X58.here hx rfl (hb hby at_130) rfl  k) ?_
  refine own_via (T58.setTop (mkF m 133 #[.val (.long p0), .second, .val (.int p1), .val (.ref b2), .unset, .unset, .unset, .unset] [(.int (2147483647 : Int32)), (.int p1)])) (fun t k => X58.ldcInt hx hown (mvT hZ (hw _ (List.mem_of_getElem? (i := 19) rfl))) (g := (mkF m 131 #[.val (.long p0), .second, .val (.int p1), .val (.ref b2), .unset, .unset, .unset, .unset] [(.int p1)])) rfl (hb hby at_131) _ k) ?_
  refine own_via (T58.setTop (mkF m 134 #[.val (.long p0), .second, .val (.int p1), .val (.ref b2), .unset, .unset, .unset, .unset] [(.int (p1 &&& (2147483647 : Int32)))])) (fun t k => XS.iand X58.here hx rfl (hb hby at_133) rfl k) ?_
  refine own_via (T58.setTop (mkF m 136 #[.val (.long p0), .second, .val (.int p1), .val (.ref b2), .unset, .unset, .unset, .unset] [(.int (19 : Int32)), (.int (p1 &&& (2147483647 : Int32)))])) (fun t k => XS.bipush X58.here hx rfl (hb hby at_134) k) ?_
  refine own_via (T58.setTop (mkF m 137 #[.val (.long p0), .second, .val (.int p1), .val (.ref b2), .unset, .unset, .unset, .unset] [(.int ((p1 &&& (2147483647 : Int32)) % (19 : Int32)))])) (fun t k => Jvm.RoadKit.iremM X58 hx rfl (hb hby at_136) rfl (by decide) k) ?_
  obtain ⟨zk, hzk⟩ : ∃ z : Int32, z = ((p1 &&& (2147483647 : Int32)) % (19 : Int32)) := ⟨_, rfl⟩
  refine own_via (T58.setTop (mkF m 139 #[.val (.long p0), .second, .val (.int p1), .val (.ref b2), .val (.int zk), .unset, .unset, .unset] [])) (fun t k => XS.istore X58.here hx rfl (hb hby at_137) rfl (l' := #[.val (.long p0), .second, .val (.int p1), .val (.ref b2), .val (.int zk), .unset, .unset, .unset]) (by rw [hzk]; rfl) k) ?_
  refine own_via (T58.setTop (mkF m 140 #[.val (.long p0), .second, .val (.int p1), .val (.ref b2), .val (.int zk), .unset, .unset, .unset] [(.long p0)])) (fun t k => XS.lloadN X58.here hx rfl (hb hby at_139) rfl  k) ?_
  refine own_via (T58.setTop (mkF m 141 #[.val (.long p0), .second, .val (.int p1), .val (.ref b2), .val (.int zk), .unset, .unset, .unset] [(.ref b2), (.long p0)])) (fun t k => XS.aloadN X58.here hx rfl (hb hby at_140) rfl rfl k) ?_
  refine own_via (T58.setTop (mkF m 143 #[.val (.long p0), .second, .val (.int p1), .val (.ref b2), .val (.int zk), .unset, .unset, .unset] [(.int zk), (.ref b2), (.long p0)])) (fun t k => XS.iload X58.here hx rfl (hb hby at_141) rfl  k) ?_
  obtain ⟨cl62, Ar62, q62, S62, M62, H62, G62⟩ := id V58
  refine own_via (T58.setTop (mkF m 144 #[.val (.long p0), .second, .val (.int p1), .val (.ref b2), .val (.int zk), .unset, .unset, .unset] [(.long (own_p zk)), (.long p0)])) (fun t k => X58.laload hx (j := zk) (v := (.long (own_p zk))) (by rw [e58]; exact Ar62.1) (State.isArrayOf_alike hZ.alike Ar62.2.1) Ar62.2.2 (inb_of S62 (own_inb hzk)) (own_hat H62 S62 (own_inb hzk)) (g := (mkF m 143 #[.val (.long p0), .second, .val (.int p1), .val (.ref b2), .val (.int zk), .unset, .unset, .unset] [(.int zk), (.ref b2), (.long p0)])) rfl rfl (hb hby at_143) _ k) ?_
  refine own_via (T58.setTop (mkF m 145 #[.val (.long p0), .second, .val (.int p1), .val (.ref b2), .val (.int zk), .unset, .unset, .unset] [(.long (p0 / (own_p zk)))])) (fun t k => XS.ldiv X58.here hx rfl (hb hby at_144) rfl (own_pnz (own_inb hzk)) k) ?_
  refine own_via (T58.setTop (mkF m 146 #[.val (.long p0), .second, .val (.int p1), .val (.ref b2), .val (.int zk), .unset, .unset, .unset] [(.ref b2), (.long (p0 / (own_p zk)))])) (fun t k => XS.aloadN X58.here hx rfl (hb hby at_145) rfl rfl k) ?_
  refine own_via (T58.setTop (mkF m 148 #[.val (.long p0), .second, .val (.int p1), .val (.ref b2), .val (.int zk), .unset, .unset, .unset] [(.int zk), (.ref b2), (.long (p0 / (own_p zk)))])) (fun t k => XS.iload X58.here hx rfl (hb hby at_146) rfl  k) ?_
  obtain ⟨cl64, Ar64, q64, S64, M64, H64, G64⟩ := id V58
  refine own_via (T58.setTop (mkF m 149 #[.val (.long p0), .second, .val (.int p1), .val (.ref b2), .val (.int zk), .unset, .unset, .unset] [(.long (own_p zk)), (.long (p0 / (own_p zk)))])) (fun t k => X58.laload hx (j := zk) (v := (.long (own_p zk))) (by rw [e58]; exact Ar64.1) (State.isArrayOf_alike hZ.alike Ar64.2.1) Ar64.2.2 (inb_of S64 (own_inb hzk)) (own_hat H64 S64 (own_inb hzk)) (g := (mkF m 148 #[.val (.long p0), .second, .val (.int p1), .val (.ref b2), .val (.int zk), .unset, .unset, .unset] [(.int zk), (.ref b2), (.long (p0 / (own_p zk)))])) rfl rfl (hb hby at_148) _ k) ?_
  refine own_via (T58.setTop (mkF m 150 #[.val (.long p0), .second, .val (.int p1), .val (.ref b2), .val (.int zk), .unset, .unset, .unset] [(.long ((p0 / (own_p zk)) * (own_p zk)))])) (fun t k => XS.lmul X58.here hx rfl (hb hby at_149) rfl k) ?_
  obtain ⟨zv, hzv⟩ : ∃ z : Int64, z = ((p0 / (own_p zk)) * (own_p zk)) := ⟨_, rfl⟩
  refine own_via (T58.setTop (mkF m 152 #[.val (.long p0), .second, .val (.int p1), .val (.ref b2), .val (.int zk), .val (.long zv), .second, .unset] [])) (fun t k => XS.lstore X58.here hx rfl (hb hby at_150) rfl (l' := #[.val (.long p0), .second, .val (.int p1), .val (.ref b2), .val (.int zk), .val (.long zv), .second, .unset]) (by rw [hzv]; rfl) k) ?_
  refine own_via (T58.setTop (mkF m 154 #[.val (.long p0), .second, .val (.int p1), .val (.ref b2), .val (.int zk), .val (.long zv), .second, .unset] [(.long zv)])) (fun t k => XS.lload X58.here hx rfl (hb hby at_152) rfl  k) ?_
  refine own_via (T58.setTop (mkF m 155 #[.val (.long p0), .second, .val (.int p1), .val (.ref b2), .val (.int zk), .val (.long zv), .second, .unset] [(.long (0 : Int64)), (.long zv)])) (fun t k => XS.lconst X58.here hx rfl (hb hby at_154) k) ?_
  refine own_via (T58.setTop (mkF m 156 #[.val (.long p0), .second, .val (.int p1), .val (.ref b2), .val (.int zk), .val (.long zv), .second, .unset] [(.int (lcmpW zv (0 : Int64)))])) (fun t k => XS.lcmp X58.here hx rfl (hb hby at_155) rfl k) ?_
  obtain ⟨z65, hz65⟩ : ∃ z : Int64, z = (if zv = (0 : Int64) then p0 else zv) := ⟨_, rfl⟩
  refine own_via (T58.setTop (mkF m 162 #[.val (.long p0), .second, .val (.int p1), .val (.ref b2), .val (.int zk), .val (.long z65), .second, .unset] [])) (fun t k => ?_) ?_
  · skip
    by_cases hj156_66 : zv = (0 : Int64)
    · refine XS.ifNo X58.here hx rfl (hb hby at_156) rfl ((if0 _ _).trans (teq ((lw_eq zv (0 : Int64)).mpr hj156_66)).2) (?_ : Steps p.tables e below (T58.setTop (mkF m 159 #[.val (.long p0), .second, .val (.int p1), .val (.ref b2), .val (.int zk), .val (.long zv), .second, .unset] [])) t)
      refine XS.lloadN X58.here hx rfl (hb hby at_159) rfl  (?_ : Steps p.tables e below (T58.setTop (mkF m 160 #[.val (.long p0), .second, .val (.int p1), .val (.ref b2), .val (.int zk), .val (.long zv), .second, .unset] [(.long p0)])) t)
      refine XS.lstore X58.here hx rfl (hb hby at_160) rfl (l' := #[.val (.long p0), .second, .val (.int p1), .val (.ref b2), .val (.int zk), .val (.long p0), .second, .unset]) rfl (?_ : Steps p.tables e below (T58.setTop (mkF m 162 #[.val (.long p0), .second, .val (.int p1), .val (.ref b2), .val (.int zk), .val (.long p0), .second, .unset] [])) t)
      have q_z65 := (hz65.trans (if_pos hj156_66))
      subst q_z65
      exact k
    · refine XS.ifYes X58.here hx rfl (pc0 := 156) (pc' := 162) rfl (hb hby at_156) rfl ((if0 _ _).trans (feq (fun q => hj156_66 ((lw_eq zv (0 : Int64)).mp q))).2) (by decide) (by decide) (?_ : Steps p.tables e below (T58.setTop (mkF m 162 #[.val (.long p0), .second, .val (.int p1), .val (.ref b2), .val (.int zk), .val (.long zv), .second, .unset] [])) t)
      have q_z65 := (hz65.trans (if_neg hj156_66))
      subst q_z65
      exact k
  refine own_via (T58.setTop (mkF m 164 #[.val (.long p0), .second, .val (.int p1), .val (.ref b2), .val (.int zk), .val (.long z65), .second, .unset] [(.long z65)])) (fun t k => XS.lload X58.here hx rfl (hb hby at_162) rfl  k) ?_
  refine own_via (T58.setTop (mkF m 165 #[.val (.long p0), .second, .val (.int p1), .val (.ref b2), .val (.int zk), .val (.long z65), .second, .unset] [(.long (0 : Int64)), (.long z65)])) (fun t k => XS.lconst X58.here hx rfl (hb hby at_164) k) ?_
  refine own_via (T58.setTop (mkF m 166 #[.val (.long p0), .second, .val (.int p1), .val (.ref b2), .val (.int zk), .val (.long z65), .second, .unset] [(.int (lcmpW z65 (0 : Int64)))])) (fun t k => XS.lcmp X58.here hx rfl (hb hby at_165) rfl k) ?_
  by_cases hv0 : z65 = (0 : Int64)
  · refine own_via (T58.setTop (mkF m 169 #[.val (.long p0), .second, .val (.int p1), .val (.ref b2), .val (.int zk), .val (.long z65), .second, .unset] [])) (fun t k => XS.ifNo X58.here hx rfl (hb hby at_166) rfl ((if0 _ _).trans (teq ((lw_eq z65 (0 : Int64)).mpr hv0)).2) k) ?_
    refine own_via (T58.setTop (mkF m 170 #[.val (.long p0), .second, .val (.int p1), .val (.ref b2), .val (.int zk), .val (.long z65), .second, .unset] [(.int (1 : Int32))])) (fun t k => XS.iconst X58.here hx rfl (hb hby at_169) k) ?_
    refine own_leave X58 Bd.notSynchronized (v := some (.int (1 : Int32))) (fun h => by rw [Bd.returns] at h; cases h) (fun fs hr => retN X58 hx (t := .boolean) Bd.returns (by simp) (hb hby at_170) hr) ?_ (by decide) (by decide)
    exact ⟨rfl, N58⟩
  · refine own_via (T58.setTop (mkF m 171 #[.val (.long p0), .second, .val (.int p1), .val (.ref b2), .val (.int zk), .val (.long z65), .second, .unset] [])) (fun t k => XS.ifYes X58.here hx rfl (pc0 := 166) (pc' := 171) rfl (hb hby at_166) rfl ((if0 _ _).trans (feq (fun q => hv0 ((lw_eq z65 (0 : Int64)).mp q))).2) (by decide) (by decide) k) ?_
    refine own_via (T58.setTop (mkF m 173 #[.val (.long p0), .second, .val (.int p1), .val (.ref b2), .val (.int zk), .val (.long z65), .second, .unset] [(.long z65)])) (fun t k => XS.lload X58.here hx rfl (hb hby at_171) rfl  k) ?_
    obtain ⟨_, _, ⟨T67, L67, k67, n67⟩, -, X67, ⟨Lc67, hQ67, l67, y67, z67⟩, st67⟩ := Jvm.LawKit.callS X58 hx (y := (⟨"com/example/denary/denary/arith/LongArithmetic", "trailingZeros", "(J)I"⟩ : MethodName)) hown (mvT hZ (hw _ (List.mem_of_getElem? (i := 20) rfl))) (mvT hZ (hw _ (List.mem_of_getElem? (i := 21) rfl))) (mvT hZ (hw _ (List.mem_of_getElem? (i := 22) rfl))) (mvT hZ (hw _ (List.mem_of_getElem? (i := 23) rfl))) (by decide) (backOf (W := 0) (rm1 l Z a0 hw [] z65 h58 n0 (Nat.le_trans Z0 K60.1) hv0) hZ (hw _ (List.mem_of_getElem? (i := 23) rfl)) (hw _ (List.mem_of_getElem? (i := 22) rfl)) (by decide) (by decide)) (g := (mkF m 173 #[.val (.long p0), .second, .val (.int p1), .val (.ref b2), .val (.int zk), .val (.long z65), .second, .unset] [(.long z65)])) rfl (by rw [hml]; rfl) (argsL := [(.long z65)]) (rest := []) (lenOf pd_0 rfl) rfl (by show 2 * 0 + _ ≤ _; exact Nat.le_of_eq rfl) (hb hby at_173) (fun _ _ => ⟨rfl, e58, (by decide : 1 + 0 ≤ _), (by decide : 19 + 0 ≤ _)⟩)
    dsimp only [Pt.U, Pt.locs, Pt.cells, Pt.slots] at X67 l67 y67 z67 st67 hQ67
    subst l67 y67 z67
    obtain ⟨rfl, N67q, e67⟩ := hQ67
    have N67 := Fr.app N58 N67q
    refine own_via (T67.setTop (mkF m 176 #[.val (.long p0), .second, .val (.int p1), .val (.ref b2), .val (.int zk), .val (.long z65), .second, .unset] [(.int (own_tz 19 z65 0))])) (fun t k => st67 t k) ?_
    obtain ⟨zn, hzn⟩ : ∃ z : Int32, z = (own_tz 19 z65 0) := ⟨_, rfl⟩
    refine own_via (T67.setTop (mkF m 178 #[.val (.long p0), .second, .val (.int p1), .val (.ref b2), .val (.int zk), .val (.long z65), .second, .val (.int zn)] [])) (fun t k => XS.istore X67.here hx rfl (hb hby at_176) rfl (l' := #[.val (.long p0), .second, .val (.int p1), .val (.ref b2), .val (.int zk), .val (.long z65), .second, .val (.int zn)]) (by rw [hzn]; rfl) k) ?_
    refine own_via (T67.setTop (mkF m 180 #[.val (.long p0), .second, .val (.int p1), .val (.ref b2), .val (.int zk), .val (.long z65), .second, .val (.int zn)] [(.int zn)])) (fun t k => XS.iload X67.here hx rfl (hb hby at_178) rfl  k) ?_
    by_cases hn0 : zn < (0 : Int32)
    · exact absurd hn0 (own_facts hv0 hzn).1
    · refine own_via (T67.setTop (mkF m 183 #[.val (.long p0), .second, .val (.int p1), .val (.ref b2), .val (.int zk), .val (.long z65), .second, .val (.int zn)] [])) (fun t k => XS.ifNo X67.here hx rfl (hb hby at_180) rfl ((if0 _ _).trans (flt hn0).1) k) ?_
      refine own_via (T67.setTop (mkF m 185 #[.val (.long p0), .second, .val (.int p1), .val (.ref b2), .val (.int zk), .val (.long z65), .second, .val (.int zn)] [(.int zn)])) (fun t k => XS.iload X67.here hx rfl (hb hby at_183) rfl  k) ?_
      refine own_via (T67.setTop (mkF m 187 #[.val (.long p0), .second, .val (.int p1), .val (.ref b2), .val (.int zk), .val (.long z65), .second, .val (.int zn)] [(.int (18 : Int32)), (.int zn)])) (fun t k => XS.bipush X67.here hx rfl (hb hby at_185) k) ?_
      by_cases hn18 : (18 : Int32) < zn
      · exact absurd hn18 (own_facts hv0 hzn).2.1
      · refine own_via (T67.setTop (mkF m 192 #[.val (.long p0), .second, .val (.int p1), .val (.ref b2), .val (.int zk), .val (.long z65), .second, .val (.int zn)] [])) (fun t k => XS.icmpYes X67.here hx rfl (pc0 := 187) (pc' := 192) rfl (hb hby at_187) rfl (flt hn18).2.2.2 (by decide) (by decide) k) ?_
        have hlo := (own_facts hv0 hzn).1
        have hhi := (own_facts hv0 hzn).2.2.2.2
        refine own_via (T67.setTop (mkF m 194 #[.val (.long p0), .second, .val (.int p1), .val (.ref b2), .val (.int zk), .val (.long z65), .second, .val (.int zn)] [(.long z65)])) (fun t k => XS.lload X67.here hx rfl (hb hby at_192) rfl  k) ?_
        refine own_via (T67.setTop (mkF m 195 #[.val (.long p0), .second, .val (.int p1), .val (.ref b2), .val (.int zk), .val (.long z65), .second, .val (.int zn)] [(.ref b2), (.long z65)])) (fun t k => XS.aloadN X67.here hx rfl (hb hby at_194) rfl rfl k) ?_
        refine own_via (T67.setTop (mkF m 197 #[.val (.long p0), .second, .val (.int p1), .val (.ref b2), .val (.int zk), .val (.long z65), .second, .val (.int zn)] [(.int zn), (.ref b2), (.long z65)])) (fun t k => XS.iload X67.here hx rfl (hb hby at_195) rfl  k) ?_
        obtain ⟨cl69, Ar69, q69, S69, M69, H69, G69⟩ := id V58
        refine own_via (T67.setTop (mkF m 198 #[.val (.long p0), .second, .val (.int p1), .val (.ref b2), .val (.int zk), .val (.long z65), .second, .val (.int zn)] [(.long (own_p zn)), (.long z65)])) (fun t k => X67.laload hx (j := zn) (v := (.long (own_p zn))) (by rw [e67]; exact Ar69.1) (State.isArrayOf_alike hZ.alike Ar69.2.1) Ar69.2.2 (inb_of S69 ⟨hlo, hhi⟩) (own_hat H69 S69 ⟨hlo, hhi⟩) (g := (mkF m 197 #[.val (.long p0), .second, .val (.int p1), .val (.ref b2), .val (.int zk), .val (.long z65), .second, .val (.int zn)] [(.int zn), (.ref b2), (.long z65)])) rfl rfl (hb hby at_197) _ k) ?_
        refine own_via (T67.setTop (mkF m 199 #[.val (.long p0), .second, .val (.int p1), .val (.ref b2), .val (.int zk), .val (.long z65), .second, .val (.int zn)] [(.long (z65 - (z65 / (own_p zn)) * (own_p zn)))])) (fun t k => XS.lrem X67.here hx rfl (hb hby at_198) rfl (own_pnz ⟨hlo, hhi⟩) k) ?_
        refine own_via (T67.setTop (mkF m 200 #[.val (.long p0), .second, .val (.int p1), .val (.ref b2), .val (.int zk), .val (.long z65), .second, .val (.int zn)] [(.long (0 : Int64)), (.long (z65 - (z65 / (own_p zn)) * (own_p zn)))])) (fun t k => XS.lconst X67.here hx rfl (hb hby at_199) k) ?_
        refine own_via (T67.setTop (mkF m 201 #[.val (.long p0), .second, .val (.int p1), .val (.ref b2), .val (.int zk), .val (.long z65), .second, .val (.int zn)] [(.int (lcmpW (z65 - (z65 / (own_p zn)) * (own_p zn)) (0 : Int64)))])) (fun t k => XS.lcmp X67.here hx rfl (hb hby at_200) rfl k) ?_
        by_cases hmod : (z65 - (z65 / (own_p zn)) * (own_p zn)) = (0 : Int64)
        · refine own_via (T67.setTop (mkF m 206 #[.val (.long p0), .second, .val (.int p1), .val (.ref b2), .val (.int zk), .val (.long z65), .second, .val (.int zn)] [])) (fun t k => XS.ifYes X67.here hx rfl (pc0 := 201) (pc' := 206) rfl (hb hby at_201) rfl ((if0 _ _).trans (teq ((lw_eq (z65 - (z65 / (own_p zn)) * (own_p zn)) (0 : Int64)).mpr hmod)).1) (by decide) (by decide) k) ?_
          refine own_via (T67.setTop (mkF m 208 #[.val (.long p0), .second, .val (.int p1), .val (.ref b2), .val (.int zk), .val (.long z65), .second, .val (.int zn)] [(.long z65)])) (fun t k => XS.lload X67.here hx rfl (hb hby at_206) rfl  k) ?_
          refine own_via (T67.setTop (mkF m 209 #[.val (.long p0), .second, .val (.int p1), .val (.ref b2), .val (.int zk), .val (.long z65), .second, .val (.int zn)] [(.ref b2), (.long z65)])) (fun t k => XS.aloadN X67.here hx rfl (hb hby at_208) rfl rfl k) ?_
          refine own_via (T67.setTop (mkF m 211 #[.val (.long p0), .second, .val (.int p1), .val (.ref b2), .val (.int zk), .val (.long z65), .second, .val (.int zn)] [(.int zn), (.ref b2), (.long z65)])) (fun t k => XS.iload X67.here hx rfl (hb hby at_209) rfl  k) ?_
          obtain ⟨cl71, Ar71, q71, S71, M71, H71, G71⟩ := id V58
          refine own_via (T67.setTop (mkF m 212 #[.val (.long p0), .second, .val (.int p1), .val (.ref b2), .val (.int zk), .val (.long z65), .second, .val (.int zn)] [(.long (own_p zn)), (.long z65)])) (fun t k => X67.laload hx (j := zn) (v := (.long (own_p zn))) (by rw [e67]; exact Ar71.1) (State.isArrayOf_alike hZ.alike Ar71.2.1) Ar71.2.2 (inb_of S71 ⟨hlo, hhi⟩) (own_hat H71 S71 ⟨hlo, hhi⟩) (g := (mkF m 211 #[.val (.long p0), .second, .val (.int p1), .val (.ref b2), .val (.int zk), .val (.long z65), .second, .val (.int zn)] [(.int zn), (.ref b2), (.long z65)])) rfl rfl (hb hby at_211) _ k) ?_
          refine own_via (T67.setTop (mkF m 213 #[.val (.long p0), .second, .val (.int p1), .val (.ref b2), .val (.int zk), .val (.long z65), .second, .val (.int zn)] [(.long (z65 / (own_p zn)))])) (fun t k => XS.ldiv X67.here hx rfl (hb hby at_212) rfl (own_pnz ⟨hlo, hhi⟩) k) ?_
          refine own_via (T67.setTop (mkF m 216 #[.val (.long p0), .second, .val (.int p1), .val (.ref b2), .val (.int zk), .val (.long z65), .second, .val (.int zn)] [(.long (10 : Int64)), (.long (z65 / (own_p zn)))])) (fun t k => X67.ldc2Long hx hown (mvT hZ (hw _ (List.mem_of_getElem? (i := 1) rfl))) (g := (mkF m 213 #[.val (.long p0), .second, .val (.int p1), .val (.ref b2), .val (.int zk), .val (.long z65), .second, .val (.int zn)] [(.long (z65 / (own_p zn)))])) rfl (hb hby at_213) _ k) ?_
          refine own_via (T67.setTop (mkF m 217 #[.val (.long p0), .second, .val (.int p1), .val (.ref b2), .val (.int zk), .val (.long z65), .second, .val (.int zn)] [(.long ((z65 / (own_p zn)) - ((z65 / (own_p zn)) / (10 : Int64)) * (10 : Int64)))])) (fun t k => XS.lrem X67.here hx rfl (hb hby at_216) rfl (by decide) k) ?_
          refine own_via (T67.setTop (mkF m 218 #[.val (.long p0), .second, .val (.int p1), .val (.ref b2), .val (.int zk), .val (.long z65), .second, .val (.int zn)] [(.long (0 : Int64)), (.long ((z65 / (own_p zn)) - ((z65 / (own_p zn)) / (10 : Int64)) * (10 : Int64)))])) (fun t k => XS.lconst X67.here hx rfl (hb hby at_217) k) ?_
          refine own_via (T67.setTop (mkF m 219 #[.val (.long p0), .second, .val (.int p1), .val (.ref b2), .val (.int zk), .val (.long z65), .second, .val (.int zn)] [(.int (lcmpW ((z65 / (own_p zn)) - ((z65 / (own_p zn)) / (10 : Int64)) * (10 : Int64)) (0 : Int64)))])) (fun t k => XS.lcmp X67.here hx rfl (hb hby at_218) rfl k) ?_
          obtain ⟨z72, hz72⟩ : ∃ z : Int32, z = (if ((z65 / (own_p zn)) - ((z65 / (own_p zn)) / (10 : Int64)) * (10 : Int64)) = (0 : Int64) then (0 : Int32) else (1 : Int32)) := ⟨_, rfl⟩
          refine own_via (T67.setTop (mkF m 227 #[.val (.long p0), .second, .val (.int p1), .val (.ref b2), .val (.int zk), .val (.long z65), .second, .val (.int zn)] [(.int z72)])) (fun t k => ?_) ?_
          · skip
            by_cases hj219_73 : ((z65 / (own_p zn)) - ((z65 / (own_p zn)) / (10 : Int64)) * (10 : Int64)) = (0 : Int64)
            · refine XS.ifYes X67.here hx rfl (pc0 := 219) (pc' := 226) rfl (hb hby at_219) rfl ((if0 _ _).trans (teq ((lw_eq ((z65 / (own_p zn)) - ((z65 / (own_p zn)) / (10 : Int64)) * (10 : Int64)) (0 : Int64)).mpr hj219_73)).1) (by decide) (by decide) (?_ : Steps p.tables e below (T67.setTop (mkF m 226 #[.val (.long p0), .second, .val (.int p1), .val (.ref b2), .val (.int zk), .val (.long z65), .second, .val (.int zn)] [])) t)
              refine XS.iconst X67.here hx rfl (hb hby at_226) (?_ : Steps p.tables e below (T67.setTop (mkF m 227 #[.val (.long p0), .second, .val (.int p1), .val (.ref b2), .val (.int zk), .val (.long z65), .second, .val (.int zn)] [(.int (0 : Int32))])) t)
              have q_z72 := (hz72.trans (if_pos hj219_73))
              subst q_z72
              exact k
            · refine XS.ifNo X67.here hx rfl (hb hby at_219) rfl ((if0 _ _).trans (feq (fun q => hj219_73 ((lw_eq ((z65 / (own_p zn)) - ((z65 / (own_p zn)) / (10 : Int64)) * (10 : Int64)) (0 : Int64)).mp q))).1) (?_ : Steps p.tables e below (T67.setTop (mkF m 222 #[.val (.long p0), .second, .val (.int p1), .val (.ref b2), .val (.int zk), .val (.long z65), .second, .val (.int zn)] [])) t)
              refine XS.iconst X67.here hx rfl (hb hby at_222) (?_ : Steps p.tables e below (T67.setTop (mkF m 223 #[.val (.long p0), .second, .val (.int p1), .val (.ref b2), .val (.int zk), .val (.long z65), .second, .val (.int zn)] [(.int (1 : Int32))])) t)
              refine XS.goto X67.here hx rfl (pc0 := 223) (pc' := 227) rfl (hb hby at_223) (by decide) (by decide) (?_ : Steps p.tables e below (T67.setTop (mkF m 227 #[.val (.long p0), .second, .val (.int p1), .val (.ref b2), .val (.int zk), .val (.long z65), .second, .val (.int zn)] [(.int (1 : Int32))])) t)
              have q_z72 := (hz72.trans (if_neg hj219_73))
              subst q_z72
              exact k
          refine own_leave X67 Bd.notSynchronized (v := some (.int (nar .boolean z72))) (fun h => by rw [Bd.returns] at h; cases h) (fun fs hr => retN X67 hx (t := .boolean) Bd.returns (by simp) (hb hby at_227) hr) ?_ (by decide) (by decide)
          refine ⟨?_, N67⟩
          rw [hz72, if_neg (own_facts hv0 hzn).2.2.2.1]; rfl
        · exact absurd (own_facts hv0 hzn).2.2.1 hmod
set_option maxRecDepth 65536 in
set_option maxHeartbeats 40000000 in
theorem comes_1 {Post : Tables → Env → Array Value → State → Outcome → State → Prop} (hpost : ∀ tb e args s v u, (limb_1_1.after args s (.returned v) u = true ∧ limb_1_2.after args s (.returned v) u = true ∧ True) → FrameEnd s (.returned v) u (Jvm.fieldLocs frame_1_writes args s ++ Jvm.arrayLocs frame_1_arrays args s ++ Jvm.staticLocs frame_1_statics s) 16 128 → Post tb e args s (.returned v) u) :
    ArmFor flags0 classFile x code maxLocals ret World_1 tables_1 room_1 Calls_1 rest_1 Pre_1 Post := by
  intro l hfl _ _ p e ha hc hk s m args below hf hA hF happ hP
  obtain ⟨hcalls, hrest, hpre⟩ := hP
  obtain ⟨-, -, -, hnamed, -, -, -, hat⟩ := (Spec.applies_iff hf).mp happ
  obtain ⟨hg, hn⟩ := and_e (Cond.before_iff.mp (show (Jvm.Cond.and given_1 narrow_1).before args s = true from hpre))
  obtain ⟨g0, g⟩ := and_e hg
  obtain ⟨ga0, g⟩ := and_e g
  have ga1 := g
  obtain ⟨w0, w1, rfl⟩ : ∃ w0 w1 : Value, args = #[w0, w1] := by
    have hs : args.size = 2 := by simpa [Cond.value, given_1] using g0
    obtain ⟨L⟩ := args
    match L, hs with
    | [w0, w1], _ => exact ⟨w0, w1, rfl⟩
  have hw := fun d (hd : d ∈ tables_1) => atoms_spec (ws := Jvm.Cond.code x code maxLocals ret :: tables_1) hat d (List.mem_cons_of_mem _ hd)
  have hfit : Fit s := fun {y c} hc i hi => by
    obtain ⟨ha, rfl⟩ := Array.getElem?_eq_some_iff.mp hc
    have q := List.all_eq_true.mp ((Array.all_eq_true_iff_forall_mem.mp hF) _ (Array.getElem_mem ha)) i (List.mem_range.mpr hi)
    simpa [Array.getElem?_eq_getElem hi] using q
  obtain ⟨i0, ei0⟩ := isL_v ga0
  obtain rfl : w0 = (.long i0) := Option.some.inj ei0
  obtain ⟨i1, ei1⟩ := is_v ga1
  obtain rfl : w1 = (.int i1) := Option.some.inj ei1
  obtain ⟨n, o, h1, h2, h3, _, L, rfl, ⟨rfl, N⟩, hq⟩ := rm0 l s _ hw tables_1 i0 i1 s.heap s.heap.size (Nat.le_refl _)  p e ha hc hk s m _ below hf ((Spec.applies_iff_loose hf).mp happ).1 ⟨rfl, State.Warmed39.refl s, rfl⟩ trivial
  refine ⟨n, _, h1, h2, h3, hpost _ _ _ _ _ _ ⟨Cond.after_iff.mpr rfl, Cond.after_iff.mpr (eq_i res_at (Term.int_eval (1)) rfl), trivial⟩ ⟨hq.1, hq.2.1, (hq.2.2.sift fun y hy => Or.inr (N y hy)).mono (by decide) (by decide)⟩⟩
theorem main_1_1 : Claimed_1_1 := comes_1 fun _ _ _ _ _ _ h hF => ⟨h.1, hF⟩
theorem main_1_2 : Claimed_1_2 := comes_1 fun _ _ _ _ _ _ h hF => ⟨h.2.1, hF⟩
end Jvm.Pilot.@@N@@
namespace Jvm.Pilot.@@N@@
open Jvm Jvm.ClassFile Sem Op Lib Jvm.Free Jvm.Stand Jvm.Pilot.@@N@@.Jvm.D
/-! MADE BY PROGRAM (witnessworld.py) out of the Statement's table words and the real class files: 11 classes; the members and pool entries that the words name. The judged class is class 1, her method 1. -/
namespace start1
open Jvm.ClassFile
def u (s : String) : CpInfo := .utf8 (stringToUtf16 s)
/-- a pool by its gaps: so many unusable entries, then the entry; so many at the end -/
def gap : Nat → List CpInfo → List CpInfo
  | 0, r => r
  | n + 1, r => .unusable :: gap n r
def poolList (es : List (Nat × CpInfo)) (last : Nat) : List CpInfo := es.foldr (fun e r => gap e.1 (e.2 :: r)) (gap last [])
def pool (es : List (Nat × CpInfo)) (last : Nat) : Array CpInfo := ⟨poolList es last⟩
def fileOf (pool : Array CpInfo) (this : Nat) (attrs : Array Attribute := #[]) (ms : Array MethodInfo := #[]) (fl : Nat := 33) (sup : Nat := 0) (ifs : Array Nat := #[]) (fds : Array FieldInfo := #[]) : ClassFile where
  minorVersion := 0
  majorVersion := 65
  constantPool := pool
  accessFlags := fl
  thisClass := this
  superClass := sup
  interfaces := ifs
  fields := fds
  methods := ms
  attributes := attrs
def plain (name : String) (sup : Option ClassId) : Class where
  name := name
  kind := .ordinary
  loader := none
  accessFlags := 33
  super := sup
  interfaces := #[]
  cf := none
  fields := #[]
  methods := #[]
  instanceTypes := #[]
  staticTypes := #[]
  resolved := #[]
  callSites := []
  init := .initialized
  statics := none
  mirror := none

def pool0 : Array CpInfo := pool [(5, u "<init>"), (0, u "()V"), (1, .class_ 10), (1, u "java/lang/Object")] 113

def k0m0 : Method := { name := "<init>", desc := "()V", sig := { parameters := [], returnType := none }, accessFlags := 1, code := none }
/-- java/lang/Object -/
def k0 : Class := { plain "java/lang/Object" none with
  accessFlags := 33
  interfaces := #[]
  cf := some (fileOf pool0 8 #[] #[{ accessFlags := 1, nameIndex := 5, descriptorIndex := 6, attributes := #[] }] 33 0 #[] #[])
  fields := #[]
  methods := #[k0m0]
  instanceTypes := #[]
  staticTypes := #[]
  resolved := Array.replicate 124 none
  statics := none }

def pool1 : Array CpInfo := pool [(2, .class_ 4), (1, u "java/lang/Object"), (0, u "<init>"), (0, u "()V"), (0, .long 10), (1, .long 100), (1, .long 1000), (1, .long 10000), (1, .long 100000), (1, .long 1000000), (1, .long 10000000), (1, .long 100000000), (1, .long 1000000000), (1, .long 10000000000), (1, .long 100000000000), (1, .long 1000000000000), (1, .long 10000000000000), (1, .long 100000000000000), (1, .long 1000000000000000), (1, .long 10000000000000000), (1, .long 100000000000000000), (1, .long 1000000000000000000), (1, .integer 2147483647), (0, .methodref 45 46), (0, .class_ 47), (0, .nameAndType 48 49), (0, u "com/example/denary/denary/arith/LongArithmetic"), (0, u "trailingZeros"), (0, u "(J)I"), (0, .class_ 51), (0, u "com/example/denary/denary/arith/LongArithmeticTrailingZerosPinLaw"), (2, u "law"), (0, u "(JI)Z")] 5

def k1m0 : Method := { name := "<init>", desc := "()V", sig := { parameters := [], returnType := none }, accessFlags := 2, code := none }
def k1c1 : Code := { maxStack := 5, maxLocals := 8, code := code, exceptionTable := #[], attributes := #[] }
def k1m1 : Method := { name := "law", desc := "(JI)Z", sig := { parameters := [.long, .int], returnType := some .boolean }, accessFlags := 9, code := some k1c1 }
/-- com/example/denary/denary/arith/LongArithmeticTrailingZerosPinLaw -/
def k1 : Class := { plain "com/example/denary/denary/arith/LongArithmeticTrailingZerosPinLaw" (some 0) with
  accessFlags := 49
  interfaces := #[]
  cf := some (fileOf pool1 50 #[] #[{ accessFlags := 2, nameIndex := 5, descriptorIndex := 6, attributes := #[] }, { accessFlags := 9, nameIndex := 54, descriptorIndex := 55, attributes := #[] }] 49 2 #[] #[])
  fields := #[]
  methods := #[k1m0, k1m1]
  instanceTypes := #[]
  staticTypes := #[]
  resolved := Array.replicate 61 none
  statics := none }

def pool2 : Array CpInfo := pool [(4, .class_ 6), (1, u "java/lang/Object"), (0, u "<init>"), (0, u "()V"), (0, .class_ 10), (0, u "com/example/denary/denary/arith/LongArithmetic"), (17, u "POWERS_OF_TEN"), (0, u "[J"), (6, .long 10), (57, u "OVERFLOW"), (0, u "J"), (11, u "trailingZeros"), (0, u "(J)I")] 23

def k2m0 : Method := { name := "<init>", desc := "()V", sig := { parameters := [], returnType := none }, accessFlags := 2, code := none }
def k2c1 : Code := { maxStack := 4, maxLocals := 5, code := prog_9_method_10_code, exceptionTable := #[], attributes := #[] }
def k2m1 : Method := { name := "trailingZeros", desc := "(J)I", sig := { parameters := [.long], returnType := some .int }, accessFlags := 9, code := some k2c1 }
/-- com/example/denary/denary/arith/LongArithmetic -/
def k2 : Class := { plain "com/example/denary/denary/arith/LongArithmetic" (some 0) with
  accessFlags := 49
  interfaces := #[]
  cf := some (fileOf pool2 9 #[] #[{ accessFlags := 2, nameIndex := 7, descriptorIndex := 8, attributes := #[] }, { accessFlags := 9, nameIndex := 107, descriptorIndex := 108, attributes := #[] }] 49 4 #[] #[{ accessFlags := 25, nameIndex := 94, descriptorIndex := 95, attributes := #[] }, { accessFlags := 26, nameIndex := 28, descriptorIndex := 29, attributes := #[] }])
  fields := #[{ name := "OVERFLOW", type := .long, accessFlags := 25, slot := 0, constantValue := 0 }, { name := "POWERS_OF_TEN", type := (.array .long), accessFlags := 26, slot := 1, constantValue := 0 }]
  methods := #[k2m0, k2m1]
  instanceTypes := #[]
  staticTypes := #[.long, (.array .long)]
  resolved := Array.replicate 132 none
  statics := none }

def pool3 : Array CpInfo := pool [(1, u "java/lang/Cloneable"), (0, .class_ 1), (0, u "java/lang/Object"), (0, .class_ 3)] 3

/-- java/lang/Cloneable -/
def k3 : Class := { plain "java/lang/Cloneable" (some 0) with
  accessFlags := 1537
  interfaces := #[]
  cf := some (fileOf pool3 2 #[] #[] 1537 4 #[] #[])
  fields := #[]
  methods := #[]
  instanceTypes := #[]
  staticTypes := #[]
  resolved := Array.replicate 8 none
  statics := none }

def pool4 : Array CpInfo := pool [(1, u "java/io/Serializable"), (0, .class_ 1), (0, u "java/lang/Object"), (0, .class_ 3)] 3

/-- java/io/Serializable -/
def k4 : Class := { plain "java/io/Serializable" (some 0) with
  accessFlags := 1537
  interfaces := #[]
  cf := some (fileOf pool4 2 #[] #[] 1537 4 #[] #[])
  fields := #[]
  methods := #[]
  instanceTypes := #[]
  staticTypes := #[]
  resolved := Array.replicate 8 none
  statics := none }

/-- the primitive byte -/
def k5 : Class := { plain "byte" none with kind := .primitive 'B', accessFlags := 0x411 }
/-- [B -/
def k6 : Class := { plain "[B" (some 0) with kind := .array 5 .byte, interfaces := #[3, 4], accessFlags := 1041 }

/-- the primitive int -/
def k7 : Class := { plain "int" none with kind := .primitive 'I', accessFlags := 0x411 }
/-- [I -/
def k8 : Class := { plain "[I" (some 0) with kind := .array 7 .int, interfaces := #[3, 4], accessFlags := 1041 }

/-- the primitive long -/
def k9 : Class := { plain "long" none with kind := .primitive 'J', accessFlags := 0x411 }
/-- [J -/
def k10 : Class := { plain "[J" (some 0) with kind := .array 9 .long, interfaces := #[3, 4], accessFlags := 1041 }

def heap : Heap := #[]
def classes : Array Class := #[k0, k1, k2, k3, k4, k5, k6, k7, k8, k9, k10]
def interned : List (Array UInt16 × Addr) := []
def slotsUsed : Nat := 0
def theMethod : MethodId := ⟨1, 1⟩
def args0 : Array Value := #[.long 5, .int 7]
def aboutOver (below : List Frame) : State where
  vm := { classes := classes, interned := interned.toArray }
  heap := heap
  slotsUsed := slotsUsed
  threads := #[{ frames := .invoking theMethod args0 :: below }]
def below0 : List Frame := [.native { method := ⟨0, 0⟩, args := #[] }]
def about1 : State := aboutOver below0
def p0 : Program := .bare "" "" ""
def e0 : Env := launch0.env 0 0 0
theorem w_frames : about1.frames = Frame.invoking theMethod args0 :: below0 := rfl
set_option maxRecDepth 65536 in
theorem w_args : argsFit about1.vm theMethod args0 = true := by decide +kernel
set_option maxRecDepth 65536 in
theorem w_heap : heapFits about1 = true := by decide +kernel
set_option maxRecDepth 65536 in
theorem w_runnable : about1.curStatus? = some .runnable := by decide +kernel
set_option maxRecDepth 65536 in
theorem w_alone : about1.alone = true := by decide +kernel
set_option maxRecDepth 65536 in
theorem w_named : about1.methodNamed? x = some theMethod := by decide +kernel
set_option maxRecDepth 65536 in
theorem w_hears : about1.hears theMethod below0 = true := by decide +kernel
set_option maxRecDepth 65536 in
theorem w_ripe : about1.ripe theMethod args0 below0 = true := by decide +kernel
theorem w_running : about1.status = .running := rfl
set_option maxRecDepth 65536 in
theorem w_room : about1.hasRoom e0.platform room_1 = true :=
  launch0.hasRoom_least _ room_1 (by decide +kernel) (by decide +kernel) (by decide +kernel) (by decide +kernel) (by decide +kernel) (by decide +kernel)
theorem allAtoms_all (ts : List Jvm.Cond) (a : Array Jvm.Value) (st : Jvm.State) : (allAtoms ts).before a st = ts.all (fun c => c.before a st) := by
  induction ts with
  | nil => rfl
  | cons c t ih =>
    show (Jvm.Cond.and c (allAtoms t)).before a st = _
    rw [Jvm.Cond.before_and, ih, List.all_cons]
def words1 : List Jvm.Cond := Jvm.Cond.code x code maxLocals ret :: tables_1
/-- a 'code' word, met by the world's own term for the bytes: nothing is compared byte by byte -/
theorem code_word {y : MethodName} {bytes : ByteArray} {mx : Nat} {rt : Option FieldType} {a : Array Value} {s : State} {m : MethodId} {meth : Method} {c : Code} (h1 : s.methodNamed? y = some m) (h2 : s.vm.method? m = some meth) (h3 : meth.code = some c) (h4 : c.code = bytes)
    (h5 : (c.maxLocals == mx && c.exceptionTable.isEmpty && decide (c.maxStack ≤ mostOperands) && decide (meth.sig.returnType = rt) && !meth.locks && decide (parseMethodDescriptor y.desc = some meth.sig)) = true) : (Jvm.Cond.code y bytes mx rt).before a s = true := by
  simp only [Bool.and_eq_true, beq_iff_eq, Bool.not_eq_true', decide_eq_true_eq] at h5
  obtain ⟨⟨⟨⟨⟨g1, g2⟩, g3⟩, g4⟩, g5⟩, g6⟩ := h5
  simp [Cond.before, Cond.holds, Cond.value, h1, h2, h3, h4, g1, g2, g3, g4, g5, g6]
def isCode : Jvm.Cond → Bool
  | .code _ _ _ _ => true
  | _ => false
theorem all_split {L : List Jvm.Cond} {P : Jvm.Cond → Bool} (h1 : L.all (fun c => isCode c || P c) = true) (h2 : ∀ c ∈ L.filter isCode, P c = true) : L.all P = true := by
  refine List.all_eq_true.mpr fun c hc => ?_
  have h := List.all_eq_true.mp h1 c hc
  rcases Bool.eq_false_or_eq_true (isCode c) with hi | hi
  · exact h2 c (List.mem_filter.mpr ⟨hc, hi⟩)
  · simpa [hi] using h
set_option maxRecDepth 65536 in
theorem w_c0 : (Jvm.Cond.code x code maxLocals ret).before args0 about1 = true := code_word (m := ⟨1, 1⟩) (meth := k1m1) (c := k1c1) (by decide +kernel) rfl rfl rfl (by decide +kernel)
set_option maxRecDepth 65536 in
theorem w_c1 : (Jvm.Cond.code ({ cls := "com/example/denary/denary/arith/LongArithmetic", name := "trailingZeros", desc := "(J)I" } : Jvm.MethodName) prog_9_method_10_code (5 : Nat) (Option.some Jvm.ClassFile.FieldType.int)).before args0 about1 = true := code_word (m := ⟨2, 1⟩) (meth := k2m1) (c := k2c1) (by decide +kernel) rfl rfl rfl (by decide +kernel)
def codes1 : List Jvm.Cond := [Jvm.Cond.code x code maxLocals ret, Jvm.Cond.code ({ cls := "com/example/denary/denary/arith/LongArithmetic", name := "trailingZeros", desc := "(J)I" } : Jvm.MethodName) prog_9_method_10_code (5 : Nat) (Option.some Jvm.ClassFile.FieldType.int)]
set_option maxRecDepth 65536 in
theorem codes_eq : words1.filter isCode = codes1 := rfl
theorem w_codes : ∀ c ∈ words1.filter isCode, c.before args0 about1 = true := by
  rw [codes_eq]
  intro c hc
  simp only [codes1, List.mem_cons, List.not_mem_nil, or_false] at hc
  rcases hc with rfl | rfl
  · exact w_c0
  · exact w_c1
set_option maxRecDepth 65536 in
theorem w_t1 : (words1.take 24).all (fun c => isCode c || c.before args0 about1) = true := by decide +kernel
set_option maxRecDepth 65536 in
theorem w_t2 : (words1.drop 24).all (fun c => isCode c || c.before args0 about1) = true := by decide +kernel
theorem w_tables : (allAtoms (Jvm.Cond.code x code maxLocals ret :: tables_1)).before args0 about1 = true := by
  rw [allAtoms_all]
  show words1.all (fun c => c.before args0 about1) = true
  refine all_split ?_ w_codes
  rw [← List.take_append_drop 24 words1, List.all_append, w_t1, w_t2]
  rfl
set_option maxRecDepth 65536 in
theorem w_case : (Jvm.Cond.and given_1 narrow_1).before args0 about1 = true := by decide +kernel
theorem w_applies : (headSpec (Jvm.Cond.code x code maxLocals ret :: tables_1) room_1).applies x e0.platform about1 = true :=
  (Spec.applies_iff w_frames).mpr ⟨w_running, w_runnable, w_alone, w_named, w_hears, w_ripe, w_room, w_tables⟩
theorem atStart : AtStart classFile x code maxLocals ret World_1 tables_1 room_1 Calls_1 rest_1 Pre_1 launch0 p0 e0 about1 theMethod args0 below0 :=
  ⟨lists_1, trivial, launch0.admits_env _ _ _, launch0.least_env, fairChoices_fair.cas, fairChoices_fair.clock, w_frames, w_args, w_heap, w_applies, trivial, trivial, w_case⟩
end start1
theorem witness_1 : WitnessClaimed_1 := ⟨start1.p0, start1.e0, start1.about1, start1.theMethod, start1.args0, start1.below0, start1.atStart⟩
end Jvm.Pilot.@@N@@
