import JvmDerived
import JvmDerived.Pilot.@@N@@Statement
import JvmDerived.Pilot.@@N@@Code
set_option linter.unusedVariables false
set_option linter.unusedSimpArgs false
namespace Jvm.RoadKit
open Sem ClassFile Op Lib Jvm.Stand Jvm.Free Jvm.LawKit
section New
variable {p : Program} {l : Launch} {e : Env} {R : Room} {s : State} {m : MethodId} {args : Array Value} {below : List Frame} {meth : Method} {c : Code} {T : State} {locs : List Loc} {cells slots : Nat}
theorem retI (X : Stand p l e R s m args below meth c T locs cells slots) (hx : p.tables.exec = Jvm.exec) {pc : Nat} {Ls : Array Slot} {z : Int32} {rest : List Value} (hret : meth.sig.returnType = some .int) (hd : decode c.code pc = .ok (.ireturn, 1)) {fs : List Frame}
    (hl : ∀ (f : JFrame) (acts : List Action), f.method = m → f.locked = none → f.entered = [] → (doReturn e (T.setTop f) acts (some (.int z))).1 = T.setFrames fs) : Steps p.tables e below (T.setTop (mkF m pc Ls (.int z :: rest))) (T.setFrames fs) :=
  retOut X hx hret rfl (Or.inl ⟨rfl, Or.inl rfl, _, rfl⟩) hd hl
end New
end Jvm.RoadKit
namespace Jvm.Pilot.@@N@@
open Jvm Jvm.ClassFile Sem Op Lib Jvm.Free Jvm.Stand Jvm.LawKit Jvm.RoadKit Bundle Jvm.Pilot.@@N@@.Jvm.D
/-! own_Goes: from A the run comes to a state of which P holds -/
def own_Goes (p : Program) (e : Env) (below : List Frame) (P : State → Prop) (A : State) : Prop := ∃ B, Steps p.tables e below A B ∧ P B
def own_Fin (s : State) (below : List Frame) (QQ : Option Value → Heap → List Loc → Prop) (C N : Nat) (B : State) : Prop := ∃ v L, B.status = .running ∧ Ended B below (.returned v) ∧ QQ v B.heap L ∧ FrameEnd s (.returned v) B L C N
theorem own_via {p : Program} {e : Env} {below : List Frame} {P : State → Prop} {A : State} (B : State) (h : ∀ t, Steps p.tables e below B t → Steps p.tables e below A t) (k : own_Goes p e below P B) : own_Goes p e below P A := by
  obtain ⟨t, h1, h2⟩ := k
  exact ⟨t, h t h1, h2⟩
theorem own_body {p : Program} {e : Env} {below : List Frame} {s s₁ : State} {QQ : Option Value → Heap → List Loc → Prop} {C N ml : Nat} {m : MethodId} {args : Array Value} {F : JFrame} (hF : entryFrame m args ml = F) (k : own_Goes p e below (own_Fin s below QQ C N) (s₁.setTop F)) :
    ∃ s₂ o, Steps p.tables e below (s₁.setTop (entryFrame m args ml)) s₂ ∧ s₂.status = .running ∧ Ended s₂ below o ∧ (∃ v L, o = .returned v ∧ QQ v s₂.heap L ∧ FrameEnd s o s₂ L C N) := by
  obtain ⟨B, h1, v, L, h2, h3, h4, h5⟩ := k
  exact ⟨B, .returned v, hF ▸ h1, h2, h3, v, L, rfl, h4, h5⟩
theorem own_leave {p : Program} {l : Launch} {e : Env} {R : Room} {s : State} {m : MethodId} {args : Array Value} {below : List Frame} {meth : Method} {c : Code} {T : State} {locs : List Loc} {cells slots : Nat} {QQ : Option Value → Heap → List Loc → Prop} {C N : Nat}
    (X : Stand p l e R s m args below meth c T locs cells slots) (hlocks : meth.locks = false) {v : Option Value} (hv : meth.sig.returnType = none → v = none) {F : JFrame}
    (hstep : ∀ fs, (∀ (f : JFrame) (acts : List Action), f.method = m → f.locked = none → f.entered = [] → (doReturn e (T.setTop f) acts v).1 = T.setFrames fs) → Steps p.tables e below (T.setTop F) (T.setFrames fs))
    (hq : QQ v T.heap locs) (hc : cells ≤ C) (hn : slots ≤ N) : own_Goes p e below (own_Fin s below QQ C N) (T.setTop F) := by
  obtain ⟨fs, hr, hrun, hended, hW, hsame⟩ := X.leave hv hlocks
  exact ⟨_, hstep fs hr, v, locs, hrun, hended, hq, ⟨_, rfl⟩, hW, hsame.mono hc hn⟩
/-- what a body that writes nothing leaves -/
def own_Q (r : Option Value) (h0 : Heap) (n0 : Nat) (v : Option Value) (h : Heap) (L : List Loc) : Prop := v = r ∧ Fr n0 L ∧ h = h0
/-! own_A: an array of ints or chars, by a function of the place -/
def own_A (Z : State) (h : Heap) (a : Addr) (ty : FieldType) (n : Nat) (f : Nat → Int32) : Prop := ∃ c : Cell, Arr Z h a c ty ∧ c.slots.size = n ∧ ∀ i, i < n → c.slots[i]? = some (.int (f i))
def own_up (f : Nat → Int32) (j : Nat) (v : Int32) (i : Nat) : Int32 := if i = j then v else f i
section OwnA
variable {Z : State} {h h' : Heap} {a b : Addr} {ty : FieldType} {n sl : Nat} {f : Nat → Int32} {v : Value} {ws : List Addr}
theorem own_A.ext (F : own_A Z h a ty n f) (E : Ext h h') : own_A Z h' a ty n f := by obtain ⟨c, A, r⟩ := F; exact ⟨c, A.ext E, r⟩
theorem own_A.other (F : own_A Z h b ty n f) (W : Wr h h' a sl v) (q : b ≠ a) : own_A Z h' b ty n f := by obtain ⟨c, A, r⟩ := F; exact ⟨c, A.other W q, r⟩
theorem own_A.keep (F : own_A Z h a ty n f) (K : Keep h h' ws) (q : a ∉ ws) : own_A Z h' a ty n f := by obtain ⟨c, A, r⟩ := F; exact ⟨c, ⟨K.2.1 a c A.1 q, A.2⟩, r⟩
theorem own_A.lt (F : own_A Z h a ty n f) : a < h.size := by obtain ⟨c, A, -⟩ := F; exact A.lt
theorem own_A.set {j : Nat} {x : Int32} (F : own_A Z h a ty n f) (W : Wr h h' a j (.int x)) : own_A Z h' a ty n (own_up f j x) := by
  obtain ⟨c, A, S, H⟩ := F
  refine ⟨c.setSlot j (.int x), A.same W, by simpa [Cell.setSlot] using S, fun i hi => ?_⟩
  unfold own_up
  by_cases e : i = j
  · subst e; rw [if_pos rfl]; simp [Cell.setSlot, S, hi]
  · rw [if_neg e]; rw [← H i hi]; exact Array.getElem?_setIfInBounds_ne (Ne.symm e)
theorem own_A.of {k : ClassId} {z : Int32} {vs : List Value} {d : Value} (F : Arv Z h a k ty z vs d) (hf : ∀ i, i < z.toNatClampNeg → vs.getD i d = .int (f i)) : own_A Z h a ty z.toNatClampNeg f := by
  obtain ⟨c, A, -, S, -, H, -⟩ := F
  exact ⟨c, A, S, fun i hi => by rw [H i (by rw [S]; exact hi), hf i hi]⟩
theorem own_A.cast {m : Nat} {g : Nat → Int32} (F : own_A Z h a ty n f) (e : n = m) (q : ∀ i, i < m → f i = g i) : own_A Z h a ty m g := by
  obtain ⟨c, A, S, H⟩ := F
  subst e
  exact ⟨c, A, S, fun i hi => by rw [H i hi, q i hi]⟩
end OwnA
theorem own_in {c : Cell} {n : Nat} {j : Int32} (S : c.slots.size = n) (q : 0 ≤ j.toInt ∧ j.toInt < n) : ¬ (j < 0 ∨ c.slots.size ≤ j.toNatClampNeg) := by
  have e0 : (0 : Int32).toInt = 0 := rfl
  have ek : j.toNatClampNeg = j.toInt.toNat := rfl
  rw [Int32.lt_iff_toInt_lt, S, ek]; omega
theorem own_at {c : Cell} {n : Nat} {f : Nat → Int32} {j : Int32} (H : ∀ i, i < n → c.slots[i]? = some (.int (f i))) (q : 0 ≤ j.toInt ∧ j.toInt < n) : c.slots[j.toNatClampNeg]? = some (.int (f j.toInt.toNat)) := H _ (by have ek : j.toNatClampNeg = j.toInt.toNat := rfl; omega)
theorem own_selpriv {s : State} {args : Array Value} {y : MethodName} {n : Nat} (wi : (Cond.instantiable y.cls n).before args s = true) (hpriv : s.PrivateAt y) (hinst : (Cond.instanceMethod y).before args s = true) (hy : y.cls ≠ "java/lang/invoke/MethodHandle" ∧ y.cls ≠ "java/lang/invoke/VarHandle") : (Cond.selects y.cls y y).before args s = true := by
  obtain ⟨c, k, h1, h2, h3, h4, -⟩ := Cond.instantiable_spec wi
  exact Jvm.Stand.selects_self_of_private h1 h2 (by simp only [Bool.or_eq_false_iff] at h4; exact h4.1) hpriv hinst hy
/-! System.arraycopy within one int[] -/
def own_cp (f : Nat → Int32) (o q n : Nat) (i : Nat) : Int32 := if q ≤ i ∧ i < q + n then f (o + (i - q)) else f i
theorem own_frc {k : Nat} {a : Addr} {q n : Nat} (h : k ≤ a) : Fr k (Jvm.Stand.copyLocs a q n) := by
  intro y hy
  obtain ⟨i, -, rfl⟩ := List.mem_map.mp hy
  exact h
theorem own_copy {p : Program} {l : Launch} {e : Env} {R : Room} {s : State} {m : MethodId} {args : Array Value} {below : List Frame} {meth : Method} {c : Code} {T : State} {locs : List Loc} {cells slots : Nat} {Z : State} {a0 : Array Value} {h : Heap}
    (X : Stand p l e R s m args below meth c T locs cells slots) (hx : p.tables.exec = Jvm.exec) (hZ : Z.Warmed39 s.vm) {own : String} {index : Nat} (hown : s.vm.findClass own = some m.cls) (w1 : (Cond.methodLink own index ⟨"java/lang/System", "arraycopy", "(Ljava/lang/Object;ILjava/lang/Object;II)V"⟩).before a0 Z = true)
    (w2 : (Cond.native ⟨"java/lang/System", "arraycopy", "(Ljava/lang/Object;ILjava/lang/Object;II)V"⟩).before a0 Z = true) (w3 : (Cond.static ⟨"java/lang/System", "arraycopy", "(Ljava/lang/Object;ILjava/lang/Object;II)V"⟩).before a0 Z = true) (w4 : (Cond.initialized "java/lang/System").before a0 Z = true)
    (eT : T.heap = h) {a : Addr} {N : Nat} {f : Nat → Int32} (F : own_A Z h a .int N f) (hN : N ≤ 100) {jo jq jn : Int32} (hb : 0 ≤ jo.toInt ∧ 0 ≤ jq.toInt ∧ 0 ≤ jn.toInt ∧ jo.toInt + jn.toInt ≤ N ∧ jq.toInt + jn.toInt ≤ N)
    {g : JFrame} (hg : g.method = m) (hsize : g.locals.size = c.maxLocals) {rest : List Value} (hs : g.stack = .int jn :: .int jq :: .ref a :: .int jo :: .ref a :: rest) (hd : decode c.code g.pc = .ok (.invokestatic index, 3))
    {W : Nat} (hW : 2 * g.monitorRoom + (rest.map fun v => v.category).sum ≤ W) (hfr : 1 ≤ R.frames) (hlo : W + 40 ≤ R.locals) :
    ∃ T' h', Stand p l e R s m args below meth c T' (locs ++ Jvm.Stand.copyLocs a jq.toInt.toNat jn.toInt.toNat) cells slots ∧ T'.heap = h' ∧ Keep h h' [a] ∧ own_A Z h' a .int N (own_cp f jo.toInt.toNat jq.toInt.toNat jn.toInt.toNat) ∧
      ∀ target, Steps p.tables e below (T'.setTop { g with pc := g.pc + 3, stack := rest }) target → Steps p.tables e below (T.setTop g) target := by
  obtain ⟨cl, A, S, H⟩ := F
  have hA : Jvm.Free.XT.Arr .int a cl T := ⟨by rw [eT]; exact A.1, State.isArrayOf_alike (hZ.alike.trans X.warmed.alike) A.2.1, A.2.2, by rw [S]; omega⟩
  have of32 : ∀ j : Int32, 0 ≤ j.toInt → j = Int32.ofNat j.toInt.toNat := fun j hj => by
    apply Int32.toInt_inj.mp
    have := rng32 j
    rw [Int32.toInt_ofNat_of_lt (by omega)]; omega
  obtain ⟨T', B', X', hP, b1, b2, b3, b4, st⟩ := Jvm.Stand.acopy X hx hown (fun w hw => by
    simp only [Jvm.Free.XT.acW, List.mem_cons, List.not_mem_nil, or_false] at hw
    rcases hw with rfl | rfl | rfl | rfl
    · exact mv hZ w1
    · exact mv hZ w2
    · exact mv hZ w3
    · exact mv hZ w4) hA hA (by decide) (of32 jo hb.1) (of32 jq hb.2.1) (of32 jn hb.2.2.1) (by rw [S]; omega) (by rw [S]; omega)
    (fun i hi => by
      have : cl.slots.getD (jo.toInt.toNat + i) .null = .int (f (jo.toInt.toNat + i)) := by
        have q := H (jo.toInt.toNat + i) (by omega)
        rw [Array.getD_eq_getD_getElem?, q]; rfl
      rw [this]
      exact ⟨rfl, fun hr => by cases hr⟩) hg hsize hs hd hW hfr hlo
  refine ⟨T', T'.heap, X', rfl, ⟨by rw [hP.2.2, eT]; exact Nat.le_refl _, fun x c q hx => ?_, fun x c q => ?_⟩, ⟨B', ⟨hP.1, ?_, by rw [b2]; exact A.2.2⟩, b3.trans S, fun i hi => ?_⟩, st⟩
  · rw [hP.2.1 x (fun e => hx (by rw [e]; exact List.mem_singleton.mpr rfl)), eT]; exact q
  · by_cases e : x = a
    · subst e
      cases A.1.symm.trans q
      exact ⟨B', hP.1, b1, b2, b3⟩
    · exact ⟨c, by rw [hP.2.1 x e, eT]; exact q, rfl, rfl, rfl⟩
  · obtain ⟨q1, k, q2, q3⟩ := A.2.1
    exact ⟨by rw [b2]; exact q1, k, by rw [b1]; exact q2, q3⟩
  · rw [b4 i]
    unfold own_cp
    split
    · have q := H (jo.toInt.toNat + (i - jq.toInt.toNat)) (by omega)
      rw [Array.getD_eq_getD_getElem?, q]; rfl
    · exact H i hi
/-! what after(x) finds: the number of the c starts from H on that are at most x -/
def own_cnt (f : Nat → Int32) (H : Nat) : Nat → Int32 → Nat
  | 0, _ => 0
  | c + 1, x => own_cnt f H c x + (if (f (H + c)).toInt ≤ x.toInt then 1 else 0)
def own_a (f : Nat → Int32) (hd ct x : Int32) : Int32 := Int32.ofNat (own_cnt f hd.toInt.toNat ct.toInt.toNat x)
def own_Inv (f : Nat → Int32) (hd ct : Int32) : Prop := 0 ≤ ct.toInt ∧ ct.toInt ≤ 4 ∧ 4 - ct.toInt ≤ hd.toInt ∧ hd.toInt ≤ 4 ∧ ∀ i j, i ≤ j → j < ct.toInt.toNat → (f (hd.toInt.toNat + i)).toInt ≤ (f (hd.toInt.toNat + j)).toInt
def own_lo (f : Nat → Int32) (H : Nat) (x : Int32) (n : Nat) : Prop := ∀ i, i < n → (f (H + i)).toInt ≤ x.toInt
def own_hi (f : Nat → Int32) (H c : Nat) (x : Int32) (n : Nat) : Prop := ∀ i, n ≤ i → i < c → x.toInt < (f (H + i)).toInt
theorem own_cntle (f : Nat → Int32) (H : Nat) (x : Int32) : ∀ c, own_cnt f H c x ≤ c := by
  intro c
  induction c with
  | zero => exact Nat.le_refl _
  | succ c ih => unfold own_cnt; split <;> omega
theorem own_cnt_of {f : Nat → Int32} {H : Nat} {x : Int32} {n : Nat} : ∀ c, n ≤ c → own_lo f H x n → own_hi f H c x n → own_cnt f H c x = n := by
  intro c
  induction c with
  | zero => intro h _ _; unfold own_cnt; omega
  | succ c ih =>
    intro h h1 h2
    unfold own_cnt
    by_cases q : n = c + 1
    · subst q
      have e : own_cnt f H c x = c := by
        have : ∀ c', c' ≤ c → own_cnt f H c' x = c' := by
          intro c'
          induction c' with
          | zero => intro _; rfl
          | succ d ihd => intro hd; unfold own_cnt; rw [ihd (by omega), if_pos (h1 d (by omega))]
        exact this c (Nat.le_refl _)
      rw [e, if_pos (h1 c (by omega))]
    · rw [ih (by omega) h1 (fun i hi hc => h2 i hi (by omega)), if_neg (by have := h2 c (by omega) (by omega); omega)]; rfl
theorem own_aof {f : Nat → Int32} {hd ct x lo : Int32} (h0 : 0 ≤ lo.toInt ∧ lo.toInt ≤ ct.toInt) (h1 : own_lo f hd.toInt.toNat x lo.toInt.toNat) (h2 : own_hi f hd.toInt.toNat ct.toInt.toNat x lo.toInt.toNat) : own_a f hd ct x = lo := by
  unfold own_a
  rw [own_cnt_of _ (by omega) h1 h2]
  apply Int32.toInt_inj.mp
  have := rng32 lo
  rw [Int32.toInt_ofNat_of_lt (by omega)]; omega
theorem own_mid {lo hi : Int32} (h0 : 0 ≤ lo.toInt) (h1 : lo.toInt < hi.toInt) (h2 : hi.toInt ≤ 8) : lo.toInt ≤ (((lo + hi).toUInt32 >>> ((1 : Int32) &&& 31).toUInt32).toInt32).toInt ∧ (((lo + hi).toUInt32 >>> ((1 : Int32) &&& 31).toUInt32).toInt32).toInt < hi.toInt := by
  have := c_iadd lo hi; have := rng32 (lo + hi)
  have := c_iushr (lo + hi) (1 : Int32) 1 (by decide) (by decide)
  omega
theorem own_add {a b : Int32} (h0 : 0 ≤ a.toInt) (h1 : 0 ≤ b.toInt) (h2 : a.toInt ≤ 1000) (h3 : b.toInt ≤ 1000) : (a + b).toInt = a.toInt + b.toInt := by
  have := c_iadd a b; have := rng32 (a + b); omega
def own_nh (hd ct a : Int32) : Int32 := if (ct - a) < a then hd else (hd + (-1 : Int32))
def own_nf (f : Nat → Int32) (hd ct a v : Int32) : Nat → Int32 := if (ct - a) < a then own_up (own_cp f (hd + a).toInt.toNat ((hd + a) - (-1 : Int32)).toInt.toNat (ct - a).toInt.toNat) (hd + a).toInt.toNat v else own_up (own_cp f hd.toInt.toNat (hd + (-1 : Int32)).toInt.toNat a.toInt.toNat) ((hd + (-1 : Int32)) + a).toInt.toNat v
def own_ih (f : Nat → Int32) (hd ct i n v : Int32) : Int32 := if i < n then own_nh hd ct (own_a f hd ct v) else hd
def own_ic (ct i n : Int32) : Int32 := if i < n then (ct - (-1 : Int32)) else ct
def own_if (g f : Nat → Int32) (hd ct i n v u : Int32) : Nat → Int32 := if i < n then own_nf g hd ct (own_a f hd ct v) u else g
theorem own_sub {a b : Int32} (h0 : 0 ≤ a.toInt) (h1 : 0 ≤ b.toInt) (h2 : a.toInt ≤ 1000) (h3 : b.toInt ≤ 1000) : (a - b).toInt = a.toInt - b.toInt := by
  have := c_isub a b; have := rng32 (a - b); omega
theorem own_p1 {a : Int32} (h0 : 0 ≤ a.toInt) (h2 : a.toInt ≤ 1000) : (a - (-1 : Int32)).toInt = a.toInt + 1 := by
  have e : (-1 : Int32).toInt = -1 := rfl
  have := c_isub a (-1 : Int32); have := rng32 (a - (-1 : Int32)); omega
theorem own_m1 {a : Int32} (h0 : 1 ≤ a.toInt) (h2 : a.toInt ≤ 1000) : (a + (-1 : Int32)).toInt = a.toInt - 1 := by
  have e : (-1 : Int32).toInt = -1 := rfl
  have := c_iadd a (-1 : Int32); have := rng32 (a + (-1 : Int32)); omega
/-- the insertion at the place a, in naturals -/
theorem own_insA {f : Nat → Int32} {v : Int32} {H A Cc : Nat} (h1 : A ≤ Cc) : (∀ i, i < A → own_up (own_cp f (H + A) (H + A + 1) (Cc - A)) (H + A) v (H + i) = f (H + i)) ∧ own_up (own_cp f (H + A) (H + A + 1) (Cc - A)) (H + A) v (H + A) = v ∧ (∀ i, A ≤ i → i < Cc → own_up (own_cp f (H + A) (H + A + 1) (Cc - A)) (H + A) v (H + (i + 1)) = f (H + i)) := by
  refine ⟨fun i hi => ?_, ?_, fun i p q => ?_⟩
  · unfold own_up own_cp
    rw [if_neg (by omega), if_neg (by omega)]
  · unfold own_up
    rw [if_pos rfl]
  · unfold own_up own_cp
    rw [if_neg (by omega), if_pos (by omega)]; congr 1; omega
theorem own_insB {f : Nat → Int32} {v : Int32} {H A Cc : Nat} (h0 : 1 ≤ H) (h1 : A ≤ Cc) : (∀ i, i < A → own_up (own_cp f H (H - 1) A) (H - 1 + A) v (H - 1 + i) = f (H + i)) ∧ own_up (own_cp f H (H - 1) A) (H - 1 + A) v (H - 1 + A) = v ∧ (∀ i, A ≤ i → i < Cc → own_up (own_cp f H (H - 1) A) (H - 1 + A) v (H - 1 + (i + 1)) = f (H + i)) := by
  refine ⟨fun i hi => ?_, ?_, fun i p q => ?_⟩
  · unfold own_up own_cp
    rw [if_neg (by omega), if_pos (by omega)]; congr 1; omega
  · unfold own_up
    rw [if_pos rfl]
  · unfold own_up own_cp
    rw [if_neg (by omega), if_neg (by omega)]; congr 1; omega
theorem own_ins {f : Nat → Int32} {hd ct a v : Int32} (h1 : 0 ≤ ct.toInt ∧ ct.toInt ≤ 3 ∧ 4 - ct.toInt ≤ hd.toInt ∧ hd.toInt ≤ 4) (ha : 0 ≤ a.toInt ∧ a.toInt ≤ ct.toInt) :
    (3 - ct.toInt ≤ (own_nh hd ct a).toInt ∧ (own_nh hd ct a).toInt ≤ 4) ∧ (∀ i, i < a.toInt.toNat → own_nf f hd ct a v ((own_nh hd ct a).toInt.toNat + i) = f (hd.toInt.toNat + i)) ∧ own_nf f hd ct a v ((own_nh hd ct a).toInt.toNat + a.toInt.toNat) = v ∧ (∀ i, a.toInt.toNat ≤ i → i < ct.toInt.toNat → own_nf f hd ct a v ((own_nh hd ct a).toInt.toNat + (i + 1)) = f (hd.toInt.toNat + i)) := by
  obtain ⟨c0, c1, c2, c3⟩ := h1
  have hA : a.toInt.toNat ≤ ct.toInt.toNat := by omega
  have hH : 1 ≤ hd.toInt.toNat := by omega
  unfold own_nh own_nf
  by_cases q : (ct - a) < a
  · rw [if_pos q, if_pos q]
    have n1 : (ct - a).toInt.toNat = ct.toInt.toNat - a.toInt.toNat := by
      have := own_sub (a := ct) (b := a) c0 ha.1 (by omega) (by omega); omega
    have e2 := own_add (a := hd) (b := a) (by omega) ha.1 (by omega) (by omega)
    have n2 : (hd + a).toInt.toNat = hd.toInt.toNat + a.toInt.toNat := by omega
    have n3 : ((hd + a) - (-1 : Int32)).toInt.toNat = hd.toInt.toNat + a.toInt.toNat + 1 := by
      have := own_p1 (a := hd + a) (by omega) (by omega); omega
    simp only [n1, n2, n3]
    exact ⟨⟨by omega, by omega⟩, own_insA hA⟩
  · rw [if_neg q, if_neg q]
    have e4 := own_m1 (a := hd) (by omega) (by omega)
    have n5 : ((hd + (-1 : Int32)) + a).toInt.toNat = hd.toInt.toNat - 1 + a.toInt.toNat := by
      have := own_add (a := hd + (-1 : Int32)) (b := a) (by omega) ha.1 (by omega) (by omega); omega
    have n4 : (hd + (-1 : Int32)).toInt.toNat = hd.toInt.toNat - 1 := by omega
    simp only [n4, n5]
    exact ⟨⟨by omega, by omega⟩, own_insB hH hA⟩
theorem own_split {f : Nat → Int32} {H : Nat} (x : Int32) : ∀ c, (∀ i j, i ≤ j → j < c → (f (H + i)).toInt ≤ (f (H + j)).toInt) → ∃ n, n ≤ c ∧ own_lo f H x n ∧ own_hi f H c x n := by
  intro c
  induction c with
  | zero => intro _; exact ⟨0, Nat.le_refl _, fun i hi => by omega, fun i h1 h2 => by omega⟩
  | succ c ih =>
    intro hs
    obtain ⟨n, h1, h2, h3⟩ := ih (fun i j a b => hs i j a (by omega))
    by_cases q : (f (H + c)).toInt ≤ x.toInt
    · refine ⟨c + 1, Nat.le_refl _, fun i hi => ?_, fun i a b => by omega⟩
      have := hs i c (by omega) (by omega); omega
    · refine ⟨n, by omega, h2, fun i a b => ?_⟩
      by_cases e : i = c
      · subst e; omega
      · exact h3 i a (by omega)
theorem own_cntcongr {f g : Nat → Int32} {H K : Nat} {x : Int32} : ∀ c, (∀ i, i < c → g (K + i) = f (H + i)) → own_cnt g K c x = own_cnt f H c x := by
  intro c
  induction c with
  | zero => intro _; rfl
  | succ c ih => intro h; unfold own_cnt; rw [ih (fun i hi => h i (by omega)), h c (by omega)]
theorem own_cntins {f g : Nat → Int32} {H K a : Nat} {v x : Int32} (g1 : ∀ i, i < a → g (K + i) = f (H + i)) (g2 : g (K + a) = v) : ∀ d, (∀ i, a ≤ i → i < a + d → g (K + (i + 1)) = f (H + i)) → own_cnt g K (a + d + 1) x = own_cnt f H (a + d) x + (if v.toInt ≤ x.toInt then 1 else 0) := by
  intro d
  induction d with
  | zero => intro _; show own_cnt g K a x + _ = _; rw [own_cntcongr a g1, g2]; rfl
  | succ d ih =>
    intro h
    have e : own_cnt g K (a + (d + 1) + 1) x = own_cnt g K (a + d + 1) x + (if (g (K + (a + d + 1))).toInt ≤ x.toInt then 1 else 0) := rfl
    have e2 : own_cnt f H (a + (d + 1)) x = own_cnt f H (a + d) x + (if (f (H + (a + d))).toInt ≤ x.toInt then 1 else 0) := rfl
    rw [e, e2, ih (fun i p q => h i p (by omega)), h (a + d) (by omega) (by omega)]; omega
theorem own_step {f f' : Nat → Int32} {hd hd' ct ct' i n v : Int32} (hI : own_Inv f hd ct) (hc : ct.toInt ≤ 3) (e1 : hd' = own_ih f hd ct i n v) (e2 : ct' = own_ic ct i n) (e3 : f' = own_if f f hd ct i n v v) :
    own_Inv f' hd' ct' ∧ ct'.toInt = ct.toInt + (if i < n then 1 else 0) ∧ ∀ x : Int32, own_cnt f' hd'.toInt.toNat ct'.toInt.toNat x = own_cnt f hd.toInt.toNat ct.toInt.toNat x + (if i < n ∧ v.toInt ≤ x.toInt then 1 else 0) := by
  unfold own_ih at e1; unfold own_ic at e2; unfold own_if at e3
  by_cases q : i < n
  · rw [if_pos q] at e1 e2 e3
    obtain ⟨i1, i2, i3, i4, i5⟩ := hI
    obtain ⟨m, m1, m2, m3⟩ := own_split (f := f) (H := hd.toInt.toNat) v ct.toInt.toNat i5
    have ea : own_a f hd ct v = Int32.ofNat m := by unfold own_a; rw [own_cnt_of _ m1 m2 m3]
    have em : (own_a f hd ct v).toInt = m := by rw [ea, Int32.toInt_ofNat_of_lt (by omega)]
    obtain ⟨b1, b2, b3, b4⟩ := own_ins (f := f) (hd := hd) (ct := ct) (a := own_a f hd ct v) (v := v) ⟨i1, hc, i3, i4⟩ ⟨by omega, by omega⟩
    rw [← e1] at b1 b2 b3 b4
    rw [← e3] at b2 b3 b4
    have ec := own_p1 (a := ct) i1 (by omega)
    rw [← e2] at ec
    have hm : (own_a f hd ct v).toInt.toNat = m := by omega
    rw [hm] at b2 b3 b4
    refine ⟨⟨by omega, by omega, by omega, by omega, fun i j hij hj => ?_⟩, by rw [if_pos q]; omega, fun x => ?_⟩
    · by_cases c1 : j < m
      · rw [b2 i (by omega), b2 j c1]; exact i5 i j hij (by omega)
      · by_cases c2 : j = m
        · subst c2
          rw [b3]
          by_cases c3 : i = j
          · subst c3; rw [b3]; exact Int.le_refl _
          · rw [b2 i (by omega)]; exact m2 i (by omega)
        · obtain ⟨j', rfl⟩ : ∃ j', j = j' + 1 := ⟨j - 1, by omega⟩
          rw [b4 j' (by omega) (by omega)]
          by_cases c3 : i < m
          · rw [b2 i c3]; exact i5 i j' (by omega) (by omega)
          · by_cases c4 : i = m
            · subst c4; rw [b3]; have := m3 j' (by omega) (by omega); omega
            · obtain ⟨i', rfl⟩ : ∃ i', i = i' + 1 := ⟨i - 1, by omega⟩
              rw [b4 i' (by omega) (by omega)]; exact i5 i' j' (by omega) (by omega)
    · obtain ⟨d, hd2⟩ : ∃ d, ct.toInt.toNat = m + d := ⟨ct.toInt.toNat - m, by omega⟩
      have := own_cntins (x := x) b2 b3 d (fun i p r => b4 i p (by omega))
      rw [show ct'.toInt.toNat = m + d + 1 by omega, this, hd2]
      simp [q]
  · rw [if_neg q] at e1 e2 e3
    subst e1 e2 e3
    exact ⟨hI, by rw [if_neg q]; omega, fun x => by simp [q]⟩
theorem own_inv0 : own_Inv (fun _ => (0 : Int32)) (4 : Int32) (0 : Int32) := ⟨by decide, by decide, by decide, by decide, fun i j _ hj => absurd hj (Nat.not_lt_zero _)⟩
theorem own_inc1 {i : Int32} (h : 0 ≤ i.toInt ∧ i.toInt ≤ 1000) : (i + (1 : Int32)).toInt = i.toInt + 1 := by
  have e : (1 : Int32).toInt = 1 := rfl
  have := c_iadd i (1 : Int32); have := rng32 (i + (1 : Int32)); omega
theorem own_sub1 (a : Int32) : ((a - a) - (1 : Int32)) = (-1 : Int32) := by
  rw [Int32.sub_self]; rfl
section OwnS
variable {f : Nat → Int32} {hd ct x a : Int32}
theorem own_ix1 (hI : own_Inv f hd ct) (hz : (0 : Int32) < ct) : 0 ≤ ((hd + ct) - (1 : Int32)).toInt ∧ ((hd + ct) - (1 : Int32)).toInt < (8 : Nat) := by
  have e0 : (0 : Int32).toInt = 0 := rfl
  have e1 : (1 : Int32).toInt = 1 := rfl
  rw [Int32.lt_iff_toInt_lt] at hz
  obtain ⟨i1, i2, i3, i4, -⟩ := hI
  have := own_add (a := hd) (b := ct) (by omega) (by omega) (by omega) (by omega)
  have := own_sub (a := hd + ct) (b := (1 : Int32)) (by omega) (by omega) (by omega) (by omega)
  omega
theorem own_ix2 (hI : own_Inv f hd ct) (hz : (0 : Int32) < ct) : 0 ≤ hd.toInt ∧ hd.toInt < (8 : Nat) := by
  obtain ⟨i1, i2, i3, i4, -⟩ := hI; omega
theorem own_ix3 {lo hi : Int32} {k : Nat} (hI : own_Inv f hd ct) (hb : 0 ≤ lo.toInt ∧ lo.toInt ≤ hi.toInt ∧ hi.toInt ≤ ct.toInt ∧ hi.toInt - lo.toInt ≤ k) (hlt : lo.toInt < hi.toInt) : 0 ≤ (hd + (((lo + hi).toUInt32 >>> ((1 : Int32) &&& 31).toUInt32).toInt32)).toInt ∧ (hd + (((lo + hi).toUInt32 >>> ((1 : Int32) &&& 31).toUInt32).toInt32)).toInt < (8 : Nat) := by
  obtain ⟨i1, i2, i3, i4, -⟩ := hI
  have := own_mid hb.1 hlt (by omega)
  have := own_add (a := hd) (b := (((lo + hi).toUInt32 >>> ((1 : Int32) &&& 31).toUInt32).toInt32)) (by omega) (by omega) (by omega) (by omega)
  omega
theorem own_i0 (hI : own_Inv f hd ct) (hz : ¬ (0 : Int32) < ct) : (0 ≤ (0 : Int32).toInt ∧ (0 : Int32).toInt ≤ ct.toInt ∧ ct.toInt ≤ ct.toInt ∧ ct.toInt - (0 : Int32).toInt ≤ (8 : Nat)) ∧ own_lo f hd.toInt.toNat x (0 : Int32).toInt.toNat ∧ own_hi f hd.toInt.toNat ct.toInt.toNat x ct.toInt.toNat := by
  have e0 : (0 : Int32).toInt = 0 := rfl
  obtain ⟨i1, i2, i3, i4, -⟩ := hI
  exact ⟨by omega, fun i hi => absurd hi (Nat.not_lt_zero _), fun i a b => by omega⟩
theorem own_i3 (hI : own_Inv f hd ct) (hz : (0 : Int32) < ct) : (0 ≤ (0 : Int32).toInt ∧ (0 : Int32).toInt ≤ ct.toInt ∧ ct.toInt ≤ ct.toInt ∧ ct.toInt - (0 : Int32).toInt ≤ (8 : Nat)) ∧ own_lo f hd.toInt.toNat x (0 : Int32).toInt.toNat ∧ own_hi f hd.toInt.toNat ct.toInt.toNat x ct.toInt.toNat := by
  have e0 : (0 : Int32).toInt = 0 := rfl
  obtain ⟨i1, i2, i3, i4, -⟩ := hI
  exact ⟨by omega, fun i hi => absurd hi (Nat.not_lt_zero _), fun i a b => by omega⟩
theorem own_last (hI : own_Inv f hd ct) (hz : (0 : Int32) < ct) : ((hd + ct) - (1 : Int32)).toInt.toNat = hd.toInt.toNat + (ct.toInt.toNat - 1) := by
  have e0 : (0 : Int32).toInt = 0 := rfl
  have e1 : (1 : Int32).toInt = 1 := rfl
  rw [Int32.lt_iff_toInt_lt] at hz
  obtain ⟨i1, i2, i3, i4, -⟩ := hI
  have := own_add (a := hd) (b := ct) (by omega) (by omega) (by omega) (by omega)
  have := own_sub (a := hd + ct) (b := (1 : Int32)) (by omega) (by omega) (by omega) (by omega)
  omega
theorem own_i1 (hI : own_Inv f hd ct) (hz : (0 : Int32) < ct) (hl : ¬ x < (f ((hd + ct) - (1 : Int32)).toInt.toNat)) : (0 ≤ ct.toInt ∧ ct.toInt ≤ ct.toInt ∧ ct.toInt ≤ ct.toInt ∧ ct.toInt - ct.toInt ≤ (8 : Nat)) ∧ own_lo f hd.toInt.toNat x ct.toInt.toNat ∧ own_hi f hd.toInt.toNat ct.toInt.toNat x ct.toInt.toNat := by
  rw [own_last hI hz, Int32.lt_iff_toInt_lt] at hl
  obtain ⟨i1, i2, i3, i4, i5⟩ := hI
  refine ⟨by omega, fun i hi => ?_, fun i a b => by omega⟩
  have := i5 i (ct.toInt.toNat - 1) (by omega) (by omega)
  omega
theorem own_i2 (hI : own_Inv f hd ct) (hz : (0 : Int32) < ct) (hf : x < (f hd.toInt.toNat)) : (0 ≤ (0 : Int32).toInt ∧ (0 : Int32).toInt ≤ (0 : Int32).toInt ∧ (0 : Int32).toInt ≤ ct.toInt ∧ (0 : Int32).toInt - (0 : Int32).toInt ≤ (8 : Nat)) ∧ own_lo f hd.toInt.toNat x (0 : Int32).toInt.toNat ∧ own_hi f hd.toInt.toNat ct.toInt.toNat x (0 : Int32).toInt.toNat := by
  have e0 : (0 : Int32).toInt = 0 := rfl
  rw [Int32.lt_iff_toInt_lt] at hf
  obtain ⟨i1, i2, i3, i4, i5⟩ := hI
  refine ⟨by omega, fun i hi => absurd hi (Nat.not_lt_zero _), fun i a b => ?_⟩
  have := i5 0 i (by omega) (by omega)
  rw [Nat.add_zero] at this; omega
theorem own_lo1 {m : Int32} (hI : own_Inv f hd ct) (h0 : 0 ≤ m.toInt) (h1 : m.toInt < ct.toInt) (hg : ¬ x < (f (hd + m).toInt.toNat)) : own_lo f hd.toInt.toNat x (m + (1 : Int32)).toInt.toNat := by
  obtain ⟨i1, i2, i3, i4, i5⟩ := hI
  have e := own_add (a := hd) (b := m) (by omega) (by omega) (by omega) (by omega)
  have e2 := own_inc1 (i := m) (by omega)
  rw [Int32.lt_iff_toInt_lt, show (hd + m).toInt.toNat = hd.toInt.toNat + m.toInt.toNat by omega] at hg
  intro i hi
  have := i5 i m.toInt.toNat (by omega) (by omega)
  omega
theorem own_hi1 {m : Int32} (hI : own_Inv f hd ct) (h0 : 0 ≤ m.toInt) (h1 : m.toInt < ct.toInt) (hg : x < (f (hd + m).toInt.toNat)) : own_hi f hd.toInt.toNat ct.toInt.toNat x m.toInt.toNat := by
  obtain ⟨i1, i2, i3, i4, i5⟩ := hI
  have e := own_add (a := hd) (b := m) (by omega) (by omega) (by omega) (by omega)
  rw [Int32.lt_iff_toInt_lt, show (hd + m).toInt.toNat = hd.toInt.toNat + m.toInt.toNat by omega] at hg
  intro i a b
  have := i5 m.toInt.toNat i (by omega) (by omega)
  omega
theorem own_hi2 {H c n m : Nat} (h : own_hi f H c x n) (e : n = m) : own_hi f H c x m := e ▸ h
theorem own_ab (hI : own_Inv f hd ct) : 0 ≤ (own_a f hd ct x).toInt ∧ (own_a f hd ct x).toInt ≤ ct.toInt := by
  have := own_cntle f hd.toInt.toNat x ct.toInt.toNat
  obtain ⟨i1, i2, i3, i4, -⟩ := hI
  unfold own_a
  rw [Int32.toInt_ofNat_of_lt (by omega)]; omega
theorem own_hz (hI : own_Inv f hd ct) (hc : ct.toInt ≤ 3) : ¬ hd = (0 : Int32) := by
  intro q; have := hI.2.2.1; rw [q] at this; have e0 : (0 : Int32).toInt = 0 := rfl; omega
theorem own_fl (hI : own_Inv f hd ct) (hc : ct.toInt ≤ 3) : ¬ (hd + ct) = (Nat.toInt32 8) := by
  intro q
  obtain ⟨i1, i2, i3, i4, -⟩ := hI
  have e := own_add (a := hd) (b := ct) (by omega) (by omega) (by omega) (by omega)
  rw [q, show (Nat.toInt32 8).toInt = 8 from rfl] at e
  omega
theorem own_cb1 (hI : own_Inv f hd ct) (hc : ct.toInt ≤ 3) (ha : 0 ≤ a.toInt ∧ a.toInt ≤ ct.toInt) (hba : ¬ (ct - a) < a) : 0 ≤ hd.toInt ∧ 0 ≤ (hd + (-1 : Int32)).toInt ∧ 0 ≤ a.toInt ∧ hd.toInt + a.toInt ≤ (8 : Nat) ∧ (hd + (-1 : Int32)).toInt + a.toInt ≤ (8 : Nat) := by
  obtain ⟨i1, i2, i3, i4, -⟩ := hI
  have := own_m1 (a := hd) (by omega) (by omega)
  omega
theorem own_cb2 (hI : own_Inv f hd ct) (hc : ct.toInt ≤ 3) (ha : 0 ≤ a.toInt ∧ a.toInt ≤ ct.toInt) (hba : (ct - a) < a) : 0 ≤ (hd + a).toInt ∧ 0 ≤ ((hd + a) - (-1 : Int32)).toInt ∧ 0 ≤ (ct - a).toInt ∧ (hd + a).toInt + (ct - a).toInt ≤ (8 : Nat) ∧ ((hd + a) - (-1 : Int32)).toInt + (ct - a).toInt ≤ (8 : Nat) := by
  obtain ⟨i1, i2, i3, i4, -⟩ := hI
  have := own_add (a := hd) (b := a) (by omega) (by omega) (by omega) (by omega)
  have := own_sub (a := ct) (b := a) (by omega) (by omega) (by omega) (by omega)
  have := own_p1 (a := hd + a) (by omega) (by omega)
  omega
theorem own_wi1 (hI : own_Inv f hd ct) (hc : ct.toInt ≤ 3) (ha : 0 ≤ a.toInt ∧ a.toInt ≤ ct.toInt) (hba : ¬ (ct - a) < a) : 0 ≤ ((hd + (-1 : Int32)) + a).toInt ∧ ((hd + (-1 : Int32)) + a).toInt < (8 : Nat) := by
  obtain ⟨i1, i2, i3, i4, -⟩ := hI
  have := own_m1 (a := hd) (by omega) (by omega)
  have := own_add (a := hd + (-1 : Int32)) (b := a) (by omega) (by omega) (by omega) (by omega)
  omega
theorem own_wi2 (hI : own_Inv f hd ct) (hc : ct.toInt ≤ 3) (ha : 0 ≤ a.toInt ∧ a.toInt ≤ ct.toInt) (hba : (ct - a) < a) : 0 ≤ (hd + a).toInt ∧ (hd + a).toInt < (8 : Nat) := by
  obtain ⟨i1, i2, i3, i4, -⟩ := hI
  have := own_add (a := hd) (b := a) (by omega) (by omega) (by omega) (by omega)
  omega
end OwnS
def own_Q1 (Z : State) (p0 : Addr)  (h0 : Heap) (n0 : Nat) (v : Option Value) (h : Heap) (L : List Loc) : Prop := ∃ (rs : Addr) (re : Addr), v = none ∧ Fr n0 L ∧ Keep h0 h [p0] ∧ n0 ≤ rs ∧ n0 ≤ re ∧ h0.size ≤ rs ∧ h0.size ≤ re ∧ Exa Z h p0 "com/example/honeyguide/honeyguide/Spans" ∧ Fld Z h p0 "com/example/honeyguide/honeyguide/Spans" "head" "I" (.int (4 : Int32)) ∧ Fld Z h p0 "com/example/honeyguide/honeyguide/Spans" "count" "I" (.int (0 : Int32)) ∧ Fld Z h p0 "com/example/honeyguide/honeyguide/Spans" "starts" "[I" (.ref rs) ∧ Fld Z h p0 "com/example/honeyguide/honeyguide/Spans" "ends" "[I" (.ref re) ∧ own_A Z h rs .int 8 (fun _ => (0 : Int32)) ∧ own_A Z h re .int 8 (fun _ => (0 : Int32)) ∧ rs ≠ re
theorem d1_0 : decode prog_161_method_1_code 0 = .ok (.aload_n 0, 1) := by decide +kernel
theorem d1_1 : decode prog_161_method_1_code 1 = .ok (.invokespecial 1, 3) := by decide +kernel
theorem d1_4 : decode prog_161_method_1_code 4 = .ok (.aload_n 0, 1) := by decide +kernel
theorem d1_5 : decode prog_161_method_1_code 5 = .ok (.bipush 8, 2) := by decide +kernel
theorem d1_7 : decode prog_161_method_1_code 7 = .ok (.newarray .int, 2) := by decide +kernel
theorem d1_9 : decode prog_161_method_1_code 9 = .ok (.putfield 7, 3) := by decide +kernel
theorem d1_12 : decode prog_161_method_1_code 12 = .ok (.aload_n 0, 1) := by decide +kernel
theorem d1_13 : decode prog_161_method_1_code 13 = .ok (.bipush 8, 2) := by decide +kernel
theorem d1_15 : decode prog_161_method_1_code 15 = .ok (.newarray .int, 2) := by decide +kernel
theorem d1_17 : decode prog_161_method_1_code 17 = .ok (.putfield 13, 3) := by decide +kernel
theorem d1_20 : decode prog_161_method_1_code 20 = .ok (.aload_n 0, 1) := by decide +kernel
theorem d1_21 : decode prog_161_method_1_code 21 = .ok (.iconst 4, 1) := by decide +kernel
theorem d1_22 : decode prog_161_method_1_code 22 = .ok (.putfield 16, 3) := by decide +kernel
theorem d1_25 : decode prog_161_method_1_code 25 = .ok (.return_, 1) := by decide +kernel
theorem pn_com_example_honeyguide_honeyguide_Spans : plainName "com/example/honeyguide/honeyguide/Spans" = true := by first | (simp [plainName, overriddenIn]; done) | decide +kernel
theorem ef_1 (m : MethodId) (p0 : Addr) : entryFrame m #[(.ref p0)] 1 = mkF m 0 #[.val (.ref p0)] [] := by first | (simp [entryFrame, mkF, argsToLocals, Value.category]; done) | rfl
set_option maxRecDepth 65536 in
set_option maxHeartbeats 40000000 in
theorem rm1 (l : Launch) (Z : State) (a0 : Array Value) (hw : ∀ d ∈ tables_1, d.before a0 Z = true) (ws : List Jvm.Cond) (p0 : Addr) (h0 : Heap) (n0 : Nat) (Z0 : n0 ≤ h0.size) (P0 : Fld Z h0 p0 "com/example/honeyguide/honeyguide/Spans" "starts" "[I" .null) (P1 : Fld Z h0 p0 "com/example/honeyguide/honeyguide/Spans" "ends" "[I" .null) (P2 : Fld Z h0 p0 "com/example/honeyguide/honeyguide/Spans" "head" "I" (.int (0 : Int32))) (P3 : Fld Z h0 p0 "com/example/honeyguide/honeyguide/Spans" "count" "I" (.int (0 : Int32))) (P4 : Exa Z h0 p0 "com/example/honeyguide/honeyguide/Spans") (gg_p0 : n0 ≤ p0) :
    MetFree l (⟨"com/example/honeyguide/honeyguide/Spans", "<init>", "()V"⟩ : MethodName) (head1 (Jvm.Cond.code (⟨"com/example/honeyguide/honeyguide/Spans", "<init>", "()V"⟩ : MethodName) prog_161_method_1_code 1 none :: ws) ({ frames := 1, cells := 2, slots := 16, locals := 12 } : Room)) (fun a U => a = #[(.ref p0)] ∧ Z.Warmed39 U.vm ∧ U.heap = h0) (fun _ _ _ _ _ => True) (fun _ U o U' => ∃ v L, o = .returned v ∧ (own_Q1 Z p0  h0 n0) v U'.heap L ∧ FrameEnd U o U' L ({ frames := 1, cells := 2, slots := 16, locals := 12 } : Room).cells ({ frames := 1, cells := 2, slots := 16, locals := 12 } : Room).slots) := by
  refine MetFree.of_bodySF (plainFor_of_name pn_com_example_honeyguide_honeyguide_Spans) hisR ?_
  intro p e s m args below meth c s₁ Bd hml0 hP hK
  obtain ⟨rfl, hZ, hh⟩ := hP
  have hx := Bd.exec
  have hby := Bd.bytes
  have hml : c.maxLocals = 1 := hml0
  have hown : s.vm.findClass "com/example/honeyguide/honeyguide/Spans" = some m.cls := findClass_of_methodNamed Bd.named
  have hnm := (name_of_methodNamed Bd.named Bd.method).1
  have X0 : Stand p l e ({ frames := 1, cells := 2, slots := 16, locals := 12 } : Room) s m #[(.ref p0)] below meth c s₁ [] 0 0 := Stand.of_body Bd
  have e0 : s₁.heap = h0 := by rw [← hh, Bd.state]; rfl
  have N0 := Fr.nil n0
  refine own_body (QQ := (own_Q1 Z p0  h0 n0)) (ef_1 m p0) ?_
  refine own_via (s₁.setTop (mkF m 1 #[.val (.ref p0)] [(.ref p0)])) (fun t k => XS.aloadN X0.here hx rfl (hb hby d1_0) rfl rfl k) ?_
  obtain ⟨T1, X1, e1, st1⟩ := initO X0 hx hZ hown (hw _ (List.mem_of_getElem? (i := 10) rfl)) (hw _ (List.mem_of_getElem? (i := 11) rfl)) (hw _ (List.mem_of_getElem? (i := 12) rfl)) e0 (g := (mkF m 1 #[.val (.ref p0)] [(.ref p0)])) rfl (by rw [hml]; rfl) rfl (hb hby d1_1) (by decide) (W := 0) (by show 2 * 0 + _ ≤ _; exact Nat.le_of_eq rfl) (by decide)
  refine own_via (T1.setTop (mkF m 4 #[.val (.ref p0)] [])) (fun t k => st1 t k) ?_
  refine own_via (T1.setTop (mkF m 5 #[.val (.ref p0)] [(.ref p0)])) (fun t k => XS.aloadN X1.here hx rfl (hb hby d1_4) rfl rfl k) ?_
  refine own_via (T1.setTop (mkF m 7 #[.val (.ref p0)] [(.int (8 : Int32)), (.ref p0)])) (fun t k => XS.bipush X1.here hx rfl (hb hby d1_5) k) ?_
  obtain ⟨T2, h2, k2, X2, e2, E2, A2, st2⟩ := newP X1 hx hZ (hw _ (List.mem_of_getElem? (i := 3) rfl)) e1 (g := (mkF m 7 #[.val (.ref p0)] [(.int (8 : Int32)), (.ref p0)])) rfl (hb hby d1_7) rfl (by decide) (cap := 8) (by decide) (by decide) (by decide) (by decide)
  obtain ⟨b2, g2⟩ : ∃ z, z = h0.size := ⟨_, rfl⟩
  rw [← g2] at A2 st2
  have gg_b2 : n0 ≤ b2 := Nat.le_trans (Nat.le_trans Z0 (Keep.refl h0 [p0]).1) (Nat.le_of_eq g2.symm)
  have sz_b2 : h0.size ≤ b2 := Nat.le_trans (Keep.refl h0 [p0]).1 (Nat.le_of_eq g2.symm)
  have ne_p0_b2 : p0 ≠ b2 := Nat.ne_of_lt (Nat.lt_of_lt_of_le P0.lt (Nat.le_of_eq g2.symm))
  have V2 : Arv Z h2 b2 k2 .int (8 : Int32) [(.int (0 : Int32)), (.int (0 : Int32)), (.int (0 : Int32)), (.int (0 : Int32)), (.int (0 : Int32)), (.int (0 : Int32)), (.int (0 : Int32)), (.int (0 : Int32))] (.int (0 : Int32)) := (Arv.new A2 (by decide)).pad (pad_rep [] (.int (0 : Int32)) 8)
  have K3 : Keep h0 h2 [p0] := (Keep.refl h0 [p0]).ext E2
  have U2 : own_A Z h2 b2 .int 8 (fun _ => (0 : Int32)) := own_A.of (f := fun _ => (0 : Int32)) V2 (fun i hi => by rcases i with _ | _ | _ | _ | _ | _ | _ | _ | _ <;> first | rfl | simp)
  refine own_via (T2.setTop (mkF m 9 #[.val (.ref p0)] [(.ref b2), (.ref p0)])) (fun t k => st2 t k) ?_
  have F5 := (P0.ext E2)
  have F6 := (P4.ext E2)
  obtain ⟨T4, h4, X4, e4, W4, st4⟩ := putF X2 hx hZ hown (host := "") (Or.inl (hw _ (List.mem_of_getElem? (i := 13) rfl))) Via.refl e2 F5 F6 (Or.inl (hw _ (List.mem_of_getElem? (i := 14) rfl))) (hw _ (List.mem_of_getElem? (i := 5) rfl)) (ty := (.array .int)) (by decide) rfl rfl (g := (mkF m 9 #[.val (.ref p0)] [(.ref b2), (.ref p0)])) rfl rfl (hb hby d1_9)
  have Fw4 := F5.same W4
  have N4 := Fr.snoc X4 N0 gg_p0
  have K7 : Keep h0 h4 [p0] := K3.wr W4 (Or.inl (List.mem_of_getElem? (i := 0) rfl))
  refine own_via (T4.setTop (mkF m 12 #[.val (.ref p0)] [])) (fun t k => st4 t k) ?_
  refine own_via (T4.setTop (mkF m 13 #[.val (.ref p0)] [(.ref p0)])) (fun t k => XS.aloadN X4.here hx rfl (hb hby d1_12) rfl rfl k) ?_
  refine own_via (T4.setTop (mkF m 15 #[.val (.ref p0)] [(.int (8 : Int32)), (.ref p0)])) (fun t k => XS.bipush X4.here hx rfl (hb hby d1_13) k) ?_
  obtain ⟨T8, h8, k8, X8, e8, E8, A8, st8⟩ := newP X4 hx hZ (hw _ (List.mem_of_getElem? (i := 3) rfl)) e4 (g := (mkF m 15 #[.val (.ref p0)] [(.int (8 : Int32)), (.ref p0)])) rfl (hb hby d1_15) rfl (by decide) (cap := 8) (by decide) (by decide) (by decide) (by decide)
  obtain ⟨b8, g8⟩ : ∃ z, z = h4.size := ⟨_, rfl⟩
  rw [← g8] at A8 st8
  have gg_b8 : n0 ≤ b8 := Nat.le_trans (Nat.le_trans Z0 K7.1) (Nat.le_of_eq g8.symm)
  have sz_b8 : h0.size ≤ b8 := Nat.le_trans K7.1 (Nat.le_of_eq g8.symm)
  have ne_p0_b8 : p0 ≠ b8 := Nat.ne_of_lt (Nat.lt_of_lt_of_le Fw4.lt (Nat.le_of_eq g8.symm))
  have ne_b2_b8 : b2 ≠ b8 := Nat.ne_of_lt (Nat.lt_of_lt_of_le (U2.other W4 (Ne.symm ne_p0_b2)).lt (Nat.le_of_eq g8.symm))
  have V8 : Arv Z h8 b8 k8 .int (8 : Int32) [(.int (0 : Int32)), (.int (0 : Int32)), (.int (0 : Int32)), (.int (0 : Int32)), (.int (0 : Int32)), (.int (0 : Int32)), (.int (0 : Int32)), (.int (0 : Int32))] (.int (0 : Int32)) := (Arv.new A8 (by decide)).pad (pad_rep [] (.int (0 : Int32)) 8)
  have K9 : Keep h0 h8 [p0] := K7.ext E8
  have U8 : own_A Z h8 b8 .int 8 (fun _ => (0 : Int32)) := own_A.of (f := fun _ => (0 : Int32)) V8 (fun i hi => by rcases i with _ | _ | _ | _ | _ | _ | _ | _ | _ <;> first | rfl | simp)
  refine own_via (T8.setTop (mkF m 17 #[.val (.ref p0)] [(.ref b8), (.ref p0)])) (fun t k => st8 t k) ?_
  have F11 := (((P1.ext E2).other W4 (Or.inr (slot_ne (Or.inl (hw _ (List.mem_of_getElem? (i := 16) rfl))) (Or.inl (hw _ (List.mem_of_getElem? (i := 14) rfl))) (by decide) (t := (.array .int)) (t' := (.array .int)) (by decide) (by decide)))).ext E8)
  have F12 := ((F6.wr W4).ext E8)
  obtain ⟨T10, h10, X10, e10, W10, st10⟩ := putF X8 hx hZ hown (host := "") (Or.inl (hw _ (List.mem_of_getElem? (i := 15) rfl))) Via.refl e8 F11 F12 (Or.inl (hw _ (List.mem_of_getElem? (i := 16) rfl))) (hw _ (List.mem_of_getElem? (i := 5) rfl)) (ty := (.array .int)) (by decide) rfl rfl (g := (mkF m 17 #[.val (.ref p0)] [(.ref b8), (.ref p0)])) rfl rfl (hb hby d1_17)
  have Fw10 := F11.same W10
  have N10 := Fr.snoc X10 N4 gg_p0
  have K13 : Keep h0 h10 [p0] := K9.wr W10 (Or.inl (List.mem_of_getElem? (i := 0) rfl))
  refine own_via (T10.setTop (mkF m 20 #[.val (.ref p0)] [])) (fun t k => st10 t k) ?_
  refine own_via (T10.setTop (mkF m 21 #[.val (.ref p0)] [(.ref p0)])) (fun t k => XS.aloadN X10.here hx rfl (hb hby d1_20) rfl rfl k) ?_
  refine own_via (T10.setTop (mkF m 22 #[.val (.ref p0)] [(.int (4 : Int32)), (.ref p0)])) (fun t k => XS.iconst X10.here hx rfl (hb hby d1_21) k) ?_
  have F15 := ((((P2.ext E2).other W4 (Or.inr (slot_ne (Or.inl (hw _ (List.mem_of_getElem? (i := 18) rfl))) (Or.inl (hw _ (List.mem_of_getElem? (i := 14) rfl))) (by decide) (t := .int) (t' := (.array .int)) (by decide) (by decide)))).ext E8).other W10 (Or.inr (slot_ne (Or.inl (hw _ (List.mem_of_getElem? (i := 18) rfl))) (Or.inl (hw _ (List.mem_of_getElem? (i := 16) rfl))) (by decide) (t := .int) (t' := (.array .int)) (by decide) (by decide))))
  have F16 := (F12.wr W10)
  obtain ⟨T14, h14, X14, e14, W14, st14⟩ := putF X10 hx hZ hown (host := "") (Or.inl (hw _ (List.mem_of_getElem? (i := 17) rfl))) Via.refl e10 F15 F16 (Or.inl (hw _ (List.mem_of_getElem? (i := 18) rfl))) (hw _ (List.mem_of_getElem? (i := 5) rfl)) (ty := .int) (by decide) rfl rfl (g := (mkF m 22 #[.val (.ref p0)] [(.int (4 : Int32)), (.ref p0)])) rfl rfl (hb hby d1_22)
  have Fw14 := F15.same W14
  have N14 := Fr.snoc X14 N10 gg_p0
  have K17 : Keep h0 h14 [p0] := K13.wr W14 (Or.inl (List.mem_of_getElem? (i := 0) rfl))
  refine own_via (T14.setTop (mkF m 25 #[.val (.ref p0)] [])) (fun t k => st14 t k) ?_
  refine own_leave X14 Bd.notSynchronized (v := none) (fun _ => rfl) (fun fs hr => X14.returnOut hx Bd.returns (hb hby d1_25) hr) ?_ (by decide) (by decide)
  have F18 := (F16.wr W14)
  have F19 := (((((P3.ext E2).other W4 (Or.inr (slot_ne (Or.inl (hw _ (List.mem_of_getElem? (i := 33) rfl))) (Or.inl (hw _ (List.mem_of_getElem? (i := 14) rfl))) (by decide) (t := .int) (t' := (.array .int)) (by decide) (by decide)))).ext E8).other W10 (Or.inr (slot_ne (Or.inl (hw _ (List.mem_of_getElem? (i := 33) rfl))) (Or.inl (hw _ (List.mem_of_getElem? (i := 16) rfl))) (by decide) (t := .int) (t' := (.array .int)) (by decide) (by decide)))).other W14 (Or.inr (slot_ne (Or.inl (hw _ (List.mem_of_getElem? (i := 33) rfl))) (Or.inl (hw _ (List.mem_of_getElem? (i := 18) rfl))) (by decide) (t := .int) (t' := .int) (by decide) (by decide))))
  have F20 := (((Fw4.ext E8).other W10 (Or.inr (slot_ne (Or.inl (hw _ (List.mem_of_getElem? (i := 14) rfl))) (Or.inl (hw _ (List.mem_of_getElem? (i := 16) rfl))) (by decide) (t := (.array .int)) (t' := (.array .int)) (by decide) (by decide)))).other W14 (Or.inr (slot_ne (Or.inl (hw _ (List.mem_of_getElem? (i := 14) rfl))) (Or.inl (hw _ (List.mem_of_getElem? (i := 18) rfl))) (by decide) (t := (.array .int)) (t' := .int) (by decide) (by decide))))
  have F21 := (Fw10.other W14 (Or.inr (slot_ne (Or.inl (hw _ (List.mem_of_getElem? (i := 16) rfl))) (Or.inl (hw _ (List.mem_of_getElem? (i := 18) rfl))) (by decide) (t := (.array .int)) (t' := .int) (by decide) (by decide))))
  have F22 := ((((U2.other W4 (Ne.symm ne_p0_b2)).ext E8).other W10 (Ne.symm ne_p0_b2)).other W14 (Ne.symm ne_p0_b2))
  have F23 := ((U8.other W10 (Ne.symm ne_p0_b8)).other W14 (Ne.symm ne_p0_b8))
  show (own_Q1 Z p0  h0 n0) _ T14.heap _
  rw [e14]
  exact ⟨b2, b8, rfl, N14, K17, gg_b2, gg_b8, sz_b2, sz_b8, F18, Fw14, F19, F20, F21, F22, F23, ne_b2_b8⟩
def own_f5 (ct : Int32) : Int32 := ct
def own_Q5 (Z : State) (p0 : Addr) (ct : Int32) (h0 : Heap) (n0 : Nat) (v : Option Value) (h : Heap) (L : List Loc) : Prop := v = some (.int (own_f5 ct)) ∧ Fr n0 L ∧ h = h0
theorem d5_0 : decode prog_161_method_2_code 0 = .ok (.aload_n 0, 1) := by decide +kernel
theorem d5_1 : decode prog_161_method_2_code 1 = .ok (.getfield 20, 3) := by decide +kernel
theorem d5_4 : decode prog_161_method_2_code 4 = .ok (.ireturn, 1) := by decide +kernel
theorem ef_5 (m : MethodId) (p0 : Addr) : entryFrame m #[(.ref p0)] 1 = mkF m 0 #[.val (.ref p0)] [] := by first | (simp [entryFrame, mkF, argsToLocals, Value.category]; done) | rfl
set_option maxRecDepth 65536 in
set_option maxHeartbeats 40000000 in
theorem rm5 (l : Launch) (Z : State) (a0 : Array Value) (hw : ∀ d ∈ tables_1, d.before a0 Z = true) (ws : List Jvm.Cond) (p0 : Addr) (h0 : Heap) (n0 : Nat) (Z0 : n0 ≤ h0.size) (ct : Int32) (P0 : Fld Z h0 p0 "com/example/honeyguide/honeyguide/Spans" "count" "I" (.int ct)) :
    MetFree l (⟨"com/example/honeyguide/honeyguide/Spans", "count", "()I"⟩ : MethodName) (head1 (Jvm.Cond.code (⟨"com/example/honeyguide/honeyguide/Spans", "count", "()I"⟩ : MethodName) prog_161_method_2_code 1 (some .int) :: ws) ({ frames := 0, cells := 0, slots := 0, locals := 0 } : Room)) (fun a U => a = #[(.ref p0)] ∧ Z.Warmed39 U.vm ∧ U.heap = h0) (fun _ _ _ _ _ => True) (fun _ U o U' => ∃ v L, o = .returned v ∧ (own_Q5 Z p0 ct h0 n0) v U'.heap L ∧ FrameEnd U o U' L ({ frames := 0, cells := 0, slots := 0, locals := 0 } : Room).cells ({ frames := 0, cells := 0, slots := 0, locals := 0 } : Room).slots) := by
  refine MetFree.of_bodySF (plainFor_of_name pn_com_example_honeyguide_honeyguide_Spans) hisR ?_
  intro p e s m args below meth c s₁ Bd hml0 hP hK
  obtain ⟨rfl, hZ, hh⟩ := hP
  have hx := Bd.exec
  have hby := Bd.bytes
  have hml : c.maxLocals = 1 := hml0
  have hown : s.vm.findClass "com/example/honeyguide/honeyguide/Spans" = some m.cls := findClass_of_methodNamed Bd.named
  have hnm := (name_of_methodNamed Bd.named Bd.method).1
  have X0 : Stand p l e ({ frames := 0, cells := 0, slots := 0, locals := 0 } : Room) s m #[(.ref p0)] below meth c s₁ [] 0 0 := Stand.of_body Bd
  have e0 : s₁.heap = h0 := by rw [← hh, Bd.state]; rfl
  have N0 := Fr.nil n0
  refine own_body (QQ := (own_Q5 Z p0 ct h0 n0)) (ef_5 m p0) ?_
  refine own_via (s₁.setTop (mkF m 1 #[.val (.ref p0)] [(.ref p0)])) (fun t k => XS.aloadN X0.here hx rfl (hb hby d5_0) rfl rfl k) ?_
  obtain ⟨T25, X25, e25, st25⟩ := getF X0 hx hZ hown (host := "") (Or.inl (hw _ (List.mem_of_getElem? (i := 32) rfl))) Via.refl e0 P0 (g := (mkF m 1 #[.val (.ref p0)] [(.ref p0)])) rfl rfl (hb hby d5_1)
  refine own_via (T25.setTop (mkF m 4 #[.val (.ref p0)] [(.int ct)])) (fun t k => st25 t k) ?_
  refine own_leave X25 Bd.notSynchronized (v := some (.int ct)) (fun h => by rw [Bd.returns] at h; cases h) (fun fs hr => retI X25 hx Bd.returns (hb hby d5_4) hr) ?_ (by decide) (by decide)
  exact ⟨(by show some (Value.int _) = some (Value.int _); unfold own_f5; rfl), N0, e25⟩
def own_f4 (p1 : Int32) (p2 : Int32) (p3 : Int32) (f : Nat → Int32) : Int32 := (if p1 < p2 then (if p3 < (f p1.toInt.toNat) then (0 : Int32) else (1 : Int32)) else (0 : Int32))
def own_Q4 (Z : State) (p0 : Addr) (p1 : Int32) (p2 : Int32) (p3 : Int32) (f : Nat → Int32) (h0 : Heap) (n0 : Nat) (v : Option Value) (h : Heap) (L : List Loc) : Prop := v = some (.int (own_f4 p1 p2 p3 f)) ∧ Fr n0 L ∧ h = h0
theorem d4_0 : decode method_4_code 0 = .ok (.iload_n 1, 1) := by decide +kernel
theorem d4_1 : decode method_4_code 1 = .ok (.iload_n 2, 1) := by decide +kernel
theorem d4_2 : decode method_4_code 2 = .ok (.if_icmp .ge 14, 3) := by decide +kernel
theorem d4_5 : decode method_4_code 5 = .ok (.aload_n 0, 1) := by decide +kernel
theorem d4_6 : decode method_4_code 6 = .ok (.iload_n 1, 1) := by decide +kernel
theorem d4_7 : decode method_4_code 7 = .ok (.iaload, 1) := by decide +kernel
theorem d4_8 : decode method_4_code 8 = .ok (.iload_n 3, 1) := by decide +kernel
theorem d4_9 : decode method_4_code 9 = .ok (.if_icmp .gt 7, 3) := by decide +kernel
theorem d4_12 : decode method_4_code 12 = .ok (.iconst 1, 1) := by decide +kernel
theorem d4_13 : decode method_4_code 13 = .ok (.goto 4, 3) := by decide +kernel
theorem d4_16 : decode method_4_code 16 = .ok (.iconst 0, 1) := by decide +kernel
theorem d4_17 : decode method_4_code 17 = .ok (.ireturn, 1) := by decide +kernel
theorem pn_com_example_honeyguide_honeyguide_SpansAfterPinLaw : plainName "com/example/honeyguide/honeyguide/SpansAfterPinLaw" = true := by first | (simp [plainName, overriddenIn]; done) | decide +kernel
theorem ef_4 (m : MethodId) (p0 : Addr) (p1 : Int32) (p2 : Int32) (p3 : Int32) : entryFrame m #[(.ref p0), (.int p1), (.int p2), (.int p3)] 4 = mkF m 0 #[.val (.ref p0), .val (.int p1), .val (.int p2), .val (.int p3)] [] := by first | (simp [entryFrame, mkF, argsToLocals, Value.category]; done) | rfl
set_option maxRecDepth 65536 in
set_option maxHeartbeats 40000000 in
theorem rm4 (l : Launch) (Z : State) (a0 : Array Value) (hw : ∀ d ∈ tables_1, d.before a0 Z = true) (ws : List Jvm.Cond) (p0 : Addr) (p1 : Int32) (p2 : Int32) (p3 : Int32) (h0 : Heap) (n0 : Nat) (Z0 : n0 ≤ h0.size) (f : Nat → Int32) (P0 : own_A Z h0 p0 .int 4 f) (hp : 0 ≤ p1.toInt ∧ p1.toInt < 4) :
    MetFree l (⟨"com/example/honeyguide/honeyguide/SpansAfterPinLaw", "below", "([IIII)I"⟩ : MethodName) (head1 (Jvm.Cond.code (⟨"com/example/honeyguide/honeyguide/SpansAfterPinLaw", "below", "([IIII)I"⟩ : MethodName) method_4_code 4 (some .int) :: ws) ({ frames := 0, cells := 0, slots := 0, locals := 0 } : Room)) (fun a U => a = #[(.ref p0), (.int p1), (.int p2), (.int p3)] ∧ Z.Warmed39 U.vm ∧ U.heap = h0) (fun _ _ _ _ _ => True) (fun _ U o U' => ∃ v L, o = .returned v ∧ (own_Q4 Z p0 p1 p2 p3 f h0 n0) v U'.heap L ∧ FrameEnd U o U' L ({ frames := 0, cells := 0, slots := 0, locals := 0 } : Room).cells ({ frames := 0, cells := 0, slots := 0, locals := 0 } : Room).slots) := by
  refine MetFree.of_bodySF (plainFor_of_name pn_com_example_honeyguide_honeyguide_SpansAfterPinLaw) hisR ?_
  intro p e s m args below meth c s₁ Bd hml0 hP hK
  obtain ⟨rfl, hZ, hh⟩ := hP
  have hx := Bd.exec
  have hby := Bd.bytes
  have hml : c.maxLocals = 4 := hml0
  have hown : s.vm.findClass "com/example/honeyguide/honeyguide/SpansAfterPinLaw" = some m.cls := findClass_of_methodNamed Bd.named
  have hnm := (name_of_methodNamed Bd.named Bd.method).1
  have X0 : Stand p l e ({ frames := 0, cells := 0, slots := 0, locals := 0 } : Room) s m #[(.ref p0), (.int p1), (.int p2), (.int p3)] below meth c s₁ [] 0 0 := Stand.of_body Bd
  have e0 : s₁.heap = h0 := by rw [← hh, Bd.state]; rfl
  have N0 := Fr.nil n0
  refine own_body (QQ := (own_Q4 Z p0 p1 p2 p3 f h0 n0)) (ef_4 m p0 p1 p2 p3) ?_
  refine own_via (s₁.setTop (mkF m 1 #[.val (.ref p0), .val (.int p1), .val (.int p2), .val (.int p3)] [(.int p1)])) (fun t k => XS.iloadN X0.here hx rfl (hb hby d4_0) rfl  k) ?_
  refine own_via (s₁.setTop (mkF m 2 #[.val (.ref p0), .val (.int p1), .val (.int p2), .val (.int p3)] [(.int p2), (.int p1)])) (fun t k => XS.iloadN X0.here hx rfl (hb hby d4_1) rfl  k) ?_
  by_cases hc2_30 : p1 < p2
  · refine own_via (s₁.setTop (mkF m 5 #[.val (.ref p0), .val (.int p1), .val (.int p2), .val (.int p3)] [])) (fun t k => XS.icmpNo X0.here hx rfl (hb hby d4_2) rfl (tlt hc2_30).2.1 k) ?_
    refine own_via (s₁.setTop (mkF m 6 #[.val (.ref p0), .val (.int p1), .val (.int p2), .val (.int p3)] [(.ref p0)])) (fun t k => XS.aloadN X0.here hx rfl (hb hby d4_5) rfl rfl k) ?_
    refine own_via (s₁.setTop (mkF m 7 #[.val (.ref p0), .val (.int p1), .val (.int p2), .val (.int p3)] [(.int p1), (.ref p0)])) (fun t k => XS.iloadN X0.here hx rfl (hb hby d4_6) rfl  k) ?_
    obtain ⟨cl32, Ar32, S32, H32⟩ := id P0
    refine own_via (s₁.setTop (mkF m 8 #[.val (.ref p0), .val (.int p1), .val (.int p2), .val (.int p3)] [(.int (f p1.toInt.toNat))])) (fun t k => X0.iaload hx (j := p1) (v := (.int (f p1.toInt.toNat))) (by rw [e0]; exact Ar32.1) (State.isArrayOf_alike hZ.alike Ar32.2.1) Ar32.2.2 (own_in S32 hp) (own_at H32 hp) (g := (mkF m 7 #[.val (.ref p0), .val (.int p1), .val (.int p2), .val (.int p3)] [(.int p1), (.ref p0)])) rfl rfl (hb hby d4_7) _ k) ?_
    refine own_via (s₁.setTop (mkF m 9 #[.val (.ref p0), .val (.int p1), .val (.int p2), .val (.int p3)] [(.int p3), (.int (f p1.toInt.toNat))])) (fun t k => XS.iloadN X0.here hx rfl (hb hby d4_8) rfl  k) ?_
    by_cases hc9_33 : p3 < (f p1.toInt.toNat)
    · refine own_via (s₁.setTop (mkF m 16 #[.val (.ref p0), .val (.int p1), .val (.int p2), .val (.int p3)] [])) (fun t k => XS.icmpYes X0.here hx rfl (pc0 := 9) (pc' := 16) rfl (hb hby d4_9) rfl (tlt hc9_33).2.2.1 (by decide) (by decide) k) ?_
      refine own_via (s₁.setTop (mkF m 17 #[.val (.ref p0), .val (.int p1), .val (.int p2), .val (.int p3)] [(.int (0 : Int32))])) (fun t k => XS.iconst X0.here hx rfl (hb hby d4_16) k) ?_
      refine own_leave X0 Bd.notSynchronized (v := some (.int (0 : Int32))) (fun h => by rw [Bd.returns] at h; cases h) (fun fs hr => retI X0 hx Bd.returns (hb hby d4_17) hr) ?_ (by decide) (by decide)
      exact ⟨(by show some (Value.int _) = some (Value.int _); unfold own_f4; rw [if_pos hc2_30, if_pos hc9_33]), N0, e0⟩
    · refine own_via (s₁.setTop (mkF m 12 #[.val (.ref p0), .val (.int p1), .val (.int p2), .val (.int p3)] [])) (fun t k => XS.icmpNo X0.here hx rfl (hb hby d4_9) rfl (flt hc9_33).2.2.1 k) ?_
      refine own_via (s₁.setTop (mkF m 13 #[.val (.ref p0), .val (.int p1), .val (.int p2), .val (.int p3)] [(.int (1 : Int32))])) (fun t k => XS.iconst X0.here hx rfl (hb hby d4_12) k) ?_
      refine own_via (s₁.setTop (mkF m 17 #[.val (.ref p0), .val (.int p1), .val (.int p2), .val (.int p3)] [(.int (1 : Int32))])) (fun t k => XS.goto X0.here hx rfl (pc0 := 13) (pc' := 17) rfl (hb hby d4_13) (by decide) (by decide) k) ?_
      refine own_leave X0 Bd.notSynchronized (v := some (.int (1 : Int32))) (fun h => by rw [Bd.returns] at h; cases h) (fun fs hr => retI X0 hx Bd.returns (hb hby d4_17) hr) ?_ (by decide) (by decide)
      exact ⟨(by show some (Value.int _) = some (Value.int _); unfold own_f4; rw [if_pos hc2_30, if_neg hc9_33]), N0, e0⟩
  · refine own_via (s₁.setTop (mkF m 16 #[.val (.ref p0), .val (.int p1), .val (.int p2), .val (.int p3)] [])) (fun t k => XS.icmpYes X0.here hx rfl (pc0 := 2) (pc' := 16) rfl (hb hby d4_2) rfl (flt hc2_30).2.1 (by decide) (by decide) k) ?_
    refine own_via (s₁.setTop (mkF m 17 #[.val (.ref p0), .val (.int p1), .val (.int p2), .val (.int p3)] [(.int (0 : Int32))])) (fun t k => XS.iconst X0.here hx rfl (hb hby d4_16) k) ?_
    refine own_leave X0 Bd.notSynchronized (v := some (.int (0 : Int32))) (fun h => by rw [Bd.returns] at h; cases h) (fun fs hr => retI X0 hx Bd.returns (hb hby d4_17) hr) ?_ (by decide) (by decide)
    exact ⟨(by show some (Value.int _) = some (Value.int _); unfold own_f4; rw [if_neg hc2_30]), N0, e0⟩
def own_Q6 (Z : State) (p0 : Addr) (p1 : Int32) (rs : Addr) (hd : Int32) (ct : Int32) (f : Nat → Int32) (h0 : Heap) (n0 : Nat) (v : Option Value) (h : Heap) (L : List Loc) : Prop := v = some (.int (own_a f hd ct p1)) ∧ Fr n0 L ∧ h = h0
theorem d6_0 : decode prog_161_method_5_code 0 = .ok (.iconst 0, 1) := by decide +kernel
theorem d6_1 : decode prog_161_method_5_code 1 = .ok (.istore_n 2, 1) := by decide +kernel
theorem d6_2 : decode prog_161_method_5_code 2 = .ok (.aload_n 0, 1) := by decide +kernel
theorem d6_3 : decode prog_161_method_5_code 3 = .ok (.getfield 20, 3) := by decide +kernel
theorem d6_6 : decode prog_161_method_5_code 6 = .ok (.istore_n 3, 1) := by decide +kernel
theorem d6_7 : decode prog_161_method_5_code 7 = .ok (.aload_n 0, 1) := by decide +kernel
theorem d6_8 : decode prog_161_method_5_code 8 = .ok (.getfield 20, 3) := by decide +kernel
theorem d6_11 : decode prog_161_method_5_code 11 = .ok (.ifCond .le 31, 3) := by decide +kernel
theorem d6_14 : decode prog_161_method_5_code 14 = .ok (.aload_n 0, 1) := by decide +kernel
theorem d6_15 : decode prog_161_method_5_code 15 = .ok (.getfield 7, 3) := by decide +kernel
theorem d6_18 : decode prog_161_method_5_code 18 = .ok (.aload_n 0, 1) := by decide +kernel
theorem d6_19 : decode prog_161_method_5_code 19 = .ok (.getfield 16, 3) := by decide +kernel
theorem d6_22 : decode prog_161_method_5_code 22 = .ok (.aload_n 0, 1) := by decide +kernel
theorem d6_23 : decode prog_161_method_5_code 23 = .ok (.getfield 20, 3) := by decide +kernel
theorem d6_26 : decode prog_161_method_5_code 26 = .ok (.iadd, 1) := by decide +kernel
theorem d6_27 : decode prog_161_method_5_code 27 = .ok (.iconst 1, 1) := by decide +kernel
theorem d6_28 : decode prog_161_method_5_code 28 = .ok (.isub, 1) := by decide +kernel
theorem d6_29 : decode prog_161_method_5_code 29 = .ok (.iaload, 1) := by decide +kernel
theorem d6_30 : decode prog_161_method_5_code 30 = .ok (.iload_n 1, 1) := by decide +kernel
theorem d6_31 : decode prog_161_method_5_code 31 = .ok (.if_icmp .gt 11, 3) := by decide +kernel
theorem d6_34 : decode prog_161_method_5_code 34 = .ok (.aload_n 0, 1) := by decide +kernel
theorem d6_35 : decode prog_161_method_5_code 35 = .ok (.getfield 20, 3) := by decide +kernel
theorem d6_38 : decode prog_161_method_5_code 38 = .ok (.istore_n 2, 1) := by decide +kernel
theorem d6_39 : decode prog_161_method_5_code 39 = .ok (.goto 25, 3) := by decide +kernel
theorem d6_42 : decode prog_161_method_5_code 42 = .ok (.aload_n 0, 1) := by decide +kernel
theorem d6_43 : decode prog_161_method_5_code 43 = .ok (.getfield 20, 3) := by decide +kernel
theorem d6_46 : decode prog_161_method_5_code 46 = .ok (.ifCond .le 18, 3) := by decide +kernel
theorem d6_49 : decode prog_161_method_5_code 49 = .ok (.aload_n 0, 1) := by decide +kernel
theorem d6_50 : decode prog_161_method_5_code 50 = .ok (.getfield 7, 3) := by decide +kernel
theorem d6_53 : decode prog_161_method_5_code 53 = .ok (.aload_n 0, 1) := by decide +kernel
theorem d6_54 : decode prog_161_method_5_code 54 = .ok (.getfield 16, 3) := by decide +kernel
theorem d6_57 : decode prog_161_method_5_code 57 = .ok (.iaload, 1) := by decide +kernel
theorem d6_58 : decode prog_161_method_5_code 58 = .ok (.iload_n 1, 1) := by decide +kernel
theorem d6_59 : decode prog_161_method_5_code 59 = .ok (.if_icmp .le 5, 3) := by decide +kernel
theorem d6_62 : decode prog_161_method_5_code 62 = .ok (.iconst 0, 1) := by decide +kernel
theorem d6_63 : decode prog_161_method_5_code 63 = .ok (.istore_n 3, 1) := by decide +kernel
theorem d6_64 : decode prog_161_method_5_code 64 = .ok (.iload_n 2, 1) := by decide +kernel
theorem d6_65 : decode prog_161_method_5_code 65 = .ok (.iload_n 3, 1) := by decide +kernel
theorem d6_66 : decode prog_161_method_5_code 66 = .ok (.if_icmp .ge 40, 3) := by decide +kernel
theorem d6_69 : decode prog_161_method_5_code 69 = .ok (.iload_n 2, 1) := by decide +kernel
theorem d6_70 : decode prog_161_method_5_code 70 = .ok (.iload_n 3, 1) := by decide +kernel
theorem d6_71 : decode prog_161_method_5_code 71 = .ok (.iadd, 1) := by decide +kernel
theorem d6_72 : decode prog_161_method_5_code 72 = .ok (.iconst 1, 1) := by decide +kernel
theorem d6_73 : decode prog_161_method_5_code 73 = .ok (.iushr, 1) := by decide +kernel
theorem d6_74 : decode prog_161_method_5_code 74 = .ok (.istore 4, 2) := by decide +kernel
theorem d6_76 : decode prog_161_method_5_code 76 = .ok (.aload_n 0, 1) := by decide +kernel
theorem d6_77 : decode prog_161_method_5_code 77 = .ok (.getfield 7, 3) := by decide +kernel
theorem d6_80 : decode prog_161_method_5_code 80 = .ok (.aload_n 0, 1) := by decide +kernel
theorem d6_81 : decode prog_161_method_5_code 81 = .ok (.getfield 16, 3) := by decide +kernel
theorem d6_84 : decode prog_161_method_5_code 84 = .ok (.iload 4, 2) := by decide +kernel
theorem d6_86 : decode prog_161_method_5_code 86 = .ok (.iadd, 1) := by decide +kernel
theorem d6_87 : decode prog_161_method_5_code 87 = .ok (.iaload, 1) := by decide +kernel
theorem d6_88 : decode prog_161_method_5_code 88 = .ok (.iload_n 1, 1) := by decide +kernel
theorem d6_89 : decode prog_161_method_5_code 89 = .ok (.if_icmp .gt 11, 3) := by decide +kernel
theorem d6_92 : decode prog_161_method_5_code 92 = .ok (.iload 4, 2) := by decide +kernel
theorem d6_94 : decode prog_161_method_5_code 94 = .ok (.iconst 1, 1) := by decide +kernel
theorem d6_95 : decode prog_161_method_5_code 95 = .ok (.iadd, 1) := by decide +kernel
theorem d6_96 : decode prog_161_method_5_code 96 = .ok (.istore_n 2, 1) := by decide +kernel
theorem d6_97 : decode prog_161_method_5_code 97 = .ok (.goto 6, 3) := by decide +kernel
theorem d6_100 : decode prog_161_method_5_code 100 = .ok (.iload 4, 2) := by decide +kernel
theorem d6_102 : decode prog_161_method_5_code 102 = .ok (.istore_n 3, 1) := by decide +kernel
theorem d6_103 : decode prog_161_method_5_code 103 = .ok (.goto (-39), 3) := by decide +kernel
theorem d6_106 : decode prog_161_method_5_code 106 = .ok (.iload_n 2, 1) := by decide +kernel
theorem d6_107 : decode prog_161_method_5_code 107 = .ok (.ireturn, 1) := by decide +kernel
theorem ef_6 (m : MethodId) (p0 : Addr) (p1 : Int32) : entryFrame m #[(.ref p0), (.int p1)] 5 = mkF m 0 #[.val (.ref p0), .val (.int p1), .unset, .unset, .unset] [] := by first | (simp [entryFrame, mkF, argsToLocals, Value.category]; done) | rfl
set_option maxRecDepth 65536 in
set_option maxHeartbeats 40000000 in
theorem rm6 (l : Launch) (Z : State) (a0 : Array Value) (hw : ∀ d ∈ tables_1, d.before a0 Z = true) (ws : List Jvm.Cond) (p0 : Addr) (p1 : Int32) (h0 : Heap) (n0 : Nat) (Z0 : n0 ≤ h0.size) (rs : Addr) (hd : Int32) (ct : Int32) (f : Nat → Int32) (P0 : Fld Z h0 p0 "com/example/honeyguide/honeyguide/Spans" "starts" "[I" (.ref rs)) (P1 : Fld Z h0 p0 "com/example/honeyguide/honeyguide/Spans" "head" "I" (.int hd)) (P2 : Fld Z h0 p0 "com/example/honeyguide/honeyguide/Spans" "count" "I" (.int ct)) (P3 : own_A Z h0 rs .int 8 f) (hI : own_Inv f hd ct) :
    MetFree l (⟨"com/example/honeyguide/honeyguide/Spans", "after", "(I)I"⟩ : MethodName) (head1 (Jvm.Cond.code (⟨"com/example/honeyguide/honeyguide/Spans", "after", "(I)I"⟩ : MethodName) prog_161_method_5_code 5 (some .int) :: ws) ({ frames := 0, cells := 0, slots := 0, locals := 0 } : Room)) (fun a U => a = #[(.ref p0), (.int p1)] ∧ Z.Warmed39 U.vm ∧ U.heap = h0) (fun _ _ _ _ _ => True) (fun _ U o U' => ∃ v L, o = .returned v ∧ (own_Q6 Z p0 p1 rs hd ct f h0 n0) v U'.heap L ∧ FrameEnd U o U' L ({ frames := 0, cells := 0, slots := 0, locals := 0 } : Room).cells ({ frames := 0, cells := 0, slots := 0, locals := 0 } : Room).slots) := by
  refine MetFree.of_bodySF (plainFor_of_name pn_com_example_honeyguide_honeyguide_Spans) hisR ?_
  intro p e s m args below meth c s₁ Bd hml0 hP hK
  obtain ⟨rfl, hZ, hh⟩ := hP
  have hx := Bd.exec
  have hby := Bd.bytes
  have hml : c.maxLocals = 5 := hml0
  have hown : s.vm.findClass "com/example/honeyguide/honeyguide/Spans" = some m.cls := findClass_of_methodNamed Bd.named
  have hnm := (name_of_methodNamed Bd.named Bd.method).1
  have X0 : Stand p l e ({ frames := 0, cells := 0, slots := 0, locals := 0 } : Room) s m #[(.ref p0), (.int p1)] below meth c s₁ [] 0 0 := Stand.of_body Bd
  have e0 : s₁.heap = h0 := by rw [← hh, Bd.state]; rfl
  have N0 := Fr.nil n0
  refine own_body (QQ := (own_Q6 Z p0 p1 rs hd ct f h0 n0)) (ef_6 m p0 p1) ?_
  have loop : ∀ (k : Nat) (T1 : State) (L1 : List Loc) (X1 : Stand p l e ({ frames := 0, cells := 0, slots := 0, locals := 0 } : Room) s m #[(.ref p0), (.int p1)] below meth c T1 L1 0 0) (e1 : T1.heap = h0) (N1 : Fr n0 L1) (lo hi : Int32) (s4 : Slot) (hs4 : s4 = .unset ∨ ∃ w, s4 = .val w ∧ w.category = 1), (0 ≤ lo.toInt ∧ lo.toInt ≤ hi.toInt ∧ hi.toInt ≤ ct.toInt ∧ hi.toInt - lo.toInt ≤ k) → own_lo f hd.toInt.toNat p1 lo.toInt.toNat → own_hi f hd.toInt.toNat ct.toInt.toNat p1 hi.toInt.toNat → own_Goes p e below (own_Fin s below (own_Q6 Z p0 p1 rs hd ct f h0 n0) ({ frames := 0, cells := 0, slots := 0, locals := 0 } : Room).cells ({ frames := 0, cells := 0, slots := 0, locals := 0 } : Room).slots) (T1.setTop (mkF m 64 #[.val (.ref p0), .val (.int p1), .val (.int lo), .val (.int hi), s4] [])) := by
    intro k
    induction k with
    | zero =>
      intro T1 L1 X1 e1 N1 lo hi s4 hs4 hbd hlo hhi
      refine own_via (T1.setTop (mkF m 65 #[.val (.ref p0), .val (.int p1), .val (.int lo), .val (.int hi), s4] [(.int lo)])) (fun t k => XS.iloadN X1.here hx rfl (hb hby d6_64) rfl  k) ?_
      refine own_via (T1.setTop (mkF m 66 #[.val (.ref p0), .val (.int p1), .val (.int lo), .val (.int hi), s4] [(.int hi), (.int lo)])) (fun t k => XS.iloadN X1.here hx rfl (hb hby d6_65) rfl  k) ?_
      refine own_via (T1.setTop (mkF m 106 #[.val (.ref p0), .val (.int p1), .val (.int lo), .val (.int hi), s4] [])) (fun t k => XS.icmpYes X1.here hx rfl (pc0 := 66) (pc' := 106) rfl (hb hby d6_66) rfl (flt (by rw [Int32.lt_iff_toInt_lt]; omega)).2.1 (by decide) (by decide) k) ?_
      refine own_via (T1.setTop (mkF m 107 #[.val (.ref p0), .val (.int p1), .val (.int lo), .val (.int hi), s4] [(.int lo)])) (fun t k => XS.iloadN X1.here hx rfl (hb hby d6_106) rfl  k) ?_
      refine own_leave X1 Bd.notSynchronized (v := some (.int lo)) (fun h => by rw [Bd.returns] at h; cases h) (fun fs hr => retI X1 hx Bd.returns (hb hby d6_107) hr) ?_ (by decide) (by decide)
      refine ⟨?_, N1, e1⟩
      rw [own_aof (f := f) (hd := hd) (ct := ct) (x := p1) (lo := lo) (by omega) hlo (own_hi2 hhi (by omega))]
    | succ k ih =>
      intro T1 L1 X1 e1 N1 lo hi s4 hs4 hbd hlo hhi
      refine own_via (T1.setTop (mkF m 65 #[.val (.ref p0), .val (.int p1), .val (.int lo), .val (.int hi), s4] [(.int lo)])) (fun t k => XS.iloadN X1.here hx rfl (hb hby d6_64) rfl  k) ?_
      refine own_via (T1.setTop (mkF m 66 #[.val (.ref p0), .val (.int p1), .val (.int lo), .val (.int hi), s4] [(.int hi), (.int lo)])) (fun t k => XS.iloadN X1.here hx rfl (hb hby d6_65) rfl  k) ?_
      by_cases hlt : lo < hi
      · refine own_via (T1.setTop (mkF m 69 #[.val (.ref p0), .val (.int p1), .val (.int lo), .val (.int hi), s4] [])) (fun t k => XS.icmpNo X1.here hx rfl (hb hby d6_66) rfl (tlt hlt).2.1 k) ?_
        refine own_via (T1.setTop (mkF m 70 #[.val (.ref p0), .val (.int p1), .val (.int lo), .val (.int hi), s4] [(.int lo)])) (fun t k => XS.iloadN X1.here hx rfl (hb hby d6_69) rfl  k) ?_
        refine own_via (T1.setTop (mkF m 71 #[.val (.ref p0), .val (.int p1), .val (.int lo), .val (.int hi), s4] [(.int hi), (.int lo)])) (fun t k => XS.iloadN X1.here hx rfl (hb hby d6_70) rfl  k) ?_
        refine own_via (T1.setTop (mkF m 72 #[.val (.ref p0), .val (.int p1), .val (.int lo), .val (.int hi), s4] [(.int (lo + hi))])) (fun t k => XS.iadd X1.here hx rfl (hb hby d6_71) rfl k) ?_
        refine own_via (T1.setTop (mkF m 73 #[.val (.ref p0), .val (.int p1), .val (.int lo), .val (.int hi), s4] [(.int (1 : Int32)), (.int (lo + hi))])) (fun t k => XS.iconst X1.here hx rfl (hb hby d6_72) k) ?_
        refine own_via (T1.setTop (mkF m 74 #[.val (.ref p0), .val (.int p1), .val (.int lo), .val (.int hi), s4] [(.int (((lo + hi).toUInt32 >>> ((1 : Int32) &&& 31).toUInt32).toInt32))])) (fun t k => XS.iushr X1.here hx rfl (hb hby d6_73) rfl k) ?_
        refine own_via (T1.setTop (mkF m 76 #[.val (.ref p0), .val (.int p1), .val (.int lo), .val (.int hi), .val (.int (((lo + hi).toUInt32 >>> ((1 : Int32) &&& 31).toUInt32).toInt32))] [])) (fun t k => XS.istoreS X1.here hx rfl (hb hby d6_74) rfl (o := s4) rfl hs4 k) ?_
        refine own_via (T1.setTop (mkF m 77 #[.val (.ref p0), .val (.int p1), .val (.int lo), .val (.int hi), .val (.int (((lo + hi).toUInt32 >>> ((1 : Int32) &&& 31).toUInt32).toInt32))] [(.ref p0)])) (fun t k => XS.aloadN X1.here hx rfl (hb hby d6_76) rfl rfl k) ?_
        obtain ⟨T34, X34, e34, st34⟩ := getF X1 hx hZ hown (host := "") (Or.inl (hw _ (List.mem_of_getElem? (i := 13) rfl))) Via.refl e1 P0 (g := (mkF m 77 #[.val (.ref p0), .val (.int p1), .val (.int lo), .val (.int hi), .val (.int (((lo + hi).toUInt32 >>> ((1 : Int32) &&& 31).toUInt32).toInt32))] [(.ref p0)])) rfl rfl (hb hby d6_77)
        refine own_via (T34.setTop (mkF m 80 #[.val (.ref p0), .val (.int p1), .val (.int lo), .val (.int hi), .val (.int (((lo + hi).toUInt32 >>> ((1 : Int32) &&& 31).toUInt32).toInt32))] [(.ref rs)])) (fun t k => st34 t k) ?_
        refine own_via (T34.setTop (mkF m 81 #[.val (.ref p0), .val (.int p1), .val (.int lo), .val (.int hi), .val (.int (((lo + hi).toUInt32 >>> ((1 : Int32) &&& 31).toUInt32).toInt32))] [(.ref p0), (.ref rs)])) (fun t k => XS.aloadN X34.here hx rfl (hb hby d6_80) rfl rfl k) ?_
        obtain ⟨T35, X35, e35, st35⟩ := getF X34 hx hZ hown (host := "") (Or.inl (hw _ (List.mem_of_getElem? (i := 17) rfl))) Via.refl e34 P1 (g := (mkF m 81 #[.val (.ref p0), .val (.int p1), .val (.int lo), .val (.int hi), .val (.int (((lo + hi).toUInt32 >>> ((1 : Int32) &&& 31).toUInt32).toInt32))] [(.ref p0), (.ref rs)])) rfl rfl (hb hby d6_81)
        refine own_via (T35.setTop (mkF m 84 #[.val (.ref p0), .val (.int p1), .val (.int lo), .val (.int hi), .val (.int (((lo + hi).toUInt32 >>> ((1 : Int32) &&& 31).toUInt32).toInt32))] [(.int hd), (.ref rs)])) (fun t k => st35 t k) ?_
        refine own_via (T35.setTop (mkF m 86 #[.val (.ref p0), .val (.int p1), .val (.int lo), .val (.int hi), .val (.int (((lo + hi).toUInt32 >>> ((1 : Int32) &&& 31).toUInt32).toInt32))] [(.int (((lo + hi).toUInt32 >>> ((1 : Int32) &&& 31).toUInt32).toInt32)), (.int hd), (.ref rs)])) (fun t k => XS.iload X35.here hx rfl (hb hby d6_84) rfl  k) ?_
        refine own_via (T35.setTop (mkF m 87 #[.val (.ref p0), .val (.int p1), .val (.int lo), .val (.int hi), .val (.int (((lo + hi).toUInt32 >>> ((1 : Int32) &&& 31).toUInt32).toInt32))] [(.int (hd + (((lo + hi).toUInt32 >>> ((1 : Int32) &&& 31).toUInt32).toInt32))), (.ref rs)])) (fun t k => XS.iadd X35.here hx rfl (hb hby d6_86) rfl k) ?_
        obtain ⟨cl37, Ar37, S37, H37⟩ := id P3
        refine own_via (T35.setTop (mkF m 88 #[.val (.ref p0), .val (.int p1), .val (.int lo), .val (.int hi), .val (.int (((lo + hi).toUInt32 >>> ((1 : Int32) &&& 31).toUInt32).toInt32))] [(.int (f (hd + (((lo + hi).toUInt32 >>> ((1 : Int32) &&& 31).toUInt32).toInt32)).toInt.toNat))])) (fun t k => X35.iaload hx (j := (hd + (((lo + hi).toUInt32 >>> ((1 : Int32) &&& 31).toUInt32).toInt32))) (v := (.int (f (hd + (((lo + hi).toUInt32 >>> ((1 : Int32) &&& 31).toUInt32).toInt32)).toInt.toNat))) (by rw [e35]; exact Ar37.1) (State.isArrayOf_alike hZ.alike Ar37.2.1) Ar37.2.2 (own_in S37 (own_ix3 hI hbd (Int32.lt_iff_toInt_lt.mp hlt))) (own_at H37 (own_ix3 hI hbd (Int32.lt_iff_toInt_lt.mp hlt))) (g := (mkF m 87 #[.val (.ref p0), .val (.int p1), .val (.int lo), .val (.int hi), .val (.int (((lo + hi).toUInt32 >>> ((1 : Int32) &&& 31).toUInt32).toInt32))] [(.int (hd + (((lo + hi).toUInt32 >>> ((1 : Int32) &&& 31).toUInt32).toInt32))), (.ref rs)])) rfl rfl (hb hby d6_87) _ k) ?_
        refine own_via (T35.setTop (mkF m 89 #[.val (.ref p0), .val (.int p1), .val (.int lo), .val (.int hi), .val (.int (((lo + hi).toUInt32 >>> ((1 : Int32) &&& 31).toUInt32).toInt32))] [(.int p1), (.int (f (hd + (((lo + hi).toUInt32 >>> ((1 : Int32) &&& 31).toUInt32).toInt32)).toInt.toNat))])) (fun t k => XS.iloadN X35.here hx rfl (hb hby d6_88) rfl  k) ?_
        by_cases hg : p1 < (f (hd + (((lo + hi).toUInt32 >>> ((1 : Int32) &&& 31).toUInt32).toInt32)).toInt.toNat)
        · refine own_via (T35.setTop (mkF m 100 #[.val (.ref p0), .val (.int p1), .val (.int lo), .val (.int hi), .val (.int (((lo + hi).toUInt32 >>> ((1 : Int32) &&& 31).toUInt32).toInt32))] [])) (fun t k => XS.icmpYes X35.here hx rfl (pc0 := 89) (pc' := 100) rfl (hb hby d6_89) rfl (tlt hg).2.2.1 (by decide) (by decide) k) ?_
          refine own_via (T35.setTop (mkF m 102 #[.val (.ref p0), .val (.int p1), .val (.int lo), .val (.int hi), .val (.int (((lo + hi).toUInt32 >>> ((1 : Int32) &&& 31).toUInt32).toInt32))] [(.int (((lo + hi).toUInt32 >>> ((1 : Int32) &&& 31).toUInt32).toInt32))])) (fun t k => XS.iload X35.here hx rfl (hb hby d6_100) rfl  k) ?_
          refine own_via (T35.setTop (mkF m 103 #[.val (.ref p0), .val (.int p1), .val (.int lo), .val (.int (((lo + hi).toUInt32 >>> ((1 : Int32) &&& 31).toUInt32).toInt32)), .val (.int (((lo + hi).toUInt32 >>> ((1 : Int32) &&& 31).toUInt32).toInt32))] [])) (fun t k => XS.istoreN X35.here hx rfl (hb hby d6_102) rfl (l' := #[.val (.ref p0), .val (.int p1), .val (.int lo), .val (.int (((lo + hi).toUInt32 >>> ((1 : Int32) &&& 31).toUInt32).toInt32)), .val (.int (((lo + hi).toUInt32 >>> ((1 : Int32) &&& 31).toUInt32).toInt32))]) rfl k) ?_
          refine own_via (T35.setTop (mkF m 64 #[.val (.ref p0), .val (.int p1), .val (.int lo), .val (.int (((lo + hi).toUInt32 >>> ((1 : Int32) &&& 31).toUInt32).toInt32)), .val (.int (((lo + hi).toUInt32 >>> ((1 : Int32) &&& 31).toUInt32).toInt32))] [])) (fun t k => XS.goto X35.here hx rfl (pc0 := 103) (pc' := 64) rfl (hb hby d6_103) (by decide) (by decide) k) ?_
          have hm := own_mid hbd.1 (Int32.lt_iff_toInt_lt.mp hlt) (by have := hI.2.1; omega)
          exact ih T35 _ X35 e35 N1 lo (((lo + hi).toUInt32 >>> ((1 : Int32) &&& 31).toUInt32).toInt32) (.val (.int (((lo + hi).toUInt32 >>> ((1 : Int32) &&& 31).toUInt32).toInt32))) (Or.inr ⟨_, rfl, rfl⟩) (by omega) hlo (own_hi1 hI (by omega) (by omega) hg)
        · refine own_via (T35.setTop (mkF m 92 #[.val (.ref p0), .val (.int p1), .val (.int lo), .val (.int hi), .val (.int (((lo + hi).toUInt32 >>> ((1 : Int32) &&& 31).toUInt32).toInt32))] [])) (fun t k => XS.icmpNo X35.here hx rfl (hb hby d6_89) rfl (flt hg).2.2.1 k) ?_
          refine own_via (T35.setTop (mkF m 94 #[.val (.ref p0), .val (.int p1), .val (.int lo), .val (.int hi), .val (.int (((lo + hi).toUInt32 >>> ((1 : Int32) &&& 31).toUInt32).toInt32))] [(.int (((lo + hi).toUInt32 >>> ((1 : Int32) &&& 31).toUInt32).toInt32))])) (fun t k => XS.iload X35.here hx rfl (hb hby d6_92) rfl  k) ?_
          refine own_via (T35.setTop (mkF m 95 #[.val (.ref p0), .val (.int p1), .val (.int lo), .val (.int hi), .val (.int (((lo + hi).toUInt32 >>> ((1 : Int32) &&& 31).toUInt32).toInt32))] [(.int (1 : Int32)), (.int (((lo + hi).toUInt32 >>> ((1 : Int32) &&& 31).toUInt32).toInt32))])) (fun t k => XS.iconst X35.here hx rfl (hb hby d6_94) k) ?_
          refine own_via (T35.setTop (mkF m 96 #[.val (.ref p0), .val (.int p1), .val (.int lo), .val (.int hi), .val (.int (((lo + hi).toUInt32 >>> ((1 : Int32) &&& 31).toUInt32).toInt32))] [(.int ((((lo + hi).toUInt32 >>> ((1 : Int32) &&& 31).toUInt32).toInt32) + (1 : Int32)))])) (fun t k => XS.iadd X35.here hx rfl (hb hby d6_95) rfl k) ?_
          refine own_via (T35.setTop (mkF m 97 #[.val (.ref p0), .val (.int p1), .val (.int ((((lo + hi).toUInt32 >>> ((1 : Int32) &&& 31).toUInt32).toInt32) + (1 : Int32))), .val (.int hi), .val (.int (((lo + hi).toUInt32 >>> ((1 : Int32) &&& 31).toUInt32).toInt32))] [])) (fun t k => XS.istoreN X35.here hx rfl (hb hby d6_96) rfl (l' := #[.val (.ref p0), .val (.int p1), .val (.int ((((lo + hi).toUInt32 >>> ((1 : Int32) &&& 31).toUInt32).toInt32) + (1 : Int32))), .val (.int hi), .val (.int (((lo + hi).toUInt32 >>> ((1 : Int32) &&& 31).toUInt32).toInt32))]) rfl k) ?_
          refine own_via (T35.setTop (mkF m 103 #[.val (.ref p0), .val (.int p1), .val (.int ((((lo + hi).toUInt32 >>> ((1 : Int32) &&& 31).toUInt32).toInt32) + (1 : Int32))), .val (.int hi), .val (.int (((lo + hi).toUInt32 >>> ((1 : Int32) &&& 31).toUInt32).toInt32))] [])) (fun t k => XS.goto X35.here hx rfl (pc0 := 97) (pc' := 103) rfl (hb hby d6_97) (by decide) (by decide) k) ?_
          refine own_via (T35.setTop (mkF m 64 #[.val (.ref p0), .val (.int p1), .val (.int ((((lo + hi).toUInt32 >>> ((1 : Int32) &&& 31).toUInt32).toInt32) + (1 : Int32))), .val (.int hi), .val (.int (((lo + hi).toUInt32 >>> ((1 : Int32) &&& 31).toUInt32).toInt32))] [])) (fun t k => XS.goto X35.here hx rfl (pc0 := 103) (pc' := 64) rfl (hb hby d6_103) (by decide) (by decide) k) ?_
          have hm := own_mid hbd.1 (Int32.lt_iff_toInt_lt.mp hlt) (by have := hI.2.1; omega)
          have hm1 := own_inc1 (i := (((lo + hi).toUInt32 >>> ((1 : Int32) &&& 31).toUInt32).toInt32)) (by have := hI.2.1; omega)
          exact ih T35 _ X35 e35 N1 ((((lo + hi).toUInt32 >>> ((1 : Int32) &&& 31).toUInt32).toInt32) + (1 : Int32)) hi (.val (.int (((lo + hi).toUInt32 >>> ((1 : Int32) &&& 31).toUInt32).toInt32))) (Or.inr ⟨_, rfl, rfl⟩) (by omega) (own_lo1 hI (by omega) (by omega) hg) hhi
      · refine own_via (T1.setTop (mkF m 106 #[.val (.ref p0), .val (.int p1), .val (.int lo), .val (.int hi), s4] [])) (fun t k => XS.icmpYes X1.here hx rfl (pc0 := 66) (pc' := 106) rfl (hb hby d6_66) rfl (flt hlt).2.1 (by decide) (by decide) k) ?_
        refine own_via (T1.setTop (mkF m 107 #[.val (.ref p0), .val (.int p1), .val (.int lo), .val (.int hi), s4] [(.int lo)])) (fun t k => XS.iloadN X1.here hx rfl (hb hby d6_106) rfl  k) ?_
        refine own_leave X1 Bd.notSynchronized (v := some (.int lo)) (fun h => by rw [Bd.returns] at h; cases h) (fun fs hr => retI X1 hx Bd.returns (hb hby d6_107) hr) ?_ (by decide) (by decide)
        refine ⟨?_, N1, e1⟩
        rw [own_aof (f := f) (hd := hd) (ct := ct) (x := p1) (lo := lo) (by omega) hlo (own_hi2 hhi (by rw [Int32.lt_iff_toInt_lt] at hlt; omega))]
  refine own_via (s₁.setTop (mkF m 1 #[.val (.ref p0), .val (.int p1), .unset, .unset, .unset] [(.int (0 : Int32))])) (fun t k => XS.iconst X0.here hx rfl (hb hby d6_0) k) ?_
  refine own_via (s₁.setTop (mkF m 2 #[.val (.ref p0), .val (.int p1), .val (.int (0 : Int32)), .unset, .unset] [])) (fun t k => XS.istoreN X0.here hx rfl (hb hby d6_1) rfl (l' := #[.val (.ref p0), .val (.int p1), .val (.int (0 : Int32)), .unset, .unset]) rfl k) ?_
  refine own_via (s₁.setTop (mkF m 3 #[.val (.ref p0), .val (.int p1), .val (.int (0 : Int32)), .unset, .unset] [(.ref p0)])) (fun t k => XS.aloadN X0.here hx rfl (hb hby d6_2) rfl rfl k) ?_
  obtain ⟨T38, X38, e38, st38⟩ := getF X0 hx hZ hown (host := "") (Or.inl (hw _ (List.mem_of_getElem? (i := 32) rfl))) Via.refl e0 P2 (g := (mkF m 3 #[.val (.ref p0), .val (.int p1), .val (.int (0 : Int32)), .unset, .unset] [(.ref p0)])) rfl rfl (hb hby d6_3)
  refine own_via (T38.setTop (mkF m 6 #[.val (.ref p0), .val (.int p1), .val (.int (0 : Int32)), .unset, .unset] [(.int ct)])) (fun t k => st38 t k) ?_
  refine own_via (T38.setTop (mkF m 7 #[.val (.ref p0), .val (.int p1), .val (.int (0 : Int32)), .val (.int ct), .unset] [])) (fun t k => XS.istoreN X38.here hx rfl (hb hby d6_6) rfl (l' := #[.val (.ref p0), .val (.int p1), .val (.int (0 : Int32)), .val (.int ct), .unset]) rfl k) ?_
  refine own_via (T38.setTop (mkF m 8 #[.val (.ref p0), .val (.int p1), .val (.int (0 : Int32)), .val (.int ct), .unset] [(.ref p0)])) (fun t k => XS.aloadN X38.here hx rfl (hb hby d6_7) rfl rfl k) ?_
  obtain ⟨T39, X39, e39, st39⟩ := getF X38 hx hZ hown (host := "") (Or.inl (hw _ (List.mem_of_getElem? (i := 32) rfl))) Via.refl e38 P2 (g := (mkF m 8 #[.val (.ref p0), .val (.int p1), .val (.int (0 : Int32)), .val (.int ct), .unset] [(.ref p0)])) rfl rfl (hb hby d6_8)
  refine own_via (T39.setTop (mkF m 11 #[.val (.ref p0), .val (.int p1), .val (.int (0 : Int32)), .val (.int ct), .unset] [(.int ct)])) (fun t k => st39 t k) ?_
  by_cases hz : (0 : Int32) < ct
  · refine own_via (T39.setTop (mkF m 14 #[.val (.ref p0), .val (.int p1), .val (.int (0 : Int32)), .val (.int ct), .unset] [])) (fun t k => XS.ifNo X39.here hx rfl (hb hby d6_11) rfl ((if0 _ _).trans (tlt hz).2.2.2) k) ?_
    refine own_via (T39.setTop (mkF m 15 #[.val (.ref p0), .val (.int p1), .val (.int (0 : Int32)), .val (.int ct), .unset] [(.ref p0)])) (fun t k => XS.aloadN X39.here hx rfl (hb hby d6_14) rfl rfl k) ?_
    obtain ⟨T40, X40, e40, st40⟩ := getF X39 hx hZ hown (host := "") (Or.inl (hw _ (List.mem_of_getElem? (i := 13) rfl))) Via.refl e39 P0 (g := (mkF m 15 #[.val (.ref p0), .val (.int p1), .val (.int (0 : Int32)), .val (.int ct), .unset] [(.ref p0)])) rfl rfl (hb hby d6_15)
    refine own_via (T40.setTop (mkF m 18 #[.val (.ref p0), .val (.int p1), .val (.int (0 : Int32)), .val (.int ct), .unset] [(.ref rs)])) (fun t k => st40 t k) ?_
    refine own_via (T40.setTop (mkF m 19 #[.val (.ref p0), .val (.int p1), .val (.int (0 : Int32)), .val (.int ct), .unset] [(.ref p0), (.ref rs)])) (fun t k => XS.aloadN X40.here hx rfl (hb hby d6_18) rfl rfl k) ?_
    obtain ⟨T41, X41, e41, st41⟩ := getF X40 hx hZ hown (host := "") (Or.inl (hw _ (List.mem_of_getElem? (i := 17) rfl))) Via.refl e40 P1 (g := (mkF m 19 #[.val (.ref p0), .val (.int p1), .val (.int (0 : Int32)), .val (.int ct), .unset] [(.ref p0), (.ref rs)])) rfl rfl (hb hby d6_19)
    refine own_via (T41.setTop (mkF m 22 #[.val (.ref p0), .val (.int p1), .val (.int (0 : Int32)), .val (.int ct), .unset] [(.int hd), (.ref rs)])) (fun t k => st41 t k) ?_
    refine own_via (T41.setTop (mkF m 23 #[.val (.ref p0), .val (.int p1), .val (.int (0 : Int32)), .val (.int ct), .unset] [(.ref p0), (.int hd), (.ref rs)])) (fun t k => XS.aloadN X41.here hx rfl (hb hby d6_22) rfl rfl k) ?_
    obtain ⟨T42, X42, e42, st42⟩ := getF X41 hx hZ hown (host := "") (Or.inl (hw _ (List.mem_of_getElem? (i := 32) rfl))) Via.refl e41 P2 (g := (mkF m 23 #[.val (.ref p0), .val (.int p1), .val (.int (0 : Int32)), .val (.int ct), .unset] [(.ref p0), (.int hd), (.ref rs)])) rfl rfl (hb hby d6_23)
    refine own_via (T42.setTop (mkF m 26 #[.val (.ref p0), .val (.int p1), .val (.int (0 : Int32)), .val (.int ct), .unset] [(.int ct), (.int hd), (.ref rs)])) (fun t k => st42 t k) ?_
    refine own_via (T42.setTop (mkF m 27 #[.val (.ref p0), .val (.int p1), .val (.int (0 : Int32)), .val (.int ct), .unset] [(.int (hd + ct)), (.ref rs)])) (fun t k => XS.iadd X42.here hx rfl (hb hby d6_26) rfl k) ?_
    refine own_via (T42.setTop (mkF m 28 #[.val (.ref p0), .val (.int p1), .val (.int (0 : Int32)), .val (.int ct), .unset] [(.int (1 : Int32)), (.int (hd + ct)), (.ref rs)])) (fun t k => XS.iconst X42.here hx rfl (hb hby d6_27) k) ?_
    refine own_via (T42.setTop (mkF m 29 #[.val (.ref p0), .val (.int p1), .val (.int (0 : Int32)), .val (.int ct), .unset] [(.int ((hd + ct) - (1 : Int32))), (.ref rs)])) (fun t k => XS.isub X42.here hx rfl (hb hby d6_28) rfl k) ?_
    obtain ⟨cl44, Ar44, S44, H44⟩ := id P3
    refine own_via (T42.setTop (mkF m 30 #[.val (.ref p0), .val (.int p1), .val (.int (0 : Int32)), .val (.int ct), .unset] [(.int (f ((hd + ct) - (1 : Int32)).toInt.toNat))])) (fun t k => X42.iaload hx (j := ((hd + ct) - (1 : Int32))) (v := (.int (f ((hd + ct) - (1 : Int32)).toInt.toNat))) (by rw [e42]; exact Ar44.1) (State.isArrayOf_alike hZ.alike Ar44.2.1) Ar44.2.2 (own_in S44 (own_ix1 hI hz)) (own_at H44 (own_ix1 hI hz)) (g := (mkF m 29 #[.val (.ref p0), .val (.int p1), .val (.int (0 : Int32)), .val (.int ct), .unset] [(.int ((hd + ct) - (1 : Int32))), (.ref rs)])) rfl rfl (hb hby d6_29) _ k) ?_
    refine own_via (T42.setTop (mkF m 31 #[.val (.ref p0), .val (.int p1), .val (.int (0 : Int32)), .val (.int ct), .unset] [(.int p1), (.int (f ((hd + ct) - (1 : Int32)).toInt.toNat))])) (fun t k => XS.iloadN X42.here hx rfl (hb hby d6_30) rfl  k) ?_
    by_cases hl : p1 < (f ((hd + ct) - (1 : Int32)).toInt.toNat)
    · refine own_via (T42.setTop (mkF m 42 #[.val (.ref p0), .val (.int p1), .val (.int (0 : Int32)), .val (.int ct), .unset] [])) (fun t k => XS.icmpYes X42.here hx rfl (pc0 := 31) (pc' := 42) rfl (hb hby d6_31) rfl (tlt hl).2.2.1 (by decide) (by decide) k) ?_
      refine own_via (T42.setTop (mkF m 43 #[.val (.ref p0), .val (.int p1), .val (.int (0 : Int32)), .val (.int ct), .unset] [(.ref p0)])) (fun t k => XS.aloadN X42.here hx rfl (hb hby d6_42) rfl rfl k) ?_
      obtain ⟨T45, X45, e45, st45⟩ := getF X42 hx hZ hown (host := "") (Or.inl (hw _ (List.mem_of_getElem? (i := 32) rfl))) Via.refl e42 P2 (g := (mkF m 43 #[.val (.ref p0), .val (.int p1), .val (.int (0 : Int32)), .val (.int ct), .unset] [(.ref p0)])) rfl rfl (hb hby d6_43)
      refine own_via (T45.setTop (mkF m 46 #[.val (.ref p0), .val (.int p1), .val (.int (0 : Int32)), .val (.int ct), .unset] [(.int ct)])) (fun t k => st45 t k) ?_
      refine own_via (T45.setTop (mkF m 49 #[.val (.ref p0), .val (.int p1), .val (.int (0 : Int32)), .val (.int ct), .unset] [])) (fun t k => XS.ifNo X45.here hx rfl (hb hby d6_46) rfl ((if0 _ _).trans (tlt hz).2.2.2) k) ?_
      refine own_via (T45.setTop (mkF m 50 #[.val (.ref p0), .val (.int p1), .val (.int (0 : Int32)), .val (.int ct), .unset] [(.ref p0)])) (fun t k => XS.aloadN X45.here hx rfl (hb hby d6_49) rfl rfl k) ?_
      obtain ⟨T46, X46, e46, st46⟩ := getF X45 hx hZ hown (host := "") (Or.inl (hw _ (List.mem_of_getElem? (i := 13) rfl))) Via.refl e45 P0 (g := (mkF m 50 #[.val (.ref p0), .val (.int p1), .val (.int (0 : Int32)), .val (.int ct), .unset] [(.ref p0)])) rfl rfl (hb hby d6_50)
      refine own_via (T46.setTop (mkF m 53 #[.val (.ref p0), .val (.int p1), .val (.int (0 : Int32)), .val (.int ct), .unset] [(.ref rs)])) (fun t k => st46 t k) ?_
      refine own_via (T46.setTop (mkF m 54 #[.val (.ref p0), .val (.int p1), .val (.int (0 : Int32)), .val (.int ct), .unset] [(.ref p0), (.ref rs)])) (fun t k => XS.aloadN X46.here hx rfl (hb hby d6_53) rfl rfl k) ?_
      obtain ⟨T47, X47, e47, st47⟩ := getF X46 hx hZ hown (host := "") (Or.inl (hw _ (List.mem_of_getElem? (i := 17) rfl))) Via.refl e46 P1 (g := (mkF m 54 #[.val (.ref p0), .val (.int p1), .val (.int (0 : Int32)), .val (.int ct), .unset] [(.ref p0), (.ref rs)])) rfl rfl (hb hby d6_54)
      refine own_via (T47.setTop (mkF m 57 #[.val (.ref p0), .val (.int p1), .val (.int (0 : Int32)), .val (.int ct), .unset] [(.int hd), (.ref rs)])) (fun t k => st47 t k) ?_
      obtain ⟨cl49, Ar49, S49, H49⟩ := id P3
      refine own_via (T47.setTop (mkF m 58 #[.val (.ref p0), .val (.int p1), .val (.int (0 : Int32)), .val (.int ct), .unset] [(.int (f hd.toInt.toNat))])) (fun t k => X47.iaload hx (j := hd) (v := (.int (f hd.toInt.toNat))) (by rw [e47]; exact Ar49.1) (State.isArrayOf_alike hZ.alike Ar49.2.1) Ar49.2.2 (own_in S49 (own_ix2 hI hz)) (own_at H49 (own_ix2 hI hz)) (g := (mkF m 57 #[.val (.ref p0), .val (.int p1), .val (.int (0 : Int32)), .val (.int ct), .unset] [(.int hd), (.ref rs)])) rfl rfl (hb hby d6_57) _ k) ?_
      refine own_via (T47.setTop (mkF m 59 #[.val (.ref p0), .val (.int p1), .val (.int (0 : Int32)), .val (.int ct), .unset] [(.int p1), (.int (f hd.toInt.toNat))])) (fun t k => XS.iloadN X47.here hx rfl (hb hby d6_58) rfl  k) ?_
      by_cases hf : p1 < (f hd.toInt.toNat)
      · refine own_via (T47.setTop (mkF m 62 #[.val (.ref p0), .val (.int p1), .val (.int (0 : Int32)), .val (.int ct), .unset] [])) (fun t k => XS.icmpNo X47.here hx rfl (hb hby d6_59) rfl (tlt hf).2.2.2 k) ?_
        refine own_via (T47.setTop (mkF m 63 #[.val (.ref p0), .val (.int p1), .val (.int (0 : Int32)), .val (.int ct), .unset] [(.int (0 : Int32))])) (fun t k => XS.iconst X47.here hx rfl (hb hby d6_62) k) ?_
        refine own_via (T47.setTop (mkF m 64 #[.val (.ref p0), .val (.int p1), .val (.int (0 : Int32)), .val (.int (0 : Int32)), .unset] [])) (fun t k => XS.istoreN X47.here hx rfl (hb hby d6_63) rfl (l' := #[.val (.ref p0), .val (.int p1), .val (.int (0 : Int32)), .val (.int (0 : Int32)), .unset]) rfl k) ?_
        exact loop 8 T47 _ X47 e47 N0 (0 : Int32) (0 : Int32) .unset (Or.inl rfl) (own_i2 hI hz hf).1 (own_i2 hI hz hf).2.1 (own_i2 hI hz hf).2.2
      · refine own_via (T47.setTop (mkF m 64 #[.val (.ref p0), .val (.int p1), .val (.int (0 : Int32)), .val (.int ct), .unset] [])) (fun t k => XS.icmpYes X47.here hx rfl (pc0 := 59) (pc' := 64) rfl (hb hby d6_59) rfl (flt hf).2.2.2 (by decide) (by decide) k) ?_
        exact loop 8 T47 _ X47 e47 N0 (0 : Int32) ct .unset (Or.inl rfl) (own_i3 (x := p1) hI hz).1 (own_i3 (x := p1) hI hz).2.1 (own_i3 (x := p1) hI hz).2.2
    · refine own_via (T42.setTop (mkF m 34 #[.val (.ref p0), .val (.int p1), .val (.int (0 : Int32)), .val (.int ct), .unset] [])) (fun t k => XS.icmpNo X42.here hx rfl (hb hby d6_31) rfl (flt hl).2.2.1 k) ?_
      refine own_via (T42.setTop (mkF m 35 #[.val (.ref p0), .val (.int p1), .val (.int (0 : Int32)), .val (.int ct), .unset] [(.ref p0)])) (fun t k => XS.aloadN X42.here hx rfl (hb hby d6_34) rfl rfl k) ?_
      obtain ⟨T50, X50, e50, st50⟩ := getF X42 hx hZ hown (host := "") (Or.inl (hw _ (List.mem_of_getElem? (i := 32) rfl))) Via.refl e42 P2 (g := (mkF m 35 #[.val (.ref p0), .val (.int p1), .val (.int (0 : Int32)), .val (.int ct), .unset] [(.ref p0)])) rfl rfl (hb hby d6_35)
      refine own_via (T50.setTop (mkF m 38 #[.val (.ref p0), .val (.int p1), .val (.int (0 : Int32)), .val (.int ct), .unset] [(.int ct)])) (fun t k => st50 t k) ?_
      refine own_via (T50.setTop (mkF m 39 #[.val (.ref p0), .val (.int p1), .val (.int ct), .val (.int ct), .unset] [])) (fun t k => XS.istoreN X50.here hx rfl (hb hby d6_38) rfl (l' := #[.val (.ref p0), .val (.int p1), .val (.int ct), .val (.int ct), .unset]) rfl k) ?_
      refine own_via (T50.setTop (mkF m 64 #[.val (.ref p0), .val (.int p1), .val (.int ct), .val (.int ct), .unset] [])) (fun t k => XS.goto X50.here hx rfl (pc0 := 39) (pc' := 64) rfl (hb hby d6_39) (by decide) (by decide) k) ?_
      exact loop 8 T50 _ X50 e50 N0 ct ct .unset (Or.inl rfl) (own_i1 hI hz hl).1 (own_i1 hI hz hl).2.1 (own_i1 hI hz hl).2.2
  · refine own_via (T39.setTop (mkF m 42 #[.val (.ref p0), .val (.int p1), .val (.int (0 : Int32)), .val (.int ct), .unset] [])) (fun t k => XS.ifYes X39.here hx rfl (pc0 := 11) (pc' := 42) rfl (hb hby d6_11) rfl ((if0 _ _).trans (flt hz).2.2.2) (by decide) (by decide) k) ?_
    refine own_via (T39.setTop (mkF m 43 #[.val (.ref p0), .val (.int p1), .val (.int (0 : Int32)), .val (.int ct), .unset] [(.ref p0)])) (fun t k => XS.aloadN X39.here hx rfl (hb hby d6_42) rfl rfl k) ?_
    obtain ⟨T51, X51, e51, st51⟩ := getF X39 hx hZ hown (host := "") (Or.inl (hw _ (List.mem_of_getElem? (i := 32) rfl))) Via.refl e39 P2 (g := (mkF m 43 #[.val (.ref p0), .val (.int p1), .val (.int (0 : Int32)), .val (.int ct), .unset] [(.ref p0)])) rfl rfl (hb hby d6_43)
    refine own_via (T51.setTop (mkF m 46 #[.val (.ref p0), .val (.int p1), .val (.int (0 : Int32)), .val (.int ct), .unset] [(.int ct)])) (fun t k => st51 t k) ?_
    refine own_via (T51.setTop (mkF m 64 #[.val (.ref p0), .val (.int p1), .val (.int (0 : Int32)), .val (.int ct), .unset] [])) (fun t k => XS.ifYes X51.here hx rfl (pc0 := 46) (pc' := 64) rfl (hb hby d6_46) rfl ((if0 _ _).trans (flt hz).2.2.2) (by decide) (by decide) k) ?_
    exact loop 8 T51 _ X51 e51 N0 (0 : Int32) ct .unset (Or.inl rfl) (own_i0 (x := p1) hI hz).1 (own_i0 (x := p1) hI hz).2.1 (own_i0 (x := p1) hI hz).2.2
def own_Q8 (Z : State) (p0 : Addr) (av : Int32) (p3 : Int32) (p4 : Int32) (rs : Addr) (hd : Int32) (ct : Int32) (f : Nat → Int32) (re : Addr) (g : Nat → Int32) (h0 : Heap) (n0 : Nat) (v : Option Value) (h : Heap) (L : List Loc) : Prop := v = none ∧ Fr n0 L ∧ Keep h0 h [p0, rs, re] ∧ Exa Z h p0 "com/example/honeyguide/honeyguide/Spans" ∧ Fld Z h p0 "com/example/honeyguide/honeyguide/Spans" "head" "I" (.int (own_nh hd ct av)) ∧ Fld Z h p0 "com/example/honeyguide/honeyguide/Spans" "count" "I" (.int (ct - (-1 : Int32))) ∧ Fld Z h p0 "com/example/honeyguide/honeyguide/Spans" "starts" "[I" (.ref rs) ∧ Fld Z h p0 "com/example/honeyguide/honeyguide/Spans" "ends" "[I" (.ref re) ∧ own_A Z h rs .int 8 (own_nf f hd ct av p3) ∧ own_A Z h re .int 8 (own_nf g hd ct av p4)
theorem d8_0 : decode prog_161_method_9_code 0 = .ok (.iload_n 2, 1) := by decide +kernel
theorem d8_1 : decode prog_161_method_9_code 1 = .ok (.iload_n 1, 1) := by decide +kernel
theorem d8_2 : decode prog_161_method_9_code 2 = .ok (.isub, 1) := by decide +kernel
theorem d8_3 : decode prog_161_method_9_code 3 = .ok (.iconst 1, 1) := by decide +kernel
theorem d8_4 : decode prog_161_method_9_code 4 = .ok (.isub, 1) := by decide +kernel
theorem d8_5 : decode prog_161_method_9_code 5 = .ok (.istore 5, 2) := by decide +kernel
theorem d8_7 : decode prog_161_method_9_code 7 = .ok (.iload_n 1, 1) := by decide +kernel
theorem d8_8 : decode prog_161_method_9_code 8 = .ok (.istore 6, 2) := by decide +kernel
theorem d8_10 : decode prog_161_method_9_code 10 = .ok (.aload_n 0, 1) := by decide +kernel
theorem d8_11 : decode prog_161_method_9_code 11 = .ok (.getfield 20, 3) := by decide +kernel
theorem d8_14 : decode prog_161_method_9_code 14 = .ok (.iload_n 2, 1) := by decide +kernel
theorem d8_15 : decode prog_161_method_9_code 15 = .ok (.isub, 1) := by decide +kernel
theorem d8_16 : decode prog_161_method_9_code 16 = .ok (.istore 7, 2) := by decide +kernel
theorem d8_18 : decode prog_161_method_9_code 18 = .ok (.iload 5, 2) := by decide +kernel
theorem d8_20 : decode prog_161_method_9_code 20 = .ok (.ifCond .ge 41, 3) := by decide +kernel
theorem d8_23 : decode prog_161_method_9_code 23 = .ok (.iload 6, 2) := by decide +kernel
theorem d8_25 : decode prog_161_method_9_code 25 = .ok (.iload 7, 2) := by decide +kernel
theorem d8_27 : decode prog_161_method_9_code 27 = .ok (.if_icmp .gt 13, 3) := by decide +kernel
theorem d8_30 : decode prog_161_method_9_code 30 = .ok (.aload_n 0, 1) := by decide +kernel
theorem d8_31 : decode prog_161_method_9_code 31 = .ok (.getfield 16, 3) := by decide +kernel
theorem d8_34 : decode prog_161_method_9_code 34 = .ok (.ifCond .ne 27, 3) := by decide +kernel
theorem d8_40 : decode prog_161_method_9_code 40 = .ok (.aload_n 0, 1) := by decide +kernel
theorem d8_41 : decode prog_161_method_9_code 41 = .ok (.getfield 16, 3) := by decide +kernel
theorem d8_44 : decode prog_161_method_9_code 44 = .ok (.aload_n 0, 1) := by decide +kernel
theorem d8_45 : decode prog_161_method_9_code 45 = .ok (.getfield 20, 3) := by decide +kernel
theorem d8_48 : decode prog_161_method_9_code 48 = .ok (.iadd, 1) := by decide +kernel
theorem d8_49 : decode prog_161_method_9_code 49 = .ok (.aload_n 0, 1) := by decide +kernel
theorem d8_50 : decode prog_161_method_9_code 50 = .ok (.getfield 7, 3) := by decide +kernel
theorem d8_53 : decode prog_161_method_9_code 53 = .ok (.arraylength, 1) := by decide +kernel
theorem d8_54 : decode prog_161_method_9_code 54 = .ok (.if_icmp .ne 7, 3) := by decide +kernel
theorem d8_61 : decode prog_161_method_9_code 61 = .ok (.iload 6, 2) := by decide +kernel
theorem d8_63 : decode prog_161_method_9_code 63 = .ok (.iload 7, 2) := by decide +kernel
theorem d8_65 : decode prog_161_method_9_code 65 = .ok (.if_icmp .gt 65, 3) := by decide +kernel
theorem d8_68 : decode prog_161_method_9_code 68 = .ok (.aload_n 0, 1) := by decide +kernel
theorem d8_69 : decode prog_161_method_9_code 69 = .ok (.getfield 7, 3) := by decide +kernel
theorem d8_72 : decode prog_161_method_9_code 72 = .ok (.aload_n 0, 1) := by decide +kernel
theorem d8_73 : decode prog_161_method_9_code 73 = .ok (.getfield 16, 3) := by decide +kernel
theorem d8_76 : decode prog_161_method_9_code 76 = .ok (.aload_n 0, 1) := by decide +kernel
theorem d8_77 : decode prog_161_method_9_code 77 = .ok (.getfield 7, 3) := by decide +kernel
theorem d8_80 : decode prog_161_method_9_code 80 = .ok (.aload_n 0, 1) := by decide +kernel
theorem d8_81 : decode prog_161_method_9_code 81 = .ok (.getfield 16, 3) := by decide +kernel
theorem d8_84 : decode prog_161_method_9_code 84 = .ok (.iload 5, 2) := by decide +kernel
theorem d8_86 : decode prog_161_method_9_code 86 = .ok (.iadd, 1) := by decide +kernel
theorem d8_87 : decode prog_161_method_9_code 87 = .ok (.iload 6, 2) := by decide +kernel
theorem d8_89 : decode prog_161_method_9_code 89 = .ok (.invokestatic 34, 3) := by decide +kernel
theorem d8_92 : decode prog_161_method_9_code 92 = .ok (.aload_n 0, 1) := by decide +kernel
theorem d8_93 : decode prog_161_method_9_code 93 = .ok (.getfield 13, 3) := by decide +kernel
theorem d8_96 : decode prog_161_method_9_code 96 = .ok (.aload_n 0, 1) := by decide +kernel
theorem d8_97 : decode prog_161_method_9_code 97 = .ok (.getfield 16, 3) := by decide +kernel
theorem d8_100 : decode prog_161_method_9_code 100 = .ok (.aload_n 0, 1) := by decide +kernel
theorem d8_101 : decode prog_161_method_9_code 101 = .ok (.getfield 13, 3) := by decide +kernel
theorem d8_104 : decode prog_161_method_9_code 104 = .ok (.aload_n 0, 1) := by decide +kernel
theorem d8_105 : decode prog_161_method_9_code 105 = .ok (.getfield 16, 3) := by decide +kernel
theorem d8_108 : decode prog_161_method_9_code 108 = .ok (.iload 5, 2) := by decide +kernel
theorem d8_110 : decode prog_161_method_9_code 110 = .ok (.iadd, 1) := by decide +kernel
theorem d8_111 : decode prog_161_method_9_code 111 = .ok (.iload 6, 2) := by decide +kernel
theorem d8_113 : decode prog_161_method_9_code 113 = .ok (.invokestatic 34, 3) := by decide +kernel
theorem d8_116 : decode prog_161_method_9_code 116 = .ok (.aload_n 0, 1) := by decide +kernel
theorem d8_117 : decode prog_161_method_9_code 117 = .ok (.dup, 1) := by decide +kernel
theorem d8_118 : decode prog_161_method_9_code 118 = .ok (.getfield 16, 3) := by decide +kernel
theorem d8_121 : decode prog_161_method_9_code 121 = .ok (.iload 5, 2) := by decide +kernel
theorem d8_123 : decode prog_161_method_9_code 123 = .ok (.iadd, 1) := by decide +kernel
theorem d8_124 : decode prog_161_method_9_code 124 = .ok (.putfield 16, 3) := by decide +kernel
theorem d8_127 : decode prog_161_method_9_code 127 = .ok (.goto 59, 3) := by decide +kernel
theorem d8_130 : decode prog_161_method_9_code 130 = .ok (.aload_n 0, 1) := by decide +kernel
theorem d8_131 : decode prog_161_method_9_code 131 = .ok (.getfield 7, 3) := by decide +kernel
theorem d8_134 : decode prog_161_method_9_code 134 = .ok (.aload_n 0, 1) := by decide +kernel
theorem d8_135 : decode prog_161_method_9_code 135 = .ok (.getfield 16, 3) := by decide +kernel
theorem d8_138 : decode prog_161_method_9_code 138 = .ok (.iload_n 2, 1) := by decide +kernel
theorem d8_139 : decode prog_161_method_9_code 139 = .ok (.iadd, 1) := by decide +kernel
theorem d8_140 : decode prog_161_method_9_code 140 = .ok (.aload_n 0, 1) := by decide +kernel
theorem d8_141 : decode prog_161_method_9_code 141 = .ok (.getfield 7, 3) := by decide +kernel
theorem d8_144 : decode prog_161_method_9_code 144 = .ok (.aload_n 0, 1) := by decide +kernel
theorem d8_145 : decode prog_161_method_9_code 145 = .ok (.getfield 16, 3) := by decide +kernel
theorem d8_148 : decode prog_161_method_9_code 148 = .ok (.iload_n 2, 1) := by decide +kernel
theorem d8_149 : decode prog_161_method_9_code 149 = .ok (.iadd, 1) := by decide +kernel
theorem d8_150 : decode prog_161_method_9_code 150 = .ok (.iload 5, 2) := by decide +kernel
theorem d8_152 : decode prog_161_method_9_code 152 = .ok (.isub, 1) := by decide +kernel
theorem d8_153 : decode prog_161_method_9_code 153 = .ok (.iload 7, 2) := by decide +kernel
theorem d8_155 : decode prog_161_method_9_code 155 = .ok (.invokestatic 34, 3) := by decide +kernel
theorem d8_158 : decode prog_161_method_9_code 158 = .ok (.aload_n 0, 1) := by decide +kernel
theorem d8_159 : decode prog_161_method_9_code 159 = .ok (.getfield 13, 3) := by decide +kernel
theorem d8_162 : decode prog_161_method_9_code 162 = .ok (.aload_n 0, 1) := by decide +kernel
theorem d8_163 : decode prog_161_method_9_code 163 = .ok (.getfield 16, 3) := by decide +kernel
theorem d8_166 : decode prog_161_method_9_code 166 = .ok (.iload_n 2, 1) := by decide +kernel
theorem d8_167 : decode prog_161_method_9_code 167 = .ok (.iadd, 1) := by decide +kernel
theorem d8_168 : decode prog_161_method_9_code 168 = .ok (.aload_n 0, 1) := by decide +kernel
theorem d8_169 : decode prog_161_method_9_code 169 = .ok (.getfield 13, 3) := by decide +kernel
theorem d8_172 : decode prog_161_method_9_code 172 = .ok (.aload_n 0, 1) := by decide +kernel
theorem d8_173 : decode prog_161_method_9_code 173 = .ok (.getfield 16, 3) := by decide +kernel
theorem d8_176 : decode prog_161_method_9_code 176 = .ok (.iload_n 2, 1) := by decide +kernel
theorem d8_177 : decode prog_161_method_9_code 177 = .ok (.iadd, 1) := by decide +kernel
theorem d8_178 : decode prog_161_method_9_code 178 = .ok (.iload 5, 2) := by decide +kernel
theorem d8_180 : decode prog_161_method_9_code 180 = .ok (.isub, 1) := by decide +kernel
theorem d8_181 : decode prog_161_method_9_code 181 = .ok (.iload 7, 2) := by decide +kernel
theorem d8_183 : decode prog_161_method_9_code 183 = .ok (.invokestatic 34, 3) := by decide +kernel
theorem d8_186 : decode prog_161_method_9_code 186 = .ok (.aload_n 0, 1) := by decide +kernel
theorem d8_187 : decode prog_161_method_9_code 187 = .ok (.getfield 7, 3) := by decide +kernel
theorem d8_190 : decode prog_161_method_9_code 190 = .ok (.aload_n 0, 1) := by decide +kernel
theorem d8_191 : decode prog_161_method_9_code 191 = .ok (.getfield 16, 3) := by decide +kernel
theorem d8_194 : decode prog_161_method_9_code 194 = .ok (.iload_n 1, 1) := by decide +kernel
theorem d8_195 : decode prog_161_method_9_code 195 = .ok (.iadd, 1) := by decide +kernel
theorem d8_196 : decode prog_161_method_9_code 196 = .ok (.iload_n 3, 1) := by decide +kernel
theorem d8_197 : decode prog_161_method_9_code 197 = .ok (.iastore, 1) := by decide +kernel
theorem d8_198 : decode prog_161_method_9_code 198 = .ok (.aload_n 0, 1) := by decide +kernel
theorem d8_199 : decode prog_161_method_9_code 199 = .ok (.getfield 13, 3) := by decide +kernel
theorem d8_202 : decode prog_161_method_9_code 202 = .ok (.aload_n 0, 1) := by decide +kernel
theorem d8_203 : decode prog_161_method_9_code 203 = .ok (.getfield 16, 3) := by decide +kernel
theorem d8_206 : decode prog_161_method_9_code 206 = .ok (.iload_n 1, 1) := by decide +kernel
theorem d8_207 : decode prog_161_method_9_code 207 = .ok (.iadd, 1) := by decide +kernel
theorem d8_208 : decode prog_161_method_9_code 208 = .ok (.iload 4, 2) := by decide +kernel
theorem d8_210 : decode prog_161_method_9_code 210 = .ok (.iastore, 1) := by decide +kernel
theorem d8_211 : decode prog_161_method_9_code 211 = .ok (.aload_n 0, 1) := by decide +kernel
theorem d8_212 : decode prog_161_method_9_code 212 = .ok (.dup, 1) := by decide +kernel
theorem d8_213 : decode prog_161_method_9_code 213 = .ok (.getfield 20, 3) := by decide +kernel
theorem d8_216 : decode prog_161_method_9_code 216 = .ok (.iload 5, 2) := by decide +kernel
theorem d8_218 : decode prog_161_method_9_code 218 = .ok (.isub, 1) := by decide +kernel
theorem d8_219 : decode prog_161_method_9_code 219 = .ok (.putfield 20, 3) := by decide +kernel
theorem d8_222 : decode prog_161_method_9_code 222 = .ok (.return_, 1) := by decide +kernel
theorem ef_8 (m : MethodId) (p0 : Addr) (av : Int32) (p3 : Int32) (p4 : Int32) : entryFrame m #[(.ref p0), (.int av), (.int av), (.int p3), (.int p4)] 8 = mkF m 0 #[.val (.ref p0), .val (.int av), .val (.int av), .val (.int p3), .val (.int p4), .unset, .unset, .unset] [] := by first | (simp [entryFrame, mkF, argsToLocals, Value.category]; done) | rfl
set_option maxRecDepth 65536 in
set_option maxHeartbeats 40000000 in
theorem rm8 (l : Launch) (Z : State) (a0 : Array Value) (hw : ∀ d ∈ tables_1, d.before a0 Z = true) (ws : List Jvm.Cond) (p0 : Addr) (av : Int32) (p3 : Int32) (p4 : Int32) (h0 : Heap) (n0 : Nat) (Z0 : n0 ≤ h0.size) (rs : Addr) (hd : Int32) (ct : Int32) (f : Nat → Int32) (re : Addr) (g : Nat → Int32) (P0 : Fld Z h0 p0 "com/example/honeyguide/honeyguide/Spans" "starts" "[I" (.ref rs)) (P1 : Fld Z h0 p0 "com/example/honeyguide/honeyguide/Spans" "head" "I" (.int hd)) (P2 : Fld Z h0 p0 "com/example/honeyguide/honeyguide/Spans" "count" "I" (.int ct)) (P3 : own_A Z h0 rs .int 8 f) (P4 : Fld Z h0 p0 "com/example/honeyguide/honeyguide/Spans" "ends" "[I" (.ref re)) (P5 : own_A Z h0 re .int 8 g) (P6 : Exa Z h0 p0 "com/example/honeyguide/honeyguide/Spans") (gg_p0 : n0 ≤ p0) (gg_rs : n0 ≤ rs) (gg_re : n0 ≤ re) (hI : own_Inv f hd ct) (hc : ct.toInt ≤ 3) (hn1 : p0 ≠ rs) (hn2 : p0 ≠ re) (hn3 : rs ≠ re) (ha : 0 ≤ av.toInt ∧ av.toInt ≤ ct.toInt) :
    MetFree l (⟨"com/example/honeyguide/honeyguide/Spans", "replace", "(IIII)V"⟩ : MethodName) (head1 (Jvm.Cond.code (⟨"com/example/honeyguide/honeyguide/Spans", "replace", "(IIII)V"⟩ : MethodName) prog_161_method_9_code 8 none :: ws) ({ frames := 1, cells := 0, slots := 0, locals := 40 } : Room)) (fun a U => a = #[(.ref p0), (.int av), (.int av), (.int p3), (.int p4)] ∧ Z.Warmed39 U.vm ∧ U.heap = h0) (fun _ _ _ _ _ => True) (fun _ U o U' => ∃ v L, o = .returned v ∧ (own_Q8 Z p0 av p3 p4 rs hd ct f re g h0 n0) v U'.heap L ∧ FrameEnd U o U' L ({ frames := 1, cells := 0, slots := 0, locals := 40 } : Room).cells ({ frames := 1, cells := 0, slots := 0, locals := 40 } : Room).slots) := by
  refine MetFree.of_bodySF (plainFor_of_name pn_com_example_honeyguide_honeyguide_Spans) hisR ?_
  intro p e s m args below meth c s₁ Bd hml0 hP hK
  obtain ⟨rfl, hZ, hh⟩ := hP
  have hx := Bd.exec
  have hby := Bd.bytes
  have hml : c.maxLocals = 8 := hml0
  have hown : s.vm.findClass "com/example/honeyguide/honeyguide/Spans" = some m.cls := findClass_of_methodNamed Bd.named
  have hnm := (name_of_methodNamed Bd.named Bd.method).1
  have X0 : Stand p l e ({ frames := 1, cells := 0, slots := 0, locals := 40 } : Room) s m #[(.ref p0), (.int av), (.int av), (.int p3), (.int p4)] below meth c s₁ [] 0 0 := Stand.of_body Bd
  have e0 : s₁.heap = h0 := by rw [← hh, Bd.state]; rfl
  have N0 := Fr.nil n0
  refine own_body (QQ := (own_Q8 Z p0 av p3 p4 rs hd ct f re g h0 n0)) (ef_8 m p0 av p3 p4) ?_
  refine own_via (s₁.setTop (mkF m 1 #[.val (.ref p0), .val (.int av), .val (.int av), .val (.int p3), .val (.int p4), .unset, .unset, .unset] [(.int av)])) (fun t k => XS.iloadN X0.here hx rfl (hb hby d8_0) rfl  k) ?_
  refine own_via (s₁.setTop (mkF m 2 #[.val (.ref p0), .val (.int av), .val (.int av), .val (.int p3), .val (.int p4), .unset, .unset, .unset] [(.int av), (.int av)])) (fun t k => XS.iloadN X0.here hx rfl (hb hby d8_1) rfl  k) ?_
  refine own_via (s₁.setTop (mkF m 3 #[.val (.ref p0), .val (.int av), .val (.int av), .val (.int p3), .val (.int p4), .unset, .unset, .unset] [(.int (av - av))])) (fun t k => XS.isub X0.here hx rfl (hb hby d8_2) rfl k) ?_
  refine own_via (s₁.setTop (mkF m 4 #[.val (.ref p0), .val (.int av), .val (.int av), .val (.int p3), .val (.int p4), .unset, .unset, .unset] [(.int (1 : Int32)), (.int (av - av))])) (fun t k => XS.iconst X0.here hx rfl (hb hby d8_3) k) ?_
  refine own_via (s₁.setTop (mkF m 5 #[.val (.ref p0), .val (.int av), .val (.int av), .val (.int p3), .val (.int p4), .unset, .unset, .unset] [(.int ((av - av) - (1 : Int32)))])) (fun t k => XS.isub X0.here hx rfl (hb hby d8_4) rfl k) ?_
  refine own_via (s₁.setTop (mkF m 5 #[.val (.ref p0), .val (.int av), .val (.int av), .val (.int p3), .val (.int p4), .unset, .unset, .unset] [(.int (-1 : Int32))])) (fun t k => by rw [own_sub1 av]; exact k) ?_
  refine own_via (s₁.setTop (mkF m 7 #[.val (.ref p0), .val (.int av), .val (.int av), .val (.int p3), .val (.int p4), .val (.int (-1 : Int32)), .unset, .unset] [])) (fun t k => XS.istore X0.here hx rfl (hb hby d8_5) rfl (l' := #[.val (.ref p0), .val (.int av), .val (.int av), .val (.int p3), .val (.int p4), .val (.int (-1 : Int32)), .unset, .unset]) rfl k) ?_
  refine own_via (s₁.setTop (mkF m 8 #[.val (.ref p0), .val (.int av), .val (.int av), .val (.int p3), .val (.int p4), .val (.int (-1 : Int32)), .unset, .unset] [(.int av)])) (fun t k => XS.iloadN X0.here hx rfl (hb hby d8_7) rfl  k) ?_
  refine own_via (s₁.setTop (mkF m 10 #[.val (.ref p0), .val (.int av), .val (.int av), .val (.int p3), .val (.int p4), .val (.int (-1 : Int32)), .val (.int av), .unset] [])) (fun t k => XS.istore X0.here hx rfl (hb hby d8_8) rfl (l' := #[.val (.ref p0), .val (.int av), .val (.int av), .val (.int p3), .val (.int p4), .val (.int (-1 : Int32)), .val (.int av), .unset]) rfl k) ?_
  refine own_via (s₁.setTop (mkF m 11 #[.val (.ref p0), .val (.int av), .val (.int av), .val (.int p3), .val (.int p4), .val (.int (-1 : Int32)), .val (.int av), .unset] [(.ref p0)])) (fun t k => XS.aloadN X0.here hx rfl (hb hby d8_10) rfl rfl k) ?_
  obtain ⟨T52, X52, e52, st52⟩ := getF X0 hx hZ hown (host := "") (Or.inl (hw _ (List.mem_of_getElem? (i := 32) rfl))) Via.refl e0 P2 (g := (mkF m 11 #[.val (.ref p0), .val (.int av), .val (.int av), .val (.int p3), .val (.int p4), .val (.int (-1 : Int32)), .val (.int av), .unset] [(.ref p0)])) rfl rfl (hb hby d8_11)
  refine own_via (T52.setTop (mkF m 14 #[.val (.ref p0), .val (.int av), .val (.int av), .val (.int p3), .val (.int p4), .val (.int (-1 : Int32)), .val (.int av), .unset] [(.int ct)])) (fun t k => st52 t k) ?_
  refine own_via (T52.setTop (mkF m 15 #[.val (.ref p0), .val (.int av), .val (.int av), .val (.int p3), .val (.int p4), .val (.int (-1 : Int32)), .val (.int av), .unset] [(.int av), (.int ct)])) (fun t k => XS.iloadN X52.here hx rfl (hb hby d8_14) rfl  k) ?_
  refine own_via (T52.setTop (mkF m 16 #[.val (.ref p0), .val (.int av), .val (.int av), .val (.int p3), .val (.int p4), .val (.int (-1 : Int32)), .val (.int av), .unset] [(.int (ct - av))])) (fun t k => XS.isub X52.here hx rfl (hb hby d8_15) rfl k) ?_
  refine own_via (T52.setTop (mkF m 18 #[.val (.ref p0), .val (.int av), .val (.int av), .val (.int p3), .val (.int p4), .val (.int (-1 : Int32)), .val (.int av), .val (.int (ct - av))] [])) (fun t k => XS.istore X52.here hx rfl (hb hby d8_16) rfl (l' := #[.val (.ref p0), .val (.int av), .val (.int av), .val (.int p3), .val (.int p4), .val (.int (-1 : Int32)), .val (.int av), .val (.int (ct - av))]) rfl k) ?_
  refine own_via (T52.setTop (mkF m 20 #[.val (.ref p0), .val (.int av), .val (.int av), .val (.int p3), .val (.int p4), .val (.int (-1 : Int32)), .val (.int av), .val (.int (ct - av))] [(.int (-1 : Int32))])) (fun t k => XS.iload X52.here hx rfl (hb hby d8_18) rfl  k) ?_
  refine own_via (T52.setTop (mkF m 23 #[.val (.ref p0), .val (.int av), .val (.int av), .val (.int p3), .val (.int p4), .val (.int (-1 : Int32)), .val (.int av), .val (.int (ct - av))] [])) (fun t k => XS.ifNo X52.here hx rfl (hb hby d8_20) rfl ((if0 _ _).trans (tlt (by decide)).2.1) k) ?_
  refine own_via (T52.setTop (mkF m 25 #[.val (.ref p0), .val (.int av), .val (.int av), .val (.int p3), .val (.int p4), .val (.int (-1 : Int32)), .val (.int av), .val (.int (ct - av))] [(.int av)])) (fun t k => XS.iload X52.here hx rfl (hb hby d8_23) rfl  k) ?_
  refine own_via (T52.setTop (mkF m 27 #[.val (.ref p0), .val (.int av), .val (.int av), .val (.int p3), .val (.int p4), .val (.int (-1 : Int32)), .val (.int av), .val (.int (ct - av))] [(.int (ct - av)), (.int av)])) (fun t k => XS.iload X52.here hx rfl (hb hby d8_25) rfl  k) ?_
  by_cases hba : (ct - av) < av
  · refine own_via (T52.setTop (mkF m 40 #[.val (.ref p0), .val (.int av), .val (.int av), .val (.int p3), .val (.int p4), .val (.int (-1 : Int32)), .val (.int av), .val (.int (ct - av))] [])) (fun t k => XS.icmpYes X52.here hx rfl (pc0 := 27) (pc' := 40) rfl (hb hby d8_27) rfl (tlt hba).2.2.1 (by decide) (by decide) k) ?_
    refine own_via (T52.setTop (mkF m 41 #[.val (.ref p0), .val (.int av), .val (.int av), .val (.int p3), .val (.int p4), .val (.int (-1 : Int32)), .val (.int av), .val (.int (ct - av))] [(.ref p0)])) (fun t k => XS.aloadN X52.here hx rfl (hb hby d8_40) rfl rfl k) ?_
    obtain ⟨T53, X53, e53, st53⟩ := getF X52 hx hZ hown (host := "") (Or.inl (hw _ (List.mem_of_getElem? (i := 17) rfl))) Via.refl e52 P1 (g := (mkF m 41 #[.val (.ref p0), .val (.int av), .val (.int av), .val (.int p3), .val (.int p4), .val (.int (-1 : Int32)), .val (.int av), .val (.int (ct - av))] [(.ref p0)])) rfl rfl (hb hby d8_41)
    refine own_via (T53.setTop (mkF m 44 #[.val (.ref p0), .val (.int av), .val (.int av), .val (.int p3), .val (.int p4), .val (.int (-1 : Int32)), .val (.int av), .val (.int (ct - av))] [(.int hd)])) (fun t k => st53 t k) ?_
    refine own_via (T53.setTop (mkF m 45 #[.val (.ref p0), .val (.int av), .val (.int av), .val (.int p3), .val (.int p4), .val (.int (-1 : Int32)), .val (.int av), .val (.int (ct - av))] [(.ref p0), (.int hd)])) (fun t k => XS.aloadN X53.here hx rfl (hb hby d8_44) rfl rfl k) ?_
    obtain ⟨T54, X54, e54, st54⟩ := getF X53 hx hZ hown (host := "") (Or.inl (hw _ (List.mem_of_getElem? (i := 32) rfl))) Via.refl e53 P2 (g := (mkF m 45 #[.val (.ref p0), .val (.int av), .val (.int av), .val (.int p3), .val (.int p4), .val (.int (-1 : Int32)), .val (.int av), .val (.int (ct - av))] [(.ref p0), (.int hd)])) rfl rfl (hb hby d8_45)
    refine own_via (T54.setTop (mkF m 48 #[.val (.ref p0), .val (.int av), .val (.int av), .val (.int p3), .val (.int p4), .val (.int (-1 : Int32)), .val (.int av), .val (.int (ct - av))] [(.int ct), (.int hd)])) (fun t k => st54 t k) ?_
    refine own_via (T54.setTop (mkF m 49 #[.val (.ref p0), .val (.int av), .val (.int av), .val (.int p3), .val (.int p4), .val (.int (-1 : Int32)), .val (.int av), .val (.int (ct - av))] [(.int (hd + ct))])) (fun t k => XS.iadd X54.here hx rfl (hb hby d8_48) rfl k) ?_
    refine own_via (T54.setTop (mkF m 50 #[.val (.ref p0), .val (.int av), .val (.int av), .val (.int p3), .val (.int p4), .val (.int (-1 : Int32)), .val (.int av), .val (.int (ct - av))] [(.ref p0), (.int (hd + ct))])) (fun t k => XS.aloadN X54.here hx rfl (hb hby d8_49) rfl rfl k) ?_
    obtain ⟨T55, X55, e55, st55⟩ := getF X54 hx hZ hown (host := "") (Or.inl (hw _ (List.mem_of_getElem? (i := 13) rfl))) Via.refl e54 P0 (g := (mkF m 50 #[.val (.ref p0), .val (.int av), .val (.int av), .val (.int p3), .val (.int p4), .val (.int (-1 : Int32)), .val (.int av), .val (.int (ct - av))] [(.ref p0), (.int (hd + ct))])) rfl rfl (hb hby d8_50)
    refine own_via (T55.setTop (mkF m 53 #[.val (.ref p0), .val (.int av), .val (.int av), .val (.int p3), .val (.int p4), .val (.int (-1 : Int32)), .val (.int av), .val (.int (ct - av))] [(.ref rs), (.int (hd + ct))])) (fun t k => st55 t k) ?_
    obtain ⟨cl57, Ar57, S57, H57⟩ := id P3
    refine own_via (T55.setTop (mkF m 54 #[.val (.ref p0), .val (.int av), .val (.int av), .val (.int p3), .val (.int p4), .val (.int (-1 : Int32)), .val (.int av), .val (.int (ct - av))] [(.int (Nat.toInt32 8)), (.int (hd + ct))])) (fun t k => X55.arraylength hx (by rw [e55]; exact Ar57.1) (State.isArrayOf_alike hZ.alike Ar57.2.1) (g := (mkF m 53 #[.val (.ref p0), .val (.int av), .val (.int av), .val (.int p3), .val (.int p4), .val (.int (-1 : Int32)), .val (.int av), .val (.int (ct - av))] [(.ref rs), (.int (hd + ct))])) rfl rfl (hb hby d8_53) _ (by rw [S57]; exact k)) ?_
    refine own_via (T55.setTop (mkF m 61 #[.val (.ref p0), .val (.int av), .val (.int av), .val (.int p3), .val (.int p4), .val (.int (-1 : Int32)), .val (.int av), .val (.int (ct - av))] [])) (fun t k => XS.icmpYes X55.here hx rfl (pc0 := 54) (pc' := 61) rfl (hb hby d8_54) rfl (feq (own_fl hI hc)).2 (by decide) (by decide) k) ?_
    refine own_via (T55.setTop (mkF m 63 #[.val (.ref p0), .val (.int av), .val (.int av), .val (.int p3), .val (.int p4), .val (.int (-1 : Int32)), .val (.int av), .val (.int (ct - av))] [(.int av)])) (fun t k => XS.iload X55.here hx rfl (hb hby d8_61) rfl  k) ?_
    refine own_via (T55.setTop (mkF m 65 #[.val (.ref p0), .val (.int av), .val (.int av), .val (.int p3), .val (.int p4), .val (.int (-1 : Int32)), .val (.int av), .val (.int (ct - av))] [(.int (ct - av)), (.int av)])) (fun t k => XS.iload X55.here hx rfl (hb hby d8_63) rfl  k) ?_
    refine own_via (T55.setTop (mkF m 130 #[.val (.ref p0), .val (.int av), .val (.int av), .val (.int p3), .val (.int p4), .val (.int (-1 : Int32)), .val (.int av), .val (.int (ct - av))] [])) (fun t k => XS.icmpYes X55.here hx rfl (pc0 := 65) (pc' := 130) rfl (hb hby d8_65) rfl (tlt hba).2.2.1 (by decide) (by decide) k) ?_
    refine own_via (T55.setTop (mkF m 131 #[.val (.ref p0), .val (.int av), .val (.int av), .val (.int p3), .val (.int p4), .val (.int (-1 : Int32)), .val (.int av), .val (.int (ct - av))] [(.ref p0)])) (fun t k => XS.aloadN X55.here hx rfl (hb hby d8_130) rfl rfl k) ?_
    obtain ⟨T58, X58, e58, st58⟩ := getF X55 hx hZ hown (host := "") (Or.inl (hw _ (List.mem_of_getElem? (i := 13) rfl))) Via.refl e55 P0 (g := (mkF m 131 #[.val (.ref p0), .val (.int av), .val (.int av), .val (.int p3), .val (.int p4), .val (.int (-1 : Int32)), .val (.int av), .val (.int (ct - av))] [(.ref p0)])) rfl rfl (hb hby d8_131)
    refine own_via (T58.setTop (mkF m 134 #[.val (.ref p0), .val (.int av), .val (.int av), .val (.int p3), .val (.int p4), .val (.int (-1 : Int32)), .val (.int av), .val (.int (ct - av))] [(.ref rs)])) (fun t k => st58 t k) ?_
    refine own_via (T58.setTop (mkF m 135 #[.val (.ref p0), .val (.int av), .val (.int av), .val (.int p3), .val (.int p4), .val (.int (-1 : Int32)), .val (.int av), .val (.int (ct - av))] [(.ref p0), (.ref rs)])) (fun t k => XS.aloadN X58.here hx rfl (hb hby d8_134) rfl rfl k) ?_
    obtain ⟨T59, X59, e59, st59⟩ := getF X58 hx hZ hown (host := "") (Or.inl (hw _ (List.mem_of_getElem? (i := 17) rfl))) Via.refl e58 P1 (g := (mkF m 135 #[.val (.ref p0), .val (.int av), .val (.int av), .val (.int p3), .val (.int p4), .val (.int (-1 : Int32)), .val (.int av), .val (.int (ct - av))] [(.ref p0), (.ref rs)])) rfl rfl (hb hby d8_135)
    refine own_via (T59.setTop (mkF m 138 #[.val (.ref p0), .val (.int av), .val (.int av), .val (.int p3), .val (.int p4), .val (.int (-1 : Int32)), .val (.int av), .val (.int (ct - av))] [(.int hd), (.ref rs)])) (fun t k => st59 t k) ?_
    refine own_via (T59.setTop (mkF m 139 #[.val (.ref p0), .val (.int av), .val (.int av), .val (.int p3), .val (.int p4), .val (.int (-1 : Int32)), .val (.int av), .val (.int (ct - av))] [(.int av), (.int hd), (.ref rs)])) (fun t k => XS.iloadN X59.here hx rfl (hb hby d8_138) rfl  k) ?_
    refine own_via (T59.setTop (mkF m 140 #[.val (.ref p0), .val (.int av), .val (.int av), .val (.int p3), .val (.int p4), .val (.int (-1 : Int32)), .val (.int av), .val (.int (ct - av))] [(.int (hd + av)), (.ref rs)])) (fun t k => XS.iadd X59.here hx rfl (hb hby d8_139) rfl k) ?_
    refine own_via (T59.setTop (mkF m 141 #[.val (.ref p0), .val (.int av), .val (.int av), .val (.int p3), .val (.int p4), .val (.int (-1 : Int32)), .val (.int av), .val (.int (ct - av))] [(.ref p0), (.int (hd + av)), (.ref rs)])) (fun t k => XS.aloadN X59.here hx rfl (hb hby d8_140) rfl rfl k) ?_
    obtain ⟨T60, X60, e60, st60⟩ := getF X59 hx hZ hown (host := "") (Or.inl (hw _ (List.mem_of_getElem? (i := 13) rfl))) Via.refl e59 P0 (g := (mkF m 141 #[.val (.ref p0), .val (.int av), .val (.int av), .val (.int p3), .val (.int p4), .val (.int (-1 : Int32)), .val (.int av), .val (.int (ct - av))] [(.ref p0), (.int (hd + av)), (.ref rs)])) rfl rfl (hb hby d8_141)
    refine own_via (T60.setTop (mkF m 144 #[.val (.ref p0), .val (.int av), .val (.int av), .val (.int p3), .val (.int p4), .val (.int (-1 : Int32)), .val (.int av), .val (.int (ct - av))] [(.ref rs), (.int (hd + av)), (.ref rs)])) (fun t k => st60 t k) ?_
    refine own_via (T60.setTop (mkF m 145 #[.val (.ref p0), .val (.int av), .val (.int av), .val (.int p3), .val (.int p4), .val (.int (-1 : Int32)), .val (.int av), .val (.int (ct - av))] [(.ref p0), (.ref rs), (.int (hd + av)), (.ref rs)])) (fun t k => XS.aloadN X60.here hx rfl (hb hby d8_144) rfl rfl k) ?_
    obtain ⟨T61, X61, e61, st61⟩ := getF X60 hx hZ hown (host := "") (Or.inl (hw _ (List.mem_of_getElem? (i := 17) rfl))) Via.refl e60 P1 (g := (mkF m 145 #[.val (.ref p0), .val (.int av), .val (.int av), .val (.int p3), .val (.int p4), .val (.int (-1 : Int32)), .val (.int av), .val (.int (ct - av))] [(.ref p0), (.ref rs), (.int (hd + av)), (.ref rs)])) rfl rfl (hb hby d8_145)
    refine own_via (T61.setTop (mkF m 148 #[.val (.ref p0), .val (.int av), .val (.int av), .val (.int p3), .val (.int p4), .val (.int (-1 : Int32)), .val (.int av), .val (.int (ct - av))] [(.int hd), (.ref rs), (.int (hd + av)), (.ref rs)])) (fun t k => st61 t k) ?_
    refine own_via (T61.setTop (mkF m 149 #[.val (.ref p0), .val (.int av), .val (.int av), .val (.int p3), .val (.int p4), .val (.int (-1 : Int32)), .val (.int av), .val (.int (ct - av))] [(.int av), (.int hd), (.ref rs), (.int (hd + av)), (.ref rs)])) (fun t k => XS.iloadN X61.here hx rfl (hb hby d8_148) rfl  k) ?_
    refine own_via (T61.setTop (mkF m 150 #[.val (.ref p0), .val (.int av), .val (.int av), .val (.int p3), .val (.int p4), .val (.int (-1 : Int32)), .val (.int av), .val (.int (ct - av))] [(.int (hd + av)), (.ref rs), (.int (hd + av)), (.ref rs)])) (fun t k => XS.iadd X61.here hx rfl (hb hby d8_149) rfl k) ?_
    refine own_via (T61.setTop (mkF m 152 #[.val (.ref p0), .val (.int av), .val (.int av), .val (.int p3), .val (.int p4), .val (.int (-1 : Int32)), .val (.int av), .val (.int (ct - av))] [(.int (-1 : Int32)), (.int (hd + av)), (.ref rs), (.int (hd + av)), (.ref rs)])) (fun t k => XS.iload X61.here hx rfl (hb hby d8_150) rfl  k) ?_
    refine own_via (T61.setTop (mkF m 153 #[.val (.ref p0), .val (.int av), .val (.int av), .val (.int p3), .val (.int p4), .val (.int (-1 : Int32)), .val (.int av), .val (.int (ct - av))] [(.int ((hd + av) - (-1 : Int32))), (.ref rs), (.int (hd + av)), (.ref rs)])) (fun t k => XS.isub X61.here hx rfl (hb hby d8_152) rfl k) ?_
    refine own_via (T61.setTop (mkF m 155 #[.val (.ref p0), .val (.int av), .val (.int av), .val (.int p3), .val (.int p4), .val (.int (-1 : Int32)), .val (.int av), .val (.int (ct - av))] [(.int (ct - av)), (.int ((hd + av) - (-1 : Int32))), (.ref rs), (.int (hd + av)), (.ref rs)])) (fun t k => XS.iload X61.here hx rfl (hb hby d8_153) rfl  k) ?_
    obtain ⟨T62, h62, X62, e62, K62q, V62, st62⟩ := own_copy X61 hx hZ hown (hw _ (List.mem_of_getElem? (i := 50) rfl)) (hw _ (List.mem_of_getElem? (i := 53) rfl)) (hw _ (List.mem_of_getElem? (i := 51) rfl)) (hw _ (List.mem_of_getElem? (i := 52) rfl)) e61 P3 (by decide) (jo := (hd + av)) (jq := ((hd + av) - (-1 : Int32))) (jn := (ct - av)) (own_cb2 hI hc ha hba) (g := (mkF m 155 #[.val (.ref p0), .val (.int av), .val (.int av), .val (.int p3), .val (.int p4), .val (.int (-1 : Int32)), .val (.int av), .val (.int (ct - av))] [(.int (ct - av)), (.int ((hd + av) - (-1 : Int32))), (.ref rs), (.int (hd + av)), (.ref rs)])) rfl (by rw [hml]; rfl) rfl (hb hby d8_155) (W := 0) (by show 2 * 0 + _ ≤ _; exact Nat.le_of_eq rfl) (by decide) (by decide)
    have N62 := Fr.app N0 (own_frc (q := ((hd + av) - (-1 : Int32)).toInt.toNat) (n := (ct - av).toInt.toNat) gg_rs)
    have K63 : Keep h0 h62 [p0, rs, re] := (Keep.refl h0 [p0, rs, re]).trans K62q (fun x hx => by rw [List.mem_singleton.mp hx]; exact Or.inl (List.mem_of_getElem? (i := 1) rfl))
    refine own_via (T62.setTop (mkF m 158 #[.val (.ref p0), .val (.int av), .val (.int av), .val (.int p3), .val (.int p4), .val (.int (-1 : Int32)), .val (.int av), .val (.int (ct - av))] [])) (fun t k => st62 t k) ?_
    refine own_via (T62.setTop (mkF m 159 #[.val (.ref p0), .val (.int av), .val (.int av), .val (.int p3), .val (.int p4), .val (.int (-1 : Int32)), .val (.int av), .val (.int (ct - av))] [(.ref p0)])) (fun t k => XS.aloadN X62.here hx rfl (hb hby d8_158) rfl rfl k) ?_
    have F65 := (P4.keep K62q (fun q => hn1 (List.mem_singleton.mp q)))
    obtain ⟨T64, X64, e64, st64⟩ := getF X62 hx hZ hown (host := "") (Or.inl (hw _ (List.mem_of_getElem? (i := 15) rfl))) Via.refl e62 F65 (g := (mkF m 159 #[.val (.ref p0), .val (.int av), .val (.int av), .val (.int p3), .val (.int p4), .val (.int (-1 : Int32)), .val (.int av), .val (.int (ct - av))] [(.ref p0)])) rfl rfl (hb hby d8_159)
    refine own_via (T64.setTop (mkF m 162 #[.val (.ref p0), .val (.int av), .val (.int av), .val (.int p3), .val (.int p4), .val (.int (-1 : Int32)), .val (.int av), .val (.int (ct - av))] [(.ref re)])) (fun t k => st64 t k) ?_
    refine own_via (T64.setTop (mkF m 163 #[.val (.ref p0), .val (.int av), .val (.int av), .val (.int p3), .val (.int p4), .val (.int (-1 : Int32)), .val (.int av), .val (.int (ct - av))] [(.ref p0), (.ref re)])) (fun t k => XS.aloadN X64.here hx rfl (hb hby d8_162) rfl rfl k) ?_
    have F67 := (P1.keep K62q (fun q => hn1 (List.mem_singleton.mp q)))
    obtain ⟨T66, X66, e66, st66⟩ := getF X64 hx hZ hown (host := "") (Or.inl (hw _ (List.mem_of_getElem? (i := 17) rfl))) Via.refl e64 F67 (g := (mkF m 163 #[.val (.ref p0), .val (.int av), .val (.int av), .val (.int p3), .val (.int p4), .val (.int (-1 : Int32)), .val (.int av), .val (.int (ct - av))] [(.ref p0), (.ref re)])) rfl rfl (hb hby d8_163)
    refine own_via (T66.setTop (mkF m 166 #[.val (.ref p0), .val (.int av), .val (.int av), .val (.int p3), .val (.int p4), .val (.int (-1 : Int32)), .val (.int av), .val (.int (ct - av))] [(.int hd), (.ref re)])) (fun t k => st66 t k) ?_
    refine own_via (T66.setTop (mkF m 167 #[.val (.ref p0), .val (.int av), .val (.int av), .val (.int p3), .val (.int p4), .val (.int (-1 : Int32)), .val (.int av), .val (.int (ct - av))] [(.int av), (.int hd), (.ref re)])) (fun t k => XS.iloadN X66.here hx rfl (hb hby d8_166) rfl  k) ?_
    refine own_via (T66.setTop (mkF m 168 #[.val (.ref p0), .val (.int av), .val (.int av), .val (.int p3), .val (.int p4), .val (.int (-1 : Int32)), .val (.int av), .val (.int (ct - av))] [(.int (hd + av)), (.ref re)])) (fun t k => XS.iadd X66.here hx rfl (hb hby d8_167) rfl k) ?_
    refine own_via (T66.setTop (mkF m 169 #[.val (.ref p0), .val (.int av), .val (.int av), .val (.int p3), .val (.int p4), .val (.int (-1 : Int32)), .val (.int av), .val (.int (ct - av))] [(.ref p0), (.int (hd + av)), (.ref re)])) (fun t k => XS.aloadN X66.here hx rfl (hb hby d8_168) rfl rfl k) ?_
    obtain ⟨T68, X68, e68, st68⟩ := getF X66 hx hZ hown (host := "") (Or.inl (hw _ (List.mem_of_getElem? (i := 15) rfl))) Via.refl e66 F65 (g := (mkF m 169 #[.val (.ref p0), .val (.int av), .val (.int av), .val (.int p3), .val (.int p4), .val (.int (-1 : Int32)), .val (.int av), .val (.int (ct - av))] [(.ref p0), (.int (hd + av)), (.ref re)])) rfl rfl (hb hby d8_169)
    refine own_via (T68.setTop (mkF m 172 #[.val (.ref p0), .val (.int av), .val (.int av), .val (.int p3), .val (.int p4), .val (.int (-1 : Int32)), .val (.int av), .val (.int (ct - av))] [(.ref re), (.int (hd + av)), (.ref re)])) (fun t k => st68 t k) ?_
    refine own_via (T68.setTop (mkF m 173 #[.val (.ref p0), .val (.int av), .val (.int av), .val (.int p3), .val (.int p4), .val (.int (-1 : Int32)), .val (.int av), .val (.int (ct - av))] [(.ref p0), (.ref re), (.int (hd + av)), (.ref re)])) (fun t k => XS.aloadN X68.here hx rfl (hb hby d8_172) rfl rfl k) ?_
    obtain ⟨T69, X69, e69, st69⟩ := getF X68 hx hZ hown (host := "") (Or.inl (hw _ (List.mem_of_getElem? (i := 17) rfl))) Via.refl e68 F67 (g := (mkF m 173 #[.val (.ref p0), .val (.int av), .val (.int av), .val (.int p3), .val (.int p4), .val (.int (-1 : Int32)), .val (.int av), .val (.int (ct - av))] [(.ref p0), (.ref re), (.int (hd + av)), (.ref re)])) rfl rfl (hb hby d8_173)
    refine own_via (T69.setTop (mkF m 176 #[.val (.ref p0), .val (.int av), .val (.int av), .val (.int p3), .val (.int p4), .val (.int (-1 : Int32)), .val (.int av), .val (.int (ct - av))] [(.int hd), (.ref re), (.int (hd + av)), (.ref re)])) (fun t k => st69 t k) ?_
    refine own_via (T69.setTop (mkF m 177 #[.val (.ref p0), .val (.int av), .val (.int av), .val (.int p3), .val (.int p4), .val (.int (-1 : Int32)), .val (.int av), .val (.int (ct - av))] [(.int av), (.int hd), (.ref re), (.int (hd + av)), (.ref re)])) (fun t k => XS.iloadN X69.here hx rfl (hb hby d8_176) rfl  k) ?_
    refine own_via (T69.setTop (mkF m 178 #[.val (.ref p0), .val (.int av), .val (.int av), .val (.int p3), .val (.int p4), .val (.int (-1 : Int32)), .val (.int av), .val (.int (ct - av))] [(.int (hd + av)), (.ref re), (.int (hd + av)), (.ref re)])) (fun t k => XS.iadd X69.here hx rfl (hb hby d8_177) rfl k) ?_
    refine own_via (T69.setTop (mkF m 180 #[.val (.ref p0), .val (.int av), .val (.int av), .val (.int p3), .val (.int p4), .val (.int (-1 : Int32)), .val (.int av), .val (.int (ct - av))] [(.int (-1 : Int32)), (.int (hd + av)), (.ref re), (.int (hd + av)), (.ref re)])) (fun t k => XS.iload X69.here hx rfl (hb hby d8_178) rfl  k) ?_
    refine own_via (T69.setTop (mkF m 181 #[.val (.ref p0), .val (.int av), .val (.int av), .val (.int p3), .val (.int p4), .val (.int (-1 : Int32)), .val (.int av), .val (.int (ct - av))] [(.int ((hd + av) - (-1 : Int32))), (.ref re), (.int (hd + av)), (.ref re)])) (fun t k => XS.isub X69.here hx rfl (hb hby d8_180) rfl k) ?_
    refine own_via (T69.setTop (mkF m 183 #[.val (.ref p0), .val (.int av), .val (.int av), .val (.int p3), .val (.int p4), .val (.int (-1 : Int32)), .val (.int av), .val (.int (ct - av))] [(.int (ct - av)), (.int ((hd + av) - (-1 : Int32))), (.ref re), (.int (hd + av)), (.ref re)])) (fun t k => XS.iload X69.here hx rfl (hb hby d8_181) rfl  k) ?_
    have F71 := (P5.keep K62q (fun q => (Ne.symm hn3) (List.mem_singleton.mp q)))
    obtain ⟨T70, h70, X70, e70, K70q, V70, st70⟩ := own_copy X69 hx hZ hown (hw _ (List.mem_of_getElem? (i := 50) rfl)) (hw _ (List.mem_of_getElem? (i := 53) rfl)) (hw _ (List.mem_of_getElem? (i := 51) rfl)) (hw _ (List.mem_of_getElem? (i := 52) rfl)) e69 F71 (by decide) (jo := (hd + av)) (jq := ((hd + av) - (-1 : Int32))) (jn := (ct - av)) (own_cb2 hI hc ha hba) (g := (mkF m 183 #[.val (.ref p0), .val (.int av), .val (.int av), .val (.int p3), .val (.int p4), .val (.int (-1 : Int32)), .val (.int av), .val (.int (ct - av))] [(.int (ct - av)), (.int ((hd + av) - (-1 : Int32))), (.ref re), (.int (hd + av)), (.ref re)])) rfl (by rw [hml]; rfl) rfl (hb hby d8_183) (W := 0) (by show 2 * 0 + _ ≤ _; exact Nat.le_of_eq rfl) (by decide) (by decide)
    have N70 := Fr.app N62 (own_frc (q := ((hd + av) - (-1 : Int32)).toInt.toNat) (n := (ct - av).toInt.toNat) gg_re)
    have K72 : Keep h0 h70 [p0, rs, re] := K63.trans K70q (fun x hx => by rw [List.mem_singleton.mp hx]; exact Or.inl (List.mem_of_getElem? (i := 2) rfl))
    refine own_via (T70.setTop (mkF m 186 #[.val (.ref p0), .val (.int av), .val (.int av), .val (.int p3), .val (.int p4), .val (.int (-1 : Int32)), .val (.int av), .val (.int (ct - av))] [])) (fun t k => st70 t k) ?_
    refine own_via (T70.setTop (mkF m 187 #[.val (.ref p0), .val (.int av), .val (.int av), .val (.int p3), .val (.int p4), .val (.int (-1 : Int32)), .val (.int av), .val (.int (ct - av))] [(.ref p0)])) (fun t k => XS.aloadN X70.here hx rfl (hb hby d8_186) rfl rfl k) ?_
    have F74 := ((P0.keep K62q (fun q => hn1 (List.mem_singleton.mp q))).keep K70q (fun q => hn2 (List.mem_singleton.mp q)))
    obtain ⟨T73, X73, e73, st73⟩ := getF X70 hx hZ hown (host := "") (Or.inl (hw _ (List.mem_of_getElem? (i := 13) rfl))) Via.refl e70 F74 (g := (mkF m 187 #[.val (.ref p0), .val (.int av), .val (.int av), .val (.int p3), .val (.int p4), .val (.int (-1 : Int32)), .val (.int av), .val (.int (ct - av))] [(.ref p0)])) rfl rfl (hb hby d8_187)
    refine own_via (T73.setTop (mkF m 190 #[.val (.ref p0), .val (.int av), .val (.int av), .val (.int p3), .val (.int p4), .val (.int (-1 : Int32)), .val (.int av), .val (.int (ct - av))] [(.ref rs)])) (fun t k => st73 t k) ?_
    refine own_via (T73.setTop (mkF m 191 #[.val (.ref p0), .val (.int av), .val (.int av), .val (.int p3), .val (.int p4), .val (.int (-1 : Int32)), .val (.int av), .val (.int (ct - av))] [(.ref p0), (.ref rs)])) (fun t k => XS.aloadN X73.here hx rfl (hb hby d8_190) rfl rfl k) ?_
    have F76 := (F67.keep K70q (fun q => hn2 (List.mem_singleton.mp q)))
    obtain ⟨T75, X75, e75, st75⟩ := getF X73 hx hZ hown (host := "") (Or.inl (hw _ (List.mem_of_getElem? (i := 17) rfl))) Via.refl e73 F76 (g := (mkF m 191 #[.val (.ref p0), .val (.int av), .val (.int av), .val (.int p3), .val (.int p4), .val (.int (-1 : Int32)), .val (.int av), .val (.int (ct - av))] [(.ref p0), (.ref rs)])) rfl rfl (hb hby d8_191)
    refine own_via (T75.setTop (mkF m 194 #[.val (.ref p0), .val (.int av), .val (.int av), .val (.int p3), .val (.int p4), .val (.int (-1 : Int32)), .val (.int av), .val (.int (ct - av))] [(.int hd), (.ref rs)])) (fun t k => st75 t k) ?_
    refine own_via (T75.setTop (mkF m 195 #[.val (.ref p0), .val (.int av), .val (.int av), .val (.int p3), .val (.int p4), .val (.int (-1 : Int32)), .val (.int av), .val (.int (ct - av))] [(.int av), (.int hd), (.ref rs)])) (fun t k => XS.iloadN X75.here hx rfl (hb hby d8_194) rfl  k) ?_
    refine own_via (T75.setTop (mkF m 196 #[.val (.ref p0), .val (.int av), .val (.int av), .val (.int p3), .val (.int p4), .val (.int (-1 : Int32)), .val (.int av), .val (.int (ct - av))] [(.int (hd + av)), (.ref rs)])) (fun t k => XS.iadd X75.here hx rfl (hb hby d8_195) rfl k) ?_
    refine own_via (T75.setTop (mkF m 197 #[.val (.ref p0), .val (.int av), .val (.int av), .val (.int p3), .val (.int p4), .val (.int (-1 : Int32)), .val (.int av), .val (.int (ct - av))] [(.int p3), (.int (hd + av)), (.ref rs)])) (fun t k => XS.iloadN X75.here hx rfl (hb hby d8_196) rfl  k) ?_
    have F78 := (V62.keep K70q (fun q => hn3 (List.mem_singleton.mp q)))
    obtain ⟨cl79, Ar79, S79, H79⟩ := id F78
    obtain ⟨T77, h77, X77, e77, W77, st77⟩ := stI X75 hx hZ e75 Ar79 (j := (hd + av)) (own_in S79 (own_wi2 hI hc ha hba)) (g := (mkF m 197 #[.val (.ref p0), .val (.int av), .val (.int av), .val (.int p3), .val (.int p4), .val (.int (-1 : Int32)), .val (.int av), .val (.int (ct - av))] [(.int p3), (.int (hd + av)), (.ref rs)])) rfl rfl (hb hby d8_197)
    have V77 : own_A Z h77 rs .int 8 (own_up (own_cp f (hd + av).toInt.toNat ((hd + av) - (-1 : Int32)).toInt.toNat (ct - av).toInt.toNat) (hd + av).toInt.toNat p3) := own_A.set F78 W77
    have N77 := Fr.snoc X77 N70 gg_rs
    have K80 : Keep h0 h77 [p0, rs, re] := K72.wr W77 (Or.inl (List.mem_of_getElem? (i := 1) rfl))
    refine own_via (T77.setTop (mkF m 198 #[.val (.ref p0), .val (.int av), .val (.int av), .val (.int p3), .val (.int p4), .val (.int (-1 : Int32)), .val (.int av), .val (.int (ct - av))] [])) (fun t k => st77 t k) ?_
    refine own_via (T77.setTop (mkF m 199 #[.val (.ref p0), .val (.int av), .val (.int av), .val (.int p3), .val (.int p4), .val (.int (-1 : Int32)), .val (.int av), .val (.int (ct - av))] [(.ref p0)])) (fun t k => XS.aloadN X77.here hx rfl (hb hby d8_198) rfl rfl k) ?_
    have F82 := ((F65.keep K70q (fun q => hn2 (List.mem_singleton.mp q))).other W77 (Or.inl hn1))
    obtain ⟨T81, X81, e81, st81⟩ := getF X77 hx hZ hown (host := "") (Or.inl (hw _ (List.mem_of_getElem? (i := 15) rfl))) Via.refl e77 F82 (g := (mkF m 199 #[.val (.ref p0), .val (.int av), .val (.int av), .val (.int p3), .val (.int p4), .val (.int (-1 : Int32)), .val (.int av), .val (.int (ct - av))] [(.ref p0)])) rfl rfl (hb hby d8_199)
    refine own_via (T81.setTop (mkF m 202 #[.val (.ref p0), .val (.int av), .val (.int av), .val (.int p3), .val (.int p4), .val (.int (-1 : Int32)), .val (.int av), .val (.int (ct - av))] [(.ref re)])) (fun t k => st81 t k) ?_
    refine own_via (T81.setTop (mkF m 203 #[.val (.ref p0), .val (.int av), .val (.int av), .val (.int p3), .val (.int p4), .val (.int (-1 : Int32)), .val (.int av), .val (.int (ct - av))] [(.ref p0), (.ref re)])) (fun t k => XS.aloadN X81.here hx rfl (hb hby d8_202) rfl rfl k) ?_
    have F84 := (F76.other W77 (Or.inl hn1))
    obtain ⟨T83, X83, e83, st83⟩ := getF X81 hx hZ hown (host := "") (Or.inl (hw _ (List.mem_of_getElem? (i := 17) rfl))) Via.refl e81 F84 (g := (mkF m 203 #[.val (.ref p0), .val (.int av), .val (.int av), .val (.int p3), .val (.int p4), .val (.int (-1 : Int32)), .val (.int av), .val (.int (ct - av))] [(.ref p0), (.ref re)])) rfl rfl (hb hby d8_203)
    refine own_via (T83.setTop (mkF m 206 #[.val (.ref p0), .val (.int av), .val (.int av), .val (.int p3), .val (.int p4), .val (.int (-1 : Int32)), .val (.int av), .val (.int (ct - av))] [(.int hd), (.ref re)])) (fun t k => st83 t k) ?_
    refine own_via (T83.setTop (mkF m 207 #[.val (.ref p0), .val (.int av), .val (.int av), .val (.int p3), .val (.int p4), .val (.int (-1 : Int32)), .val (.int av), .val (.int (ct - av))] [(.int av), (.int hd), (.ref re)])) (fun t k => XS.iloadN X83.here hx rfl (hb hby d8_206) rfl  k) ?_
    refine own_via (T83.setTop (mkF m 208 #[.val (.ref p0), .val (.int av), .val (.int av), .val (.int p3), .val (.int p4), .val (.int (-1 : Int32)), .val (.int av), .val (.int (ct - av))] [(.int (hd + av)), (.ref re)])) (fun t k => XS.iadd X83.here hx rfl (hb hby d8_207) rfl k) ?_
    refine own_via (T83.setTop (mkF m 210 #[.val (.ref p0), .val (.int av), .val (.int av), .val (.int p3), .val (.int p4), .val (.int (-1 : Int32)), .val (.int av), .val (.int (ct - av))] [(.int p4), (.int (hd + av)), (.ref re)])) (fun t k => XS.iload X83.here hx rfl (hb hby d8_208) rfl  k) ?_
    have F86 := (V70.other W77 (Ne.symm hn3))
    obtain ⟨cl87, Ar87, S87, H87⟩ := id F86
    obtain ⟨T85, h85, X85, e85, W85, st85⟩ := stI X83 hx hZ e83 Ar87 (j := (hd + av)) (own_in S87 (own_wi2 hI hc ha hba)) (g := (mkF m 210 #[.val (.ref p0), .val (.int av), .val (.int av), .val (.int p3), .val (.int p4), .val (.int (-1 : Int32)), .val (.int av), .val (.int (ct - av))] [(.int p4), (.int (hd + av)), (.ref re)])) rfl rfl (hb hby d8_210)
    have V85 : own_A Z h85 re .int 8 (own_up (own_cp g (hd + av).toInt.toNat ((hd + av) - (-1 : Int32)).toInt.toNat (ct - av).toInt.toNat) (hd + av).toInt.toNat p4) := own_A.set F86 W85
    have N85 := Fr.snoc X85 N77 gg_re
    have K88 : Keep h0 h85 [p0, rs, re] := K80.wr W85 (Or.inl (List.mem_of_getElem? (i := 2) rfl))
    refine own_via (T85.setTop (mkF m 211 #[.val (.ref p0), .val (.int av), .val (.int av), .val (.int p3), .val (.int p4), .val (.int (-1 : Int32)), .val (.int av), .val (.int (ct - av))] [])) (fun t k => st85 t k) ?_
    refine own_via (T85.setTop (mkF m 212 #[.val (.ref p0), .val (.int av), .val (.int av), .val (.int p3), .val (.int p4), .val (.int (-1 : Int32)), .val (.int av), .val (.int (ct - av))] [(.ref p0)])) (fun t k => XS.aloadN X85.here hx rfl (hb hby d8_211) rfl rfl k) ?_
    refine own_via (T85.setTop (mkF m 213 #[.val (.ref p0), .val (.int av), .val (.int av), .val (.int p3), .val (.int p4), .val (.int (-1 : Int32)), .val (.int av), .val (.int (ct - av))] [(.ref p0), (.ref p0)])) (fun t k => XS.dup X85.here hx rfl (hb hby d8_212) rfl rfl k) ?_
    have F90 := ((((P2.keep K62q (fun q => hn1 (List.mem_singleton.mp q))).keep K70q (fun q => hn2 (List.mem_singleton.mp q))).other W77 (Or.inl hn1)).other W85 (Or.inl hn2))
    obtain ⟨T89, X89, e89, st89⟩ := getF X85 hx hZ hown (host := "") (Or.inl (hw _ (List.mem_of_getElem? (i := 32) rfl))) Via.refl e85 F90 (g := (mkF m 213 #[.val (.ref p0), .val (.int av), .val (.int av), .val (.int p3), .val (.int p4), .val (.int (-1 : Int32)), .val (.int av), .val (.int (ct - av))] [(.ref p0), (.ref p0)])) rfl rfl (hb hby d8_213)
    refine own_via (T89.setTop (mkF m 216 #[.val (.ref p0), .val (.int av), .val (.int av), .val (.int p3), .val (.int p4), .val (.int (-1 : Int32)), .val (.int av), .val (.int (ct - av))] [(.int ct), (.ref p0)])) (fun t k => st89 t k) ?_
    refine own_via (T89.setTop (mkF m 218 #[.val (.ref p0), .val (.int av), .val (.int av), .val (.int p3), .val (.int p4), .val (.int (-1 : Int32)), .val (.int av), .val (.int (ct - av))] [(.int (-1 : Int32)), (.int ct), (.ref p0)])) (fun t k => XS.iload X89.here hx rfl (hb hby d8_216) rfl  k) ?_
    refine own_via (T89.setTop (mkF m 219 #[.val (.ref p0), .val (.int av), .val (.int av), .val (.int p3), .val (.int p4), .val (.int (-1 : Int32)), .val (.int av), .val (.int (ct - av))] [(.int (ct - (-1 : Int32))), (.ref p0)])) (fun t k => XS.isub X89.here hx rfl (hb hby d8_218) rfl k) ?_
    have F92 := ((((P6.keep K62q).keep K70q).wr W77).wr W85)
    obtain ⟨T91, h91, X91, e91, W91, st91⟩ := putF X89 hx hZ hown (host := "") (Or.inl (hw _ (List.mem_of_getElem? (i := 32) rfl))) Via.refl e89 F90 F92 (Or.inl (hw _ (List.mem_of_getElem? (i := 33) rfl))) (hw _ (List.mem_of_getElem? (i := 5) rfl)) (ty := .int) (by decide) rfl rfl (g := (mkF m 219 #[.val (.ref p0), .val (.int av), .val (.int av), .val (.int p3), .val (.int p4), .val (.int (-1 : Int32)), .val (.int av), .val (.int (ct - av))] [(.int (ct - (-1 : Int32))), (.ref p0)])) rfl rfl (hb hby d8_219)
    have Fw91 := F90.same W91
    have N91 := Fr.snoc X91 N85 gg_p0
    have K93 : Keep h0 h91 [p0, rs, re] := K88.wr W91 (Or.inl (List.mem_of_getElem? (i := 0) rfl))
    refine own_via (T91.setTop (mkF m 222 #[.val (.ref p0), .val (.int av), .val (.int av), .val (.int p3), .val (.int p4), .val (.int (-1 : Int32)), .val (.int av), .val (.int (ct - av))] [])) (fun t k => st91 t k) ?_
    refine own_leave X91 Bd.notSynchronized (v := none) (fun _ => rfl) (fun fs hr => X91.returnOut hx Bd.returns (hb hby d8_222) hr) ?_ (by decide) (by decide)
    have F94 := (F92.wr W91)
    have F95 := ((F84.other W85 (Or.inl hn2)).other W91 (Or.inr (slot_ne (Or.inl (hw _ (List.mem_of_getElem? (i := 18) rfl))) (Or.inl (hw _ (List.mem_of_getElem? (i := 33) rfl))) (by decide) (t := .int) (t' := .int) (by decide) (by decide))))
    have F96 := (((F74.other W77 (Or.inl hn1)).other W85 (Or.inl hn2)).other W91 (Or.inr (slot_ne (Or.inl (hw _ (List.mem_of_getElem? (i := 14) rfl))) (Or.inl (hw _ (List.mem_of_getElem? (i := 33) rfl))) (by decide) (t := (.array .int)) (t' := .int) (by decide) (by decide))))
    have F97 := ((F82.other W85 (Or.inl hn2)).other W91 (Or.inr (slot_ne (Or.inl (hw _ (List.mem_of_getElem? (i := 16) rfl))) (Or.inl (hw _ (List.mem_of_getElem? (i := 33) rfl))) (by decide) (t := (.array .int)) (t' := .int) (by decide) (by decide))))
    have F98 := ((V77.other W85 hn3).other W91 (Ne.symm hn1))
    have F99 := (V85.other W91 (Ne.symm hn2))
    show (own_Q8 Z p0 av p3 p4 rs hd ct f re g h0 n0) _ T91.heap _
    rw [e91]
    exact ⟨rfl, N91, K93, F94, by unfold own_nh; rw [if_pos hba]; exact F95, Fw91, F96, F97, by unfold own_nf; rw [if_pos hba]; exact F98, by unfold own_nf; rw [if_pos hba]; exact F99⟩
  · refine own_via (T52.setTop (mkF m 30 #[.val (.ref p0), .val (.int av), .val (.int av), .val (.int p3), .val (.int p4), .val (.int (-1 : Int32)), .val (.int av), .val (.int (ct - av))] [])) (fun t k => XS.icmpNo X52.here hx rfl (hb hby d8_27) rfl (flt hba).2.2.1 k) ?_
    refine own_via (T52.setTop (mkF m 31 #[.val (.ref p0), .val (.int av), .val (.int av), .val (.int p3), .val (.int p4), .val (.int (-1 : Int32)), .val (.int av), .val (.int (ct - av))] [(.ref p0)])) (fun t k => XS.aloadN X52.here hx rfl (hb hby d8_30) rfl rfl k) ?_
    obtain ⟨T100, X100, e100, st100⟩ := getF X52 hx hZ hown (host := "") (Or.inl (hw _ (List.mem_of_getElem? (i := 17) rfl))) Via.refl e52 P1 (g := (mkF m 31 #[.val (.ref p0), .val (.int av), .val (.int av), .val (.int p3), .val (.int p4), .val (.int (-1 : Int32)), .val (.int av), .val (.int (ct - av))] [(.ref p0)])) rfl rfl (hb hby d8_31)
    refine own_via (T100.setTop (mkF m 34 #[.val (.ref p0), .val (.int av), .val (.int av), .val (.int p3), .val (.int p4), .val (.int (-1 : Int32)), .val (.int av), .val (.int (ct - av))] [(.int hd)])) (fun t k => st100 t k) ?_
    refine own_via (T100.setTop (mkF m 61 #[.val (.ref p0), .val (.int av), .val (.int av), .val (.int p3), .val (.int p4), .val (.int (-1 : Int32)), .val (.int av), .val (.int (ct - av))] [])) (fun t k => XS.ifYes X100.here hx rfl (pc0 := 34) (pc' := 61) rfl (hb hby d8_34) rfl ((if0 _ _).trans (feq (own_hz hI hc)).2) (by decide) (by decide) k) ?_
    refine own_via (T100.setTop (mkF m 63 #[.val (.ref p0), .val (.int av), .val (.int av), .val (.int p3), .val (.int p4), .val (.int (-1 : Int32)), .val (.int av), .val (.int (ct - av))] [(.int av)])) (fun t k => XS.iload X100.here hx rfl (hb hby d8_61) rfl  k) ?_
    refine own_via (T100.setTop (mkF m 65 #[.val (.ref p0), .val (.int av), .val (.int av), .val (.int p3), .val (.int p4), .val (.int (-1 : Int32)), .val (.int av), .val (.int (ct - av))] [(.int (ct - av)), (.int av)])) (fun t k => XS.iload X100.here hx rfl (hb hby d8_63) rfl  k) ?_
    refine own_via (T100.setTop (mkF m 68 #[.val (.ref p0), .val (.int av), .val (.int av), .val (.int p3), .val (.int p4), .val (.int (-1 : Int32)), .val (.int av), .val (.int (ct - av))] [])) (fun t k => XS.icmpNo X100.here hx rfl (hb hby d8_65) rfl (flt hba).2.2.1 k) ?_
    refine own_via (T100.setTop (mkF m 69 #[.val (.ref p0), .val (.int av), .val (.int av), .val (.int p3), .val (.int p4), .val (.int (-1 : Int32)), .val (.int av), .val (.int (ct - av))] [(.ref p0)])) (fun t k => XS.aloadN X100.here hx rfl (hb hby d8_68) rfl rfl k) ?_
    obtain ⟨T101, X101, e101, st101⟩ := getF X100 hx hZ hown (host := "") (Or.inl (hw _ (List.mem_of_getElem? (i := 13) rfl))) Via.refl e100 P0 (g := (mkF m 69 #[.val (.ref p0), .val (.int av), .val (.int av), .val (.int p3), .val (.int p4), .val (.int (-1 : Int32)), .val (.int av), .val (.int (ct - av))] [(.ref p0)])) rfl rfl (hb hby d8_69)
    refine own_via (T101.setTop (mkF m 72 #[.val (.ref p0), .val (.int av), .val (.int av), .val (.int p3), .val (.int p4), .val (.int (-1 : Int32)), .val (.int av), .val (.int (ct - av))] [(.ref rs)])) (fun t k => st101 t k) ?_
    refine own_via (T101.setTop (mkF m 73 #[.val (.ref p0), .val (.int av), .val (.int av), .val (.int p3), .val (.int p4), .val (.int (-1 : Int32)), .val (.int av), .val (.int (ct - av))] [(.ref p0), (.ref rs)])) (fun t k => XS.aloadN X101.here hx rfl (hb hby d8_72) rfl rfl k) ?_
    obtain ⟨T102, X102, e102, st102⟩ := getF X101 hx hZ hown (host := "") (Or.inl (hw _ (List.mem_of_getElem? (i := 17) rfl))) Via.refl e101 P1 (g := (mkF m 73 #[.val (.ref p0), .val (.int av), .val (.int av), .val (.int p3), .val (.int p4), .val (.int (-1 : Int32)), .val (.int av), .val (.int (ct - av))] [(.ref p0), (.ref rs)])) rfl rfl (hb hby d8_73)
    refine own_via (T102.setTop (mkF m 76 #[.val (.ref p0), .val (.int av), .val (.int av), .val (.int p3), .val (.int p4), .val (.int (-1 : Int32)), .val (.int av), .val (.int (ct - av))] [(.int hd), (.ref rs)])) (fun t k => st102 t k) ?_
    refine own_via (T102.setTop (mkF m 77 #[.val (.ref p0), .val (.int av), .val (.int av), .val (.int p3), .val (.int p4), .val (.int (-1 : Int32)), .val (.int av), .val (.int (ct - av))] [(.ref p0), (.int hd), (.ref rs)])) (fun t k => XS.aloadN X102.here hx rfl (hb hby d8_76) rfl rfl k) ?_
    obtain ⟨T103, X103, e103, st103⟩ := getF X102 hx hZ hown (host := "") (Or.inl (hw _ (List.mem_of_getElem? (i := 13) rfl))) Via.refl e102 P0 (g := (mkF m 77 #[.val (.ref p0), .val (.int av), .val (.int av), .val (.int p3), .val (.int p4), .val (.int (-1 : Int32)), .val (.int av), .val (.int (ct - av))] [(.ref p0), (.int hd), (.ref rs)])) rfl rfl (hb hby d8_77)
    refine own_via (T103.setTop (mkF m 80 #[.val (.ref p0), .val (.int av), .val (.int av), .val (.int p3), .val (.int p4), .val (.int (-1 : Int32)), .val (.int av), .val (.int (ct - av))] [(.ref rs), (.int hd), (.ref rs)])) (fun t k => st103 t k) ?_
    refine own_via (T103.setTop (mkF m 81 #[.val (.ref p0), .val (.int av), .val (.int av), .val (.int p3), .val (.int p4), .val (.int (-1 : Int32)), .val (.int av), .val (.int (ct - av))] [(.ref p0), (.ref rs), (.int hd), (.ref rs)])) (fun t k => XS.aloadN X103.here hx rfl (hb hby d8_80) rfl rfl k) ?_
    obtain ⟨T104, X104, e104, st104⟩ := getF X103 hx hZ hown (host := "") (Or.inl (hw _ (List.mem_of_getElem? (i := 17) rfl))) Via.refl e103 P1 (g := (mkF m 81 #[.val (.ref p0), .val (.int av), .val (.int av), .val (.int p3), .val (.int p4), .val (.int (-1 : Int32)), .val (.int av), .val (.int (ct - av))] [(.ref p0), (.ref rs), (.int hd), (.ref rs)])) rfl rfl (hb hby d8_81)
    refine own_via (T104.setTop (mkF m 84 #[.val (.ref p0), .val (.int av), .val (.int av), .val (.int p3), .val (.int p4), .val (.int (-1 : Int32)), .val (.int av), .val (.int (ct - av))] [(.int hd), (.ref rs), (.int hd), (.ref rs)])) (fun t k => st104 t k) ?_
    refine own_via (T104.setTop (mkF m 86 #[.val (.ref p0), .val (.int av), .val (.int av), .val (.int p3), .val (.int p4), .val (.int (-1 : Int32)), .val (.int av), .val (.int (ct - av))] [(.int (-1 : Int32)), (.int hd), (.ref rs), (.int hd), (.ref rs)])) (fun t k => XS.iload X104.here hx rfl (hb hby d8_84) rfl  k) ?_
    refine own_via (T104.setTop (mkF m 87 #[.val (.ref p0), .val (.int av), .val (.int av), .val (.int p3), .val (.int p4), .val (.int (-1 : Int32)), .val (.int av), .val (.int (ct - av))] [(.int (hd + (-1 : Int32))), (.ref rs), (.int hd), (.ref rs)])) (fun t k => XS.iadd X104.here hx rfl (hb hby d8_86) rfl k) ?_
    refine own_via (T104.setTop (mkF m 89 #[.val (.ref p0), .val (.int av), .val (.int av), .val (.int p3), .val (.int p4), .val (.int (-1 : Int32)), .val (.int av), .val (.int (ct - av))] [(.int av), (.int (hd + (-1 : Int32))), (.ref rs), (.int hd), (.ref rs)])) (fun t k => XS.iload X104.here hx rfl (hb hby d8_87) rfl  k) ?_
    obtain ⟨T105, h105, X105, e105, K105q, V105, st105⟩ := own_copy X104 hx hZ hown (hw _ (List.mem_of_getElem? (i := 50) rfl)) (hw _ (List.mem_of_getElem? (i := 53) rfl)) (hw _ (List.mem_of_getElem? (i := 51) rfl)) (hw _ (List.mem_of_getElem? (i := 52) rfl)) e104 P3 (by decide) (jo := hd) (jq := (hd + (-1 : Int32))) (jn := av) (own_cb1 hI hc ha hba) (g := (mkF m 89 #[.val (.ref p0), .val (.int av), .val (.int av), .val (.int p3), .val (.int p4), .val (.int (-1 : Int32)), .val (.int av), .val (.int (ct - av))] [(.int av), (.int (hd + (-1 : Int32))), (.ref rs), (.int hd), (.ref rs)])) rfl (by rw [hml]; rfl) rfl (hb hby d8_89) (W := 0) (by show 2 * 0 + _ ≤ _; exact Nat.le_of_eq rfl) (by decide) (by decide)
    have N105 := Fr.app N0 (own_frc (q := (hd + (-1 : Int32)).toInt.toNat) (n := av.toInt.toNat) gg_rs)
    have K106 : Keep h0 h105 [p0, rs, re] := (Keep.refl h0 [p0, rs, re]).trans K105q (fun x hx => by rw [List.mem_singleton.mp hx]; exact Or.inl (List.mem_of_getElem? (i := 1) rfl))
    refine own_via (T105.setTop (mkF m 92 #[.val (.ref p0), .val (.int av), .val (.int av), .val (.int p3), .val (.int p4), .val (.int (-1 : Int32)), .val (.int av), .val (.int (ct - av))] [])) (fun t k => st105 t k) ?_
    refine own_via (T105.setTop (mkF m 93 #[.val (.ref p0), .val (.int av), .val (.int av), .val (.int p3), .val (.int p4), .val (.int (-1 : Int32)), .val (.int av), .val (.int (ct - av))] [(.ref p0)])) (fun t k => XS.aloadN X105.here hx rfl (hb hby d8_92) rfl rfl k) ?_
    have F108 := (P4.keep K105q (fun q => hn1 (List.mem_singleton.mp q)))
    obtain ⟨T107, X107, e107, st107⟩ := getF X105 hx hZ hown (host := "") (Or.inl (hw _ (List.mem_of_getElem? (i := 15) rfl))) Via.refl e105 F108 (g := (mkF m 93 #[.val (.ref p0), .val (.int av), .val (.int av), .val (.int p3), .val (.int p4), .val (.int (-1 : Int32)), .val (.int av), .val (.int (ct - av))] [(.ref p0)])) rfl rfl (hb hby d8_93)
    refine own_via (T107.setTop (mkF m 96 #[.val (.ref p0), .val (.int av), .val (.int av), .val (.int p3), .val (.int p4), .val (.int (-1 : Int32)), .val (.int av), .val (.int (ct - av))] [(.ref re)])) (fun t k => st107 t k) ?_
    refine own_via (T107.setTop (mkF m 97 #[.val (.ref p0), .val (.int av), .val (.int av), .val (.int p3), .val (.int p4), .val (.int (-1 : Int32)), .val (.int av), .val (.int (ct - av))] [(.ref p0), (.ref re)])) (fun t k => XS.aloadN X107.here hx rfl (hb hby d8_96) rfl rfl k) ?_
    have F110 := (P1.keep K105q (fun q => hn1 (List.mem_singleton.mp q)))
    obtain ⟨T109, X109, e109, st109⟩ := getF X107 hx hZ hown (host := "") (Or.inl (hw _ (List.mem_of_getElem? (i := 17) rfl))) Via.refl e107 F110 (g := (mkF m 97 #[.val (.ref p0), .val (.int av), .val (.int av), .val (.int p3), .val (.int p4), .val (.int (-1 : Int32)), .val (.int av), .val (.int (ct - av))] [(.ref p0), (.ref re)])) rfl rfl (hb hby d8_97)
    refine own_via (T109.setTop (mkF m 100 #[.val (.ref p0), .val (.int av), .val (.int av), .val (.int p3), .val (.int p4), .val (.int (-1 : Int32)), .val (.int av), .val (.int (ct - av))] [(.int hd), (.ref re)])) (fun t k => st109 t k) ?_
    refine own_via (T109.setTop (mkF m 101 #[.val (.ref p0), .val (.int av), .val (.int av), .val (.int p3), .val (.int p4), .val (.int (-1 : Int32)), .val (.int av), .val (.int (ct - av))] [(.ref p0), (.int hd), (.ref re)])) (fun t k => XS.aloadN X109.here hx rfl (hb hby d8_100) rfl rfl k) ?_
    obtain ⟨T111, X111, e111, st111⟩ := getF X109 hx hZ hown (host := "") (Or.inl (hw _ (List.mem_of_getElem? (i := 15) rfl))) Via.refl e109 F108 (g := (mkF m 101 #[.val (.ref p0), .val (.int av), .val (.int av), .val (.int p3), .val (.int p4), .val (.int (-1 : Int32)), .val (.int av), .val (.int (ct - av))] [(.ref p0), (.int hd), (.ref re)])) rfl rfl (hb hby d8_101)
    refine own_via (T111.setTop (mkF m 104 #[.val (.ref p0), .val (.int av), .val (.int av), .val (.int p3), .val (.int p4), .val (.int (-1 : Int32)), .val (.int av), .val (.int (ct - av))] [(.ref re), (.int hd), (.ref re)])) (fun t k => st111 t k) ?_
    refine own_via (T111.setTop (mkF m 105 #[.val (.ref p0), .val (.int av), .val (.int av), .val (.int p3), .val (.int p4), .val (.int (-1 : Int32)), .val (.int av), .val (.int (ct - av))] [(.ref p0), (.ref re), (.int hd), (.ref re)])) (fun t k => XS.aloadN X111.here hx rfl (hb hby d8_104) rfl rfl k) ?_
    obtain ⟨T112, X112, e112, st112⟩ := getF X111 hx hZ hown (host := "") (Or.inl (hw _ (List.mem_of_getElem? (i := 17) rfl))) Via.refl e111 F110 (g := (mkF m 105 #[.val (.ref p0), .val (.int av), .val (.int av), .val (.int p3), .val (.int p4), .val (.int (-1 : Int32)), .val (.int av), .val (.int (ct - av))] [(.ref p0), (.ref re), (.int hd), (.ref re)])) rfl rfl (hb hby d8_105)
    refine own_via (T112.setTop (mkF m 108 #[.val (.ref p0), .val (.int av), .val (.int av), .val (.int p3), .val (.int p4), .val (.int (-1 : Int32)), .val (.int av), .val (.int (ct - av))] [(.int hd), (.ref re), (.int hd), (.ref re)])) (fun t k => st112 t k) ?_
    refine own_via (T112.setTop (mkF m 110 #[.val (.ref p0), .val (.int av), .val (.int av), .val (.int p3), .val (.int p4), .val (.int (-1 : Int32)), .val (.int av), .val (.int (ct - av))] [(.int (-1 : Int32)), (.int hd), (.ref re), (.int hd), (.ref re)])) (fun t k => XS.iload X112.here hx rfl (hb hby d8_108) rfl  k) ?_
    refine own_via (T112.setTop (mkF m 111 #[.val (.ref p0), .val (.int av), .val (.int av), .val (.int p3), .val (.int p4), .val (.int (-1 : Int32)), .val (.int av), .val (.int (ct - av))] [(.int (hd + (-1 : Int32))), (.ref re), (.int hd), (.ref re)])) (fun t k => XS.iadd X112.here hx rfl (hb hby d8_110) rfl k) ?_
    refine own_via (T112.setTop (mkF m 113 #[.val (.ref p0), .val (.int av), .val (.int av), .val (.int p3), .val (.int p4), .val (.int (-1 : Int32)), .val (.int av), .val (.int (ct - av))] [(.int av), (.int (hd + (-1 : Int32))), (.ref re), (.int hd), (.ref re)])) (fun t k => XS.iload X112.here hx rfl (hb hby d8_111) rfl  k) ?_
    have F114 := (P5.keep K105q (fun q => (Ne.symm hn3) (List.mem_singleton.mp q)))
    obtain ⟨T113, h113, X113, e113, K113q, V113, st113⟩ := own_copy X112 hx hZ hown (hw _ (List.mem_of_getElem? (i := 50) rfl)) (hw _ (List.mem_of_getElem? (i := 53) rfl)) (hw _ (List.mem_of_getElem? (i := 51) rfl)) (hw _ (List.mem_of_getElem? (i := 52) rfl)) e112 F114 (by decide) (jo := hd) (jq := (hd + (-1 : Int32))) (jn := av) (own_cb1 hI hc ha hba) (g := (mkF m 113 #[.val (.ref p0), .val (.int av), .val (.int av), .val (.int p3), .val (.int p4), .val (.int (-1 : Int32)), .val (.int av), .val (.int (ct - av))] [(.int av), (.int (hd + (-1 : Int32))), (.ref re), (.int hd), (.ref re)])) rfl (by rw [hml]; rfl) rfl (hb hby d8_113) (W := 0) (by show 2 * 0 + _ ≤ _; exact Nat.le_of_eq rfl) (by decide) (by decide)
    have N113 := Fr.app N105 (own_frc (q := (hd + (-1 : Int32)).toInt.toNat) (n := av.toInt.toNat) gg_re)
    have K115 : Keep h0 h113 [p0, rs, re] := K106.trans K113q (fun x hx => by rw [List.mem_singleton.mp hx]; exact Or.inl (List.mem_of_getElem? (i := 2) rfl))
    refine own_via (T113.setTop (mkF m 116 #[.val (.ref p0), .val (.int av), .val (.int av), .val (.int p3), .val (.int p4), .val (.int (-1 : Int32)), .val (.int av), .val (.int (ct - av))] [])) (fun t k => st113 t k) ?_
    refine own_via (T113.setTop (mkF m 117 #[.val (.ref p0), .val (.int av), .val (.int av), .val (.int p3), .val (.int p4), .val (.int (-1 : Int32)), .val (.int av), .val (.int (ct - av))] [(.ref p0)])) (fun t k => XS.aloadN X113.here hx rfl (hb hby d8_116) rfl rfl k) ?_
    refine own_via (T113.setTop (mkF m 118 #[.val (.ref p0), .val (.int av), .val (.int av), .val (.int p3), .val (.int p4), .val (.int (-1 : Int32)), .val (.int av), .val (.int (ct - av))] [(.ref p0), (.ref p0)])) (fun t k => XS.dup X113.here hx rfl (hb hby d8_117) rfl rfl k) ?_
    have F117 := (F110.keep K113q (fun q => hn2 (List.mem_singleton.mp q)))
    obtain ⟨T116, X116, e116, st116⟩ := getF X113 hx hZ hown (host := "") (Or.inl (hw _ (List.mem_of_getElem? (i := 17) rfl))) Via.refl e113 F117 (g := (mkF m 118 #[.val (.ref p0), .val (.int av), .val (.int av), .val (.int p3), .val (.int p4), .val (.int (-1 : Int32)), .val (.int av), .val (.int (ct - av))] [(.ref p0), (.ref p0)])) rfl rfl (hb hby d8_118)
    refine own_via (T116.setTop (mkF m 121 #[.val (.ref p0), .val (.int av), .val (.int av), .val (.int p3), .val (.int p4), .val (.int (-1 : Int32)), .val (.int av), .val (.int (ct - av))] [(.int hd), (.ref p0)])) (fun t k => st116 t k) ?_
    refine own_via (T116.setTop (mkF m 123 #[.val (.ref p0), .val (.int av), .val (.int av), .val (.int p3), .val (.int p4), .val (.int (-1 : Int32)), .val (.int av), .val (.int (ct - av))] [(.int (-1 : Int32)), (.int hd), (.ref p0)])) (fun t k => XS.iload X116.here hx rfl (hb hby d8_121) rfl  k) ?_
    refine own_via (T116.setTop (mkF m 124 #[.val (.ref p0), .val (.int av), .val (.int av), .val (.int p3), .val (.int p4), .val (.int (-1 : Int32)), .val (.int av), .val (.int (ct - av))] [(.int (hd + (-1 : Int32))), (.ref p0)])) (fun t k => XS.iadd X116.here hx rfl (hb hby d8_123) rfl k) ?_
    have F119 := ((P6.keep K105q).keep K113q)
    obtain ⟨T118, h118, X118, e118, W118, st118⟩ := putF X116 hx hZ hown (host := "") (Or.inl (hw _ (List.mem_of_getElem? (i := 17) rfl))) Via.refl e116 F117 F119 (Or.inl (hw _ (List.mem_of_getElem? (i := 18) rfl))) (hw _ (List.mem_of_getElem? (i := 5) rfl)) (ty := .int) (by decide) rfl rfl (g := (mkF m 124 #[.val (.ref p0), .val (.int av), .val (.int av), .val (.int p3), .val (.int p4), .val (.int (-1 : Int32)), .val (.int av), .val (.int (ct - av))] [(.int (hd + (-1 : Int32))), (.ref p0)])) rfl rfl (hb hby d8_124)
    have Fw118 := F117.same W118
    have N118 := Fr.snoc X118 N113 gg_p0
    have K120 : Keep h0 h118 [p0, rs, re] := K115.wr W118 (Or.inl (List.mem_of_getElem? (i := 0) rfl))
    refine own_via (T118.setTop (mkF m 127 #[.val (.ref p0), .val (.int av), .val (.int av), .val (.int p3), .val (.int p4), .val (.int (-1 : Int32)), .val (.int av), .val (.int (ct - av))] [])) (fun t k => st118 t k) ?_
    refine own_via (T118.setTop (mkF m 186 #[.val (.ref p0), .val (.int av), .val (.int av), .val (.int p3), .val (.int p4), .val (.int (-1 : Int32)), .val (.int av), .val (.int (ct - av))] [])) (fun t k => XS.goto X118.here hx rfl (pc0 := 127) (pc' := 186) rfl (hb hby d8_127) (by decide) (by decide) k) ?_
    refine own_via (T118.setTop (mkF m 187 #[.val (.ref p0), .val (.int av), .val (.int av), .val (.int p3), .val (.int p4), .val (.int (-1 : Int32)), .val (.int av), .val (.int (ct - av))] [(.ref p0)])) (fun t k => XS.aloadN X118.here hx rfl (hb hby d8_186) rfl rfl k) ?_
    have F122 := (((P0.keep K105q (fun q => hn1 (List.mem_singleton.mp q))).keep K113q (fun q => hn2 (List.mem_singleton.mp q))).other W118 (Or.inr (slot_ne (Or.inl (hw _ (List.mem_of_getElem? (i := 14) rfl))) (Or.inl (hw _ (List.mem_of_getElem? (i := 18) rfl))) (by decide) (t := (.array .int)) (t' := .int) (by decide) (by decide))))
    obtain ⟨T121, X121, e121, st121⟩ := getF X118 hx hZ hown (host := "") (Or.inl (hw _ (List.mem_of_getElem? (i := 13) rfl))) Via.refl e118 F122 (g := (mkF m 187 #[.val (.ref p0), .val (.int av), .val (.int av), .val (.int p3), .val (.int p4), .val (.int (-1 : Int32)), .val (.int av), .val (.int (ct - av))] [(.ref p0)])) rfl rfl (hb hby d8_187)
    refine own_via (T121.setTop (mkF m 190 #[.val (.ref p0), .val (.int av), .val (.int av), .val (.int p3), .val (.int p4), .val (.int (-1 : Int32)), .val (.int av), .val (.int (ct - av))] [(.ref rs)])) (fun t k => st121 t k) ?_
    refine own_via (T121.setTop (mkF m 191 #[.val (.ref p0), .val (.int av), .val (.int av), .val (.int p3), .val (.int p4), .val (.int (-1 : Int32)), .val (.int av), .val (.int (ct - av))] [(.ref p0), (.ref rs)])) (fun t k => XS.aloadN X121.here hx rfl (hb hby d8_190) rfl rfl k) ?_
    obtain ⟨T123, X123, e123, st123⟩ := getF X121 hx hZ hown (host := "") (Or.inl (hw _ (List.mem_of_getElem? (i := 17) rfl))) Via.refl e121 Fw118 (g := (mkF m 191 #[.val (.ref p0), .val (.int av), .val (.int av), .val (.int p3), .val (.int p4), .val (.int (-1 : Int32)), .val (.int av), .val (.int (ct - av))] [(.ref p0), (.ref rs)])) rfl rfl (hb hby d8_191)
    refine own_via (T123.setTop (mkF m 194 #[.val (.ref p0), .val (.int av), .val (.int av), .val (.int p3), .val (.int p4), .val (.int (-1 : Int32)), .val (.int av), .val (.int (ct - av))] [(.int (hd + (-1 : Int32))), (.ref rs)])) (fun t k => st123 t k) ?_
    refine own_via (T123.setTop (mkF m 195 #[.val (.ref p0), .val (.int av), .val (.int av), .val (.int p3), .val (.int p4), .val (.int (-1 : Int32)), .val (.int av), .val (.int (ct - av))] [(.int av), (.int (hd + (-1 : Int32))), (.ref rs)])) (fun t k => XS.iloadN X123.here hx rfl (hb hby d8_194) rfl  k) ?_
    refine own_via (T123.setTop (mkF m 196 #[.val (.ref p0), .val (.int av), .val (.int av), .val (.int p3), .val (.int p4), .val (.int (-1 : Int32)), .val (.int av), .val (.int (ct - av))] [(.int ((hd + (-1 : Int32)) + av)), (.ref rs)])) (fun t k => XS.iadd X123.here hx rfl (hb hby d8_195) rfl k) ?_
    refine own_via (T123.setTop (mkF m 197 #[.val (.ref p0), .val (.int av), .val (.int av), .val (.int p3), .val (.int p4), .val (.int (-1 : Int32)), .val (.int av), .val (.int (ct - av))] [(.int p3), (.int ((hd + (-1 : Int32)) + av)), (.ref rs)])) (fun t k => XS.iloadN X123.here hx rfl (hb hby d8_196) rfl  k) ?_
    have F125 := ((V105.keep K113q (fun q => hn3 (List.mem_singleton.mp q))).other W118 (Ne.symm hn1))
    obtain ⟨cl126, Ar126, S126, H126⟩ := id F125
    obtain ⟨T124, h124, X124, e124, W124, st124⟩ := stI X123 hx hZ e123 Ar126 (j := ((hd + (-1 : Int32)) + av)) (own_in S126 (own_wi1 hI hc ha hba)) (g := (mkF m 197 #[.val (.ref p0), .val (.int av), .val (.int av), .val (.int p3), .val (.int p4), .val (.int (-1 : Int32)), .val (.int av), .val (.int (ct - av))] [(.int p3), (.int ((hd + (-1 : Int32)) + av)), (.ref rs)])) rfl rfl (hb hby d8_197)
    have V124 : own_A Z h124 rs .int 8 (own_up (own_cp f hd.toInt.toNat (hd + (-1 : Int32)).toInt.toNat av.toInt.toNat) ((hd + (-1 : Int32)) + av).toInt.toNat p3) := own_A.set F125 W124
    have N124 := Fr.snoc X124 N118 gg_rs
    have K127 : Keep h0 h124 [p0, rs, re] := K120.wr W124 (Or.inl (List.mem_of_getElem? (i := 1) rfl))
    refine own_via (T124.setTop (mkF m 198 #[.val (.ref p0), .val (.int av), .val (.int av), .val (.int p3), .val (.int p4), .val (.int (-1 : Int32)), .val (.int av), .val (.int (ct - av))] [])) (fun t k => st124 t k) ?_
    refine own_via (T124.setTop (mkF m 199 #[.val (.ref p0), .val (.int av), .val (.int av), .val (.int p3), .val (.int p4), .val (.int (-1 : Int32)), .val (.int av), .val (.int (ct - av))] [(.ref p0)])) (fun t k => XS.aloadN X124.here hx rfl (hb hby d8_198) rfl rfl k) ?_
    have F129 := (((F108.keep K113q (fun q => hn2 (List.mem_singleton.mp q))).other W118 (Or.inr (slot_ne (Or.inl (hw _ (List.mem_of_getElem? (i := 16) rfl))) (Or.inl (hw _ (List.mem_of_getElem? (i := 18) rfl))) (by decide) (t := (.array .int)) (t' := .int) (by decide) (by decide)))).other W124 (Or.inl hn1))
    obtain ⟨T128, X128, e128, st128⟩ := getF X124 hx hZ hown (host := "") (Or.inl (hw _ (List.mem_of_getElem? (i := 15) rfl))) Via.refl e124 F129 (g := (mkF m 199 #[.val (.ref p0), .val (.int av), .val (.int av), .val (.int p3), .val (.int p4), .val (.int (-1 : Int32)), .val (.int av), .val (.int (ct - av))] [(.ref p0)])) rfl rfl (hb hby d8_199)
    refine own_via (T128.setTop (mkF m 202 #[.val (.ref p0), .val (.int av), .val (.int av), .val (.int p3), .val (.int p4), .val (.int (-1 : Int32)), .val (.int av), .val (.int (ct - av))] [(.ref re)])) (fun t k => st128 t k) ?_
    refine own_via (T128.setTop (mkF m 203 #[.val (.ref p0), .val (.int av), .val (.int av), .val (.int p3), .val (.int p4), .val (.int (-1 : Int32)), .val (.int av), .val (.int (ct - av))] [(.ref p0), (.ref re)])) (fun t k => XS.aloadN X128.here hx rfl (hb hby d8_202) rfl rfl k) ?_
    have F131 := (Fw118.other W124 (Or.inl hn1))
    obtain ⟨T130, X130, e130, st130⟩ := getF X128 hx hZ hown (host := "") (Or.inl (hw _ (List.mem_of_getElem? (i := 17) rfl))) Via.refl e128 F131 (g := (mkF m 203 #[.val (.ref p0), .val (.int av), .val (.int av), .val (.int p3), .val (.int p4), .val (.int (-1 : Int32)), .val (.int av), .val (.int (ct - av))] [(.ref p0), (.ref re)])) rfl rfl (hb hby d8_203)
    refine own_via (T130.setTop (mkF m 206 #[.val (.ref p0), .val (.int av), .val (.int av), .val (.int p3), .val (.int p4), .val (.int (-1 : Int32)), .val (.int av), .val (.int (ct - av))] [(.int (hd + (-1 : Int32))), (.ref re)])) (fun t k => st130 t k) ?_
    refine own_via (T130.setTop (mkF m 207 #[.val (.ref p0), .val (.int av), .val (.int av), .val (.int p3), .val (.int p4), .val (.int (-1 : Int32)), .val (.int av), .val (.int (ct - av))] [(.int av), (.int (hd + (-1 : Int32))), (.ref re)])) (fun t k => XS.iloadN X130.here hx rfl (hb hby d8_206) rfl  k) ?_
    refine own_via (T130.setTop (mkF m 208 #[.val (.ref p0), .val (.int av), .val (.int av), .val (.int p3), .val (.int p4), .val (.int (-1 : Int32)), .val (.int av), .val (.int (ct - av))] [(.int ((hd + (-1 : Int32)) + av)), (.ref re)])) (fun t k => XS.iadd X130.here hx rfl (hb hby d8_207) rfl k) ?_
    refine own_via (T130.setTop (mkF m 210 #[.val (.ref p0), .val (.int av), .val (.int av), .val (.int p3), .val (.int p4), .val (.int (-1 : Int32)), .val (.int av), .val (.int (ct - av))] [(.int p4), (.int ((hd + (-1 : Int32)) + av)), (.ref re)])) (fun t k => XS.iload X130.here hx rfl (hb hby d8_208) rfl  k) ?_
    have F133 := ((V113.other W118 (Ne.symm hn2)).other W124 (Ne.symm hn3))
    obtain ⟨cl134, Ar134, S134, H134⟩ := id F133
    obtain ⟨T132, h132, X132, e132, W132, st132⟩ := stI X130 hx hZ e130 Ar134 (j := ((hd + (-1 : Int32)) + av)) (own_in S134 (own_wi1 hI hc ha hba)) (g := (mkF m 210 #[.val (.ref p0), .val (.int av), .val (.int av), .val (.int p3), .val (.int p4), .val (.int (-1 : Int32)), .val (.int av), .val (.int (ct - av))] [(.int p4), (.int ((hd + (-1 : Int32)) + av)), (.ref re)])) rfl rfl (hb hby d8_210)
    have V132 : own_A Z h132 re .int 8 (own_up (own_cp g hd.toInt.toNat (hd + (-1 : Int32)).toInt.toNat av.toInt.toNat) ((hd + (-1 : Int32)) + av).toInt.toNat p4) := own_A.set F133 W132
    have N132 := Fr.snoc X132 N124 gg_re
    have K135 : Keep h0 h132 [p0, rs, re] := K127.wr W132 (Or.inl (List.mem_of_getElem? (i := 2) rfl))
    refine own_via (T132.setTop (mkF m 211 #[.val (.ref p0), .val (.int av), .val (.int av), .val (.int p3), .val (.int p4), .val (.int (-1 : Int32)), .val (.int av), .val (.int (ct - av))] [])) (fun t k => st132 t k) ?_
    refine own_via (T132.setTop (mkF m 212 #[.val (.ref p0), .val (.int av), .val (.int av), .val (.int p3), .val (.int p4), .val (.int (-1 : Int32)), .val (.int av), .val (.int (ct - av))] [(.ref p0)])) (fun t k => XS.aloadN X132.here hx rfl (hb hby d8_211) rfl rfl k) ?_
    refine own_via (T132.setTop (mkF m 213 #[.val (.ref p0), .val (.int av), .val (.int av), .val (.int p3), .val (.int p4), .val (.int (-1 : Int32)), .val (.int av), .val (.int (ct - av))] [(.ref p0), (.ref p0)])) (fun t k => XS.dup X132.here hx rfl (hb hby d8_212) rfl rfl k) ?_
    have F137 := (((((P2.keep K105q (fun q => hn1 (List.mem_singleton.mp q))).keep K113q (fun q => hn2 (List.mem_singleton.mp q))).other W118 (Or.inr (slot_ne (Or.inl (hw _ (List.mem_of_getElem? (i := 33) rfl))) (Or.inl (hw _ (List.mem_of_getElem? (i := 18) rfl))) (by decide) (t := .int) (t' := .int) (by decide) (by decide)))).other W124 (Or.inl hn1)).other W132 (Or.inl hn2))
    obtain ⟨T136, X136, e136, st136⟩ := getF X132 hx hZ hown (host := "") (Or.inl (hw _ (List.mem_of_getElem? (i := 32) rfl))) Via.refl e132 F137 (g := (mkF m 213 #[.val (.ref p0), .val (.int av), .val (.int av), .val (.int p3), .val (.int p4), .val (.int (-1 : Int32)), .val (.int av), .val (.int (ct - av))] [(.ref p0), (.ref p0)])) rfl rfl (hb hby d8_213)
    refine own_via (T136.setTop (mkF m 216 #[.val (.ref p0), .val (.int av), .val (.int av), .val (.int p3), .val (.int p4), .val (.int (-1 : Int32)), .val (.int av), .val (.int (ct - av))] [(.int ct), (.ref p0)])) (fun t k => st136 t k) ?_
    refine own_via (T136.setTop (mkF m 218 #[.val (.ref p0), .val (.int av), .val (.int av), .val (.int p3), .val (.int p4), .val (.int (-1 : Int32)), .val (.int av), .val (.int (ct - av))] [(.int (-1 : Int32)), (.int ct), (.ref p0)])) (fun t k => XS.iload X136.here hx rfl (hb hby d8_216) rfl  k) ?_
    refine own_via (T136.setTop (mkF m 219 #[.val (.ref p0), .val (.int av), .val (.int av), .val (.int p3), .val (.int p4), .val (.int (-1 : Int32)), .val (.int av), .val (.int (ct - av))] [(.int (ct - (-1 : Int32))), (.ref p0)])) (fun t k => XS.isub X136.here hx rfl (hb hby d8_218) rfl k) ?_
    have F139 := (((F119.wr W118).wr W124).wr W132)
    obtain ⟨T138, h138, X138, e138, W138, st138⟩ := putF X136 hx hZ hown (host := "") (Or.inl (hw _ (List.mem_of_getElem? (i := 32) rfl))) Via.refl e136 F137 F139 (Or.inl (hw _ (List.mem_of_getElem? (i := 33) rfl))) (hw _ (List.mem_of_getElem? (i := 5) rfl)) (ty := .int) (by decide) rfl rfl (g := (mkF m 219 #[.val (.ref p0), .val (.int av), .val (.int av), .val (.int p3), .val (.int p4), .val (.int (-1 : Int32)), .val (.int av), .val (.int (ct - av))] [(.int (ct - (-1 : Int32))), (.ref p0)])) rfl rfl (hb hby d8_219)
    have Fw138 := F137.same W138
    have N138 := Fr.snoc X138 N132 gg_p0
    have K140 : Keep h0 h138 [p0, rs, re] := K135.wr W138 (Or.inl (List.mem_of_getElem? (i := 0) rfl))
    refine own_via (T138.setTop (mkF m 222 #[.val (.ref p0), .val (.int av), .val (.int av), .val (.int p3), .val (.int p4), .val (.int (-1 : Int32)), .val (.int av), .val (.int (ct - av))] [])) (fun t k => st138 t k) ?_
    refine own_leave X138 Bd.notSynchronized (v := none) (fun _ => rfl) (fun fs hr => X138.returnOut hx Bd.returns (hb hby d8_222) hr) ?_ (by decide) (by decide)
    have F141 := (F139.wr W138)
    have F142 := ((F131.other W132 (Or.inl hn2)).other W138 (Or.inr (slot_ne (Or.inl (hw _ (List.mem_of_getElem? (i := 18) rfl))) (Or.inl (hw _ (List.mem_of_getElem? (i := 33) rfl))) (by decide) (t := .int) (t' := .int) (by decide) (by decide))))
    have F143 := (((F122.other W124 (Or.inl hn1)).other W132 (Or.inl hn2)).other W138 (Or.inr (slot_ne (Or.inl (hw _ (List.mem_of_getElem? (i := 14) rfl))) (Or.inl (hw _ (List.mem_of_getElem? (i := 33) rfl))) (by decide) (t := (.array .int)) (t' := .int) (by decide) (by decide))))
    have F144 := ((F129.other W132 (Or.inl hn2)).other W138 (Or.inr (slot_ne (Or.inl (hw _ (List.mem_of_getElem? (i := 16) rfl))) (Or.inl (hw _ (List.mem_of_getElem? (i := 33) rfl))) (by decide) (t := (.array .int)) (t' := .int) (by decide) (by decide))))
    have F145 := ((V124.other W132 hn3).other W138 (Ne.symm hn1))
    have F146 := (V132.other W138 (Ne.symm hn2))
    show (own_Q8 Z p0 av p3 p4 rs hd ct f re g h0 n0) _ T138.heap _
    rw [e138]
    exact ⟨rfl, N138, K140, F141, by unfold own_nh; rw [if_neg hba]; exact F142, Fw138, F143, F144, by unfold own_nf; rw [if_neg hba]; exact F145, by unfold own_nf; rw [if_neg hba]; exact F146⟩
def own_Q7 (Z : State) (p0 : Addr) (p1 : Int32) (p2 : Int32) (rs : Addr) (hd : Int32) (ct : Int32) (f : Nat → Int32) (re : Addr) (g : Nat → Int32) (h0 : Heap) (n0 : Nat) (v : Option Value) (h : Heap) (L : List Loc) : Prop := v = none ∧ Fr n0 L ∧ Keep h0 h [p0, rs, re] ∧ Exa Z h p0 "com/example/honeyguide/honeyguide/Spans" ∧ Fld Z h p0 "com/example/honeyguide/honeyguide/Spans" "head" "I" (.int (own_nh hd ct (own_a f hd ct p1))) ∧ Fld Z h p0 "com/example/honeyguide/honeyguide/Spans" "count" "I" (.int (ct - (-1 : Int32))) ∧ Fld Z h p0 "com/example/honeyguide/honeyguide/Spans" "starts" "[I" (.ref rs) ∧ Fld Z h p0 "com/example/honeyguide/honeyguide/Spans" "ends" "[I" (.ref re) ∧ own_A Z h rs .int 8 (own_nf f hd ct (own_a f hd ct p1) p1) ∧ own_A Z h re .int 8 (own_nf g hd ct (own_a f hd ct p1) p2)
theorem d7_0 : decode prog_161_method_8_code 0 = .ok (.aload_n 0, 1) := by decide +kernel
theorem d7_1 : decode prog_161_method_8_code 1 = .ok (.iload_n 1, 1) := by decide +kernel
theorem d7_2 : decode prog_161_method_8_code 2 = .ok (.invokevirtual 23, 3) := by decide +kernel
theorem d7_5 : decode prog_161_method_8_code 5 = .ok (.istore_n 3, 1) := by decide +kernel
theorem d7_6 : decode prog_161_method_8_code 6 = .ok (.aload_n 0, 1) := by decide +kernel
theorem d7_7 : decode prog_161_method_8_code 7 = .ok (.iload_n 3, 1) := by decide +kernel
theorem d7_8 : decode prog_161_method_8_code 8 = .ok (.iload_n 3, 1) := by decide +kernel
theorem d7_9 : decode prog_161_method_8_code 9 = .ok (.iload_n 1, 1) := by decide +kernel
theorem d7_10 : decode prog_161_method_8_code 10 = .ok (.iload_n 2, 1) := by decide +kernel
theorem d7_11 : decode prog_161_method_8_code 11 = .ok (.invokevirtual 27, 3) := by decide +kernel
theorem d7_14 : decode prog_161_method_8_code 14 = .ok (.return_, 1) := by decide +kernel
theorem pd_0 : parseMethodDescriptor "(I)I" = some ⟨[.int], some .int⟩ := by decide +kernel
theorem pd_1 : parseMethodDescriptor "(IIII)V" = some ⟨[.int, .int, .int, .int], none⟩ := by decide +kernel
theorem ef_7 (m : MethodId) (p0 : Addr) (p1 : Int32) (p2 : Int32) : entryFrame m #[(.ref p0), (.int p1), (.int p2)] 4 = mkF m 0 #[.val (.ref p0), .val (.int p1), .val (.int p2), .unset] [] := by first | (simp [entryFrame, mkF, argsToLocals, Value.category]; done) | rfl
set_option maxRecDepth 65536 in
set_option maxHeartbeats 40000000 in
theorem rm7 (l : Launch) (Z : State) (a0 : Array Value) (hw : ∀ d ∈ tables_1, d.before a0 Z = true) (ws : List Jvm.Cond) (p0 : Addr) (p1 : Int32) (p2 : Int32) (h0 : Heap) (n0 : Nat) (Z0 : n0 ≤ h0.size) (rs : Addr) (hd : Int32) (ct : Int32) (f : Nat → Int32) (re : Addr) (g : Nat → Int32) (P0 : Fld Z h0 p0 "com/example/honeyguide/honeyguide/Spans" "starts" "[I" (.ref rs)) (P1 : Fld Z h0 p0 "com/example/honeyguide/honeyguide/Spans" "head" "I" (.int hd)) (P2 : Fld Z h0 p0 "com/example/honeyguide/honeyguide/Spans" "count" "I" (.int ct)) (P3 : own_A Z h0 rs .int 8 f) (P4 : Fld Z h0 p0 "com/example/honeyguide/honeyguide/Spans" "ends" "[I" (.ref re)) (P5 : own_A Z h0 re .int 8 g) (P6 : Exa Z h0 p0 "com/example/honeyguide/honeyguide/Spans") (gg_p0 : n0 ≤ p0) (gg_rs : n0 ≤ rs) (gg_re : n0 ≤ re) (hI : own_Inv f hd ct) (hc : ct.toInt ≤ 3) (hn1 : p0 ≠ rs) (hn2 : p0 ≠ re) (hn3 : rs ≠ re) :
    MetFree l (⟨"com/example/honeyguide/honeyguide/Spans", "add", "(II)V"⟩ : MethodName) (head1 (Jvm.Cond.code (⟨"com/example/honeyguide/honeyguide/Spans", "add", "(II)V"⟩ : MethodName) prog_161_method_8_code 4 none :: ws) ({ frames := 2, cells := 0, slots := 0, locals := 59 } : Room)) (fun a U => a = #[(.ref p0), (.int p1), (.int p2)] ∧ Z.Warmed39 U.vm ∧ U.heap = h0) (fun _ _ _ _ _ => True) (fun _ U o U' => ∃ v L, o = .returned v ∧ (own_Q7 Z p0 p1 p2 rs hd ct f re g h0 n0) v U'.heap L ∧ FrameEnd U o U' L ({ frames := 2, cells := 0, slots := 0, locals := 59 } : Room).cells ({ frames := 2, cells := 0, slots := 0, locals := 59 } : Room).slots) := by
  refine MetFree.of_bodySF (plainFor_of_name pn_com_example_honeyguide_honeyguide_Spans) hisR ?_
  intro p e s m args below meth c s₁ Bd hml0 hP hK
  obtain ⟨rfl, hZ, hh⟩ := hP
  have hx := Bd.exec
  have hby := Bd.bytes
  have hml : c.maxLocals = 4 := hml0
  have hown : s.vm.findClass "com/example/honeyguide/honeyguide/Spans" = some m.cls := findClass_of_methodNamed Bd.named
  have hnm := (name_of_methodNamed Bd.named Bd.method).1
  have X0 : Stand p l e ({ frames := 2, cells := 0, slots := 0, locals := 59 } : Room) s m #[(.ref p0), (.int p1), (.int p2)] below meth c s₁ [] 0 0 := Stand.of_body Bd
  have e0 : s₁.heap = h0 := by rw [← hh, Bd.state]; rfl
  have N0 := Fr.nil n0
  refine own_body (QQ := (own_Q7 Z p0 p1 p2 rs hd ct f re g h0 n0)) (ef_7 m p0 p1 p2) ?_
  refine own_via (s₁.setTop (mkF m 1 #[.val (.ref p0), .val (.int p1), .val (.int p2), .unset] [(.ref p0)])) (fun t k => XS.aloadN X0.here hx rfl (hb hby d7_0) rfl rfl k) ?_
  refine own_via (s₁.setTop (mkF m 2 #[.val (.ref p0), .val (.int p1), .val (.int p2), .unset] [(.int p1), (.ref p0)])) (fun t k => XS.iloadN X0.here hx rfl (hb hby d7_1) rfl  k) ?_
  obtain ⟨cq147, kq147, q147a, q147b, q147c⟩ := isOf hZ e0 P6
  obtain ⟨_, _, ⟨T147, L147, k147, n147⟩, -, X147, ⟨Lc147, hQ147, l147, y147, z147⟩, st147⟩ := X0.virtualBack hx (y := (⟨"com/example/honeyguide/honeyguide/Spans", "after", "(I)I"⟩ : MethodName)) (z := (⟨"com/example/honeyguide/honeyguide/Spans", "after", "(I)I"⟩ : MethodName)) hown (mvT hZ (hw _ (List.mem_of_getElem? (i := 44) rfl))) (mvT hZ (hw _ (List.mem_of_getElem? (i := 35) rfl))) (notFace_of_selects (args := #[]) (mvT hZ (hw _ (List.mem_of_getElem? (i := 37) rfl)))) (mvT hZ (hw _ (List.mem_of_getElem? (i := 37) rfl))) (mvT hZ (hw _ (List.mem_of_getElem? (i := 36) rfl))) (by decide) (backOf (W := 0) (rm6 l Z a0 hw [] p0 p1 h0 n0 (Nat.le_trans Z0 (Keep.refl h0 [p0, rs, re]).1) rs hd ct f P0 P1 P2 P3 hI) hZ (hw _ (List.mem_of_getElem? (i := 38) rfl)) (hw _ (List.mem_of_getElem? (i := 6) rfl)) (by decide) (by decide)) q147a q147c (g := (mkF m 2 #[.val (.ref p0), .val (.int p1), .val (.int p2), .unset] [(.int p1), (.ref p0)])) rfl (by rw [hml]; rfl) (Steps.refl _) (argsL := [(.int p1)]) (rest := []) (lenOf pd_0 rfl) rfl (by show 2 * 0 + _ ≤ _; exact Nat.le_of_eq rfl) (hb hby d7_2) (fun _ _ => ⟨rfl, e0, (by decide : 0 + 0 ≤ _), (by decide : 0 + 0 ≤ _)⟩)
  dsimp only [Pt.U, Pt.locs, Pt.cells, Pt.slots] at X147 l147 y147 z147 st147 hQ147
  rw [y147, z147] at X147
  have X147 : Stand _ _ _ _ _ _ _ _ _ _ T147 L147 0 0 := X147
  obtain ⟨rfl, N147q, e147⟩ := hQ147
  have N147 : Fr n0 L147 := by rw [l147]; exact Fr.app N0 N147q
  refine own_via (T147.setTop (mkF m 5 #[.val (.ref p0), .val (.int p1), .val (.int p2), .unset] [(.int (own_a f hd ct p1))])) (fun t k => st147.trans k) ?_
  refine own_via (T147.setTop (mkF m 6 #[.val (.ref p0), .val (.int p1), .val (.int p2), .val (.int (own_a f hd ct p1))] [])) (fun t k => XS.istoreN X147.here hx rfl (hb hby d7_5) rfl (l' := #[.val (.ref p0), .val (.int p1), .val (.int p2), .val (.int (own_a f hd ct p1))]) rfl k) ?_
  refine own_via (T147.setTop (mkF m 7 #[.val (.ref p0), .val (.int p1), .val (.int p2), .val (.int (own_a f hd ct p1))] [(.ref p0)])) (fun t k => XS.aloadN X147.here hx rfl (hb hby d7_6) rfl rfl k) ?_
  refine own_via (T147.setTop (mkF m 8 #[.val (.ref p0), .val (.int p1), .val (.int p2), .val (.int (own_a f hd ct p1))] [(.int (own_a f hd ct p1)), (.ref p0)])) (fun t k => XS.iloadN X147.here hx rfl (hb hby d7_7) rfl  k) ?_
  refine own_via (T147.setTop (mkF m 9 #[.val (.ref p0), .val (.int p1), .val (.int p2), .val (.int (own_a f hd ct p1))] [(.int (own_a f hd ct p1)), (.int (own_a f hd ct p1)), (.ref p0)])) (fun t k => XS.iloadN X147.here hx rfl (hb hby d7_8) rfl  k) ?_
  refine own_via (T147.setTop (mkF m 10 #[.val (.ref p0), .val (.int p1), .val (.int p2), .val (.int (own_a f hd ct p1))] [(.int p1), (.int (own_a f hd ct p1)), (.int (own_a f hd ct p1)), (.ref p0)])) (fun t k => XS.iloadN X147.here hx rfl (hb hby d7_9) rfl  k) ?_
  refine own_via (T147.setTop (mkF m 11 #[.val (.ref p0), .val (.int p1), .val (.int p2), .val (.int (own_a f hd ct p1))] [(.int p2), (.int p1), (.int (own_a f hd ct p1)), (.int (own_a f hd ct p1)), (.ref p0)])) (fun t k => XS.iloadN X147.here hx rfl (hb hby d7_10) rfl  k) ?_
  obtain ⟨cq148, kq148, q148a, q148b, q148c⟩ := isOf hZ e147 P6
  obtain ⟨_, _, ⟨T148, L148, k148, n148⟩, -, X148, ⟨Lc148, hQ148, l148, y148, z148⟩, st148⟩ := X147.virtualBack hx (y := (⟨"com/example/honeyguide/honeyguide/Spans", "replace", "(IIII)V"⟩ : MethodName)) (z := (⟨"com/example/honeyguide/honeyguide/Spans", "replace", "(IIII)V"⟩ : MethodName)) hown (mvT hZ (hw _ (List.mem_of_getElem? (i := 45) rfl))) (mvT hZ (hw _ (List.mem_of_getElem? (i := 46) rfl))) (notFace_of_selects (args := #[]) (mvT hZ (hw _ (List.mem_of_getElem? (i := 48) rfl)))) (mvT hZ (hw _ (List.mem_of_getElem? (i := 48) rfl))) (mvT hZ (hw _ (List.mem_of_getElem? (i := 47) rfl))) (by decide) (backOf (W := 0) (rm8 l Z a0 hw [] p0 (own_a f hd ct p1) p1 p2 h0 n0 (Nat.le_trans Z0 (Keep.refl h0 [p0, rs, re]).1) rs hd ct f re g P0 P1 P2 P3 P4 P5 P6 gg_p0 gg_rs gg_re hI hc hn1 hn2 hn3 (own_ab hI)) hZ (hw _ (List.mem_of_getElem? (i := 49) rfl)) (hw _ (List.mem_of_getElem? (i := 6) rfl)) (by decide) (by decide)) q148a q148c (g := (mkF m 11 #[.val (.ref p0), .val (.int p1), .val (.int p2), .val (.int (own_a f hd ct p1))] [(.int p2), (.int p1), (.int (own_a f hd ct p1)), (.int (own_a f hd ct p1)), (.ref p0)])) rfl (by rw [hml]; rfl) (Steps.refl _) (argsL := [(.int (own_a f hd ct p1)), (.int (own_a f hd ct p1)), (.int p1), (.int p2)]) (rest := []) (lenOf pd_1 rfl) rfl (by show 2 * 0 + _ ≤ _; exact Nat.le_of_eq rfl) (hb hby d7_11) (fun _ _ => ⟨rfl, e147, (by decide : 0 + 0 ≤ _), (by decide : 0 + 0 ≤ _)⟩)
  dsimp only [Pt.U, Pt.locs, Pt.cells, Pt.slots] at X148 l148 y148 z148 st148 hQ148
  rw [y148, z148] at X148
  have X148 : Stand _ _ _ _ _ _ _ _ _ _ T148 L148 0 0 := X148
  obtain ⟨h148, e148⟩ : ∃ h, T148.heap = h := ⟨_, rfl⟩
  rw [e148] at hQ148
  obtain ⟨rfl, N148q, K148q, G148_0, G148_1, G148_2, G148_3, G148_4, G148_5, G148_6⟩ := hQ148
  have N148 : Fr n0 L148 := by rw [l148]; exact Fr.app N147 N148q
  have mq148 : ∀ x ∈ [p0, rs, re], x ∈ [p0, rs, re] ∨ h0.size ≤ x := by
    intro x hx
    rcases List.mem_cons.mp hx with e | hx
    · rw [e]; exact Or.inl (List.mem_of_getElem? (i := 0) rfl)
    rcases List.mem_cons.mp hx with e | hx
    · rw [e]; exact Or.inl (List.mem_of_getElem? (i := 1) rfl)
    rw [List.mem_singleton.mp hx]; exact Or.inl (List.mem_of_getElem? (i := 2) rfl)
  have K149 : Keep h0 h148 [p0, rs, re] := (Keep.refl h0 [p0, rs, re]).trans K148q mq148
  refine own_via (T148.setTop (mkF m 14 #[.val (.ref p0), .val (.int p1), .val (.int p2), .val (.int (own_a f hd ct p1))] [])) (fun t k => st148.trans k) ?_
  refine own_leave X148 Bd.notSynchronized (v := none) (fun _ => rfl) (fun fs hr => X148.returnOut hx Bd.returns (hb hby d7_14) hr) ?_ (by decide) (by decide)
  show (own_Q7 Z p0 p1 p2 rs hd ct f re g h0 n0) _ T148.heap _
  rw [e148]
  exact ⟨rfl, N148, K149, G148_0, G148_1, G148_2, G148_3, G148_4, G148_5, G148_6⟩
def own_Q3 (Z : State) (p0 : Addr) (p1 : Addr) (p2 : Int32) (p3 : Int32) (rs : Addr) (hd : Int32) (ct : Int32) (f : Nat → Int32) (re : Addr) (g : Nat → Int32) (sa : Nat → Int32) (h0 : Heap) (n0 : Nat) (v : Option Value) (h : Heap) (L : List Loc) : Prop := v = none ∧ Fr n0 L ∧ Keep h0 h [p0, rs, re] ∧ Exa Z h p0 "com/example/honeyguide/honeyguide/Spans" ∧ Fld Z h p0 "com/example/honeyguide/honeyguide/Spans" "head" "I" (.int (own_ih f hd ct p2 p3 (sa p2.toInt.toNat))) ∧ Fld Z h p0 "com/example/honeyguide/honeyguide/Spans" "count" "I" (.int (own_ic ct p2 p3)) ∧ Fld Z h p0 "com/example/honeyguide/honeyguide/Spans" "starts" "[I" (.ref rs) ∧ Fld Z h p0 "com/example/honeyguide/honeyguide/Spans" "ends" "[I" (.ref re) ∧ own_A Z h rs .int 8 (own_if f f hd ct p2 p3 (sa p2.toInt.toNat) (sa p2.toInt.toNat)) ∧ own_A Z h re .int 8 (own_if g f hd ct p2 p3 (sa p2.toInt.toNat) ((sa p2.toInt.toNat) + (1 : Int32)))
theorem d3_0 : decode method_3_code 0 = .ok (.iload_n 2, 1) := by decide +kernel
theorem d3_1 : decode method_3_code 1 = .ok (.iload_n 3, 1) := by decide +kernel
theorem d3_2 : decode method_3_code 2 = .ok (.if_icmp .ge 15, 3) := by decide +kernel
theorem d3_5 : decode method_3_code 5 = .ok (.aload_n 0, 1) := by decide +kernel
theorem d3_6 : decode method_3_code 6 = .ok (.aload_n 1, 1) := by decide +kernel
theorem d3_7 : decode method_3_code 7 = .ok (.iload_n 2, 1) := by decide +kernel
theorem d3_8 : decode method_3_code 8 = .ok (.iaload, 1) := by decide +kernel
theorem d3_9 : decode method_3_code 9 = .ok (.aload_n 1, 1) := by decide +kernel
theorem d3_10 : decode method_3_code 10 = .ok (.iload_n 2, 1) := by decide +kernel
theorem d3_11 : decode method_3_code 11 = .ok (.iaload, 1) := by decide +kernel
theorem d3_12 : decode method_3_code 12 = .ok (.iconst 1, 1) := by decide +kernel
theorem d3_13 : decode method_3_code 13 = .ok (.iadd, 1) := by decide +kernel
theorem d3_14 : decode method_3_code 14 = .ok (.invokevirtual 39, 3) := by decide +kernel
theorem d3_17 : decode method_3_code 17 = .ok (.return_, 1) := by decide +kernel
theorem pd_2 : parseMethodDescriptor "(II)V" = some ⟨[.int, .int], none⟩ := by decide +kernel
theorem ef_3 (m : MethodId) (p0 : Addr) (p1 : Addr) (p2 : Int32) (p3 : Int32) : entryFrame m #[(.ref p0), (.ref p1), (.int p2), (.int p3)] 4 = mkF m 0 #[.val (.ref p0), .val (.ref p1), .val (.int p2), .val (.int p3)] [] := by first | (simp [entryFrame, mkF, argsToLocals, Value.category]; done) | rfl
set_option maxRecDepth 65536 in
set_option maxHeartbeats 40000000 in
theorem rm3 (l : Launch) (Z : State) (a0 : Array Value) (hw : ∀ d ∈ tables_1, d.before a0 Z = true) (ws : List Jvm.Cond) (p0 : Addr) (p1 : Addr) (p2 : Int32) (p3 : Int32) (h0 : Heap) (n0 : Nat) (Z0 : n0 ≤ h0.size) (rs : Addr) (hd : Int32) (ct : Int32) (f : Nat → Int32) (re : Addr) (g : Nat → Int32) (sa : Nat → Int32) (P0 : Fld Z h0 p0 "com/example/honeyguide/honeyguide/Spans" "starts" "[I" (.ref rs)) (P1 : Fld Z h0 p0 "com/example/honeyguide/honeyguide/Spans" "head" "I" (.int hd)) (P2 : Fld Z h0 p0 "com/example/honeyguide/honeyguide/Spans" "count" "I" (.int ct)) (P3 : own_A Z h0 rs .int 8 f) (P4 : Fld Z h0 p0 "com/example/honeyguide/honeyguide/Spans" "ends" "[I" (.ref re)) (P5 : own_A Z h0 re .int 8 g) (P6 : Exa Z h0 p0 "com/example/honeyguide/honeyguide/Spans") (P7 : own_A Z h0 p1 .int 4 sa) (gg_p0 : n0 ≤ p0) (gg_rs : n0 ≤ rs) (gg_re : n0 ≤ re) (hI : own_Inv f hd ct) (hc : ct.toInt ≤ 3) (hn1 : p0 ≠ rs) (hn2 : p0 ≠ re) (hn3 : rs ≠ re) (hp : 0 ≤ p2.toInt ∧ p2.toInt < 4) :
    MetFree l (⟨"com/example/honeyguide/honeyguide/SpansAfterPinLaw", "addIf", "(Lcom/example/honeyguide/honeyguide/Spans;[III)V"⟩ : MethodName) (head1 (Jvm.Cond.code (⟨"com/example/honeyguide/honeyguide/SpansAfterPinLaw", "addIf", "(Lcom/example/honeyguide/honeyguide/Spans;[III)V"⟩ : MethodName) method_3_code 4 none :: ws) ({ frames := 3, cells := 0, slots := 0, locals := 74 } : Room)) (fun a U => a = #[(.ref p0), (.ref p1), (.int p2), (.int p3)] ∧ Z.Warmed39 U.vm ∧ U.heap = h0) (fun _ _ _ _ _ => True) (fun _ U o U' => ∃ v L, o = .returned v ∧ (own_Q3 Z p0 p1 p2 p3 rs hd ct f re g sa h0 n0) v U'.heap L ∧ FrameEnd U o U' L ({ frames := 3, cells := 0, slots := 0, locals := 74 } : Room).cells ({ frames := 3, cells := 0, slots := 0, locals := 74 } : Room).slots) := by
  refine MetFree.of_bodySF (plainFor_of_name pn_com_example_honeyguide_honeyguide_SpansAfterPinLaw) hisR ?_
  intro p e s m args below meth c s₁ Bd hml0 hP hK
  obtain ⟨rfl, hZ, hh⟩ := hP
  have hx := Bd.exec
  have hby := Bd.bytes
  have hml : c.maxLocals = 4 := hml0
  have hown : s.vm.findClass "com/example/honeyguide/honeyguide/SpansAfterPinLaw" = some m.cls := findClass_of_methodNamed Bd.named
  have hnm := (name_of_methodNamed Bd.named Bd.method).1
  have X0 : Stand p l e ({ frames := 3, cells := 0, slots := 0, locals := 74 } : Room) s m #[(.ref p0), (.ref p1), (.int p2), (.int p3)] below meth c s₁ [] 0 0 := Stand.of_body Bd
  have e0 : s₁.heap = h0 := by rw [← hh, Bd.state]; rfl
  have N0 := Fr.nil n0
  refine own_body (QQ := (own_Q3 Z p0 p1 p2 p3 rs hd ct f re g sa h0 n0)) (ef_3 m p0 p1 p2 p3) ?_
  refine own_via (s₁.setTop (mkF m 1 #[.val (.ref p0), .val (.ref p1), .val (.int p2), .val (.int p3)] [(.int p2)])) (fun t k => XS.iloadN X0.here hx rfl (hb hby d3_0) rfl  k) ?_
  refine own_via (s₁.setTop (mkF m 2 #[.val (.ref p0), .val (.ref p1), .val (.int p2), .val (.int p3)] [(.int p3), (.int p2)])) (fun t k => XS.iloadN X0.here hx rfl (hb hby d3_1) rfl  k) ?_
  by_cases hc2_150 : p2 < p3
  · refine own_via (s₁.setTop (mkF m 5 #[.val (.ref p0), .val (.ref p1), .val (.int p2), .val (.int p3)] [])) (fun t k => XS.icmpNo X0.here hx rfl (hb hby d3_2) rfl (tlt hc2_150).2.1 k) ?_
    refine own_via (s₁.setTop (mkF m 6 #[.val (.ref p0), .val (.ref p1), .val (.int p2), .val (.int p3)] [(.ref p0)])) (fun t k => XS.aloadN X0.here hx rfl (hb hby d3_5) rfl rfl k) ?_
    refine own_via (s₁.setTop (mkF m 7 #[.val (.ref p0), .val (.ref p1), .val (.int p2), .val (.int p3)] [(.ref p1), (.ref p0)])) (fun t k => XS.aloadN X0.here hx rfl (hb hby d3_6) rfl rfl k) ?_
    refine own_via (s₁.setTop (mkF m 8 #[.val (.ref p0), .val (.ref p1), .val (.int p2), .val (.int p3)] [(.int p2), (.ref p1), (.ref p0)])) (fun t k => XS.iloadN X0.here hx rfl (hb hby d3_7) rfl  k) ?_
    obtain ⟨cl152, Ar152, S152, H152⟩ := id P7
    refine own_via (s₁.setTop (mkF m 9 #[.val (.ref p0), .val (.ref p1), .val (.int p2), .val (.int p3)] [(.int (sa p2.toInt.toNat)), (.ref p0)])) (fun t k => X0.iaload hx (j := p2) (v := (.int (sa p2.toInt.toNat))) (by rw [e0]; exact Ar152.1) (State.isArrayOf_alike hZ.alike Ar152.2.1) Ar152.2.2 (own_in S152 hp) (own_at H152 hp) (g := (mkF m 8 #[.val (.ref p0), .val (.ref p1), .val (.int p2), .val (.int p3)] [(.int p2), (.ref p1), (.ref p0)])) rfl rfl (hb hby d3_8) _ k) ?_
    refine own_via (s₁.setTop (mkF m 10 #[.val (.ref p0), .val (.ref p1), .val (.int p2), .val (.int p3)] [(.ref p1), (.int (sa p2.toInt.toNat)), (.ref p0)])) (fun t k => XS.aloadN X0.here hx rfl (hb hby d3_9) rfl rfl k) ?_
    refine own_via (s₁.setTop (mkF m 11 #[.val (.ref p0), .val (.ref p1), .val (.int p2), .val (.int p3)] [(.int p2), (.ref p1), (.int (sa p2.toInt.toNat)), (.ref p0)])) (fun t k => XS.iloadN X0.here hx rfl (hb hby d3_10) rfl  k) ?_
    obtain ⟨cl154, Ar154, S154, H154⟩ := id P7
    refine own_via (s₁.setTop (mkF m 12 #[.val (.ref p0), .val (.ref p1), .val (.int p2), .val (.int p3)] [(.int (sa p2.toInt.toNat)), (.int (sa p2.toInt.toNat)), (.ref p0)])) (fun t k => X0.iaload hx (j := p2) (v := (.int (sa p2.toInt.toNat))) (by rw [e0]; exact Ar154.1) (State.isArrayOf_alike hZ.alike Ar154.2.1) Ar154.2.2 (own_in S154 hp) (own_at H154 hp) (g := (mkF m 11 #[.val (.ref p0), .val (.ref p1), .val (.int p2), .val (.int p3)] [(.int p2), (.ref p1), (.int (sa p2.toInt.toNat)), (.ref p0)])) rfl rfl (hb hby d3_11) _ k) ?_
    refine own_via (s₁.setTop (mkF m 13 #[.val (.ref p0), .val (.ref p1), .val (.int p2), .val (.int p3)] [(.int (1 : Int32)), (.int (sa p2.toInt.toNat)), (.int (sa p2.toInt.toNat)), (.ref p0)])) (fun t k => XS.iconst X0.here hx rfl (hb hby d3_12) k) ?_
    refine own_via (s₁.setTop (mkF m 14 #[.val (.ref p0), .val (.ref p1), .val (.int p2), .val (.int p3)] [(.int ((sa p2.toInt.toNat) + (1 : Int32))), (.int (sa p2.toInt.toNat)), (.ref p0)])) (fun t k => XS.iadd X0.here hx rfl (hb hby d3_13) rfl k) ?_
    obtain ⟨cq155, kq155, q155a, q155b, q155c⟩ := isOf hZ e0 P6
    obtain ⟨_, _, ⟨T155, L155, k155, n155⟩, -, X155, ⟨Lc155, hQ155, l155, y155, z155⟩, st155⟩ := X0.virtualBack hx (y := (⟨"com/example/honeyguide/honeyguide/Spans", "add", "(II)V"⟩ : MethodName)) (z := (⟨"com/example/honeyguide/honeyguide/Spans", "add", "(II)V"⟩ : MethodName)) hown (mvT hZ (hw _ (List.mem_of_getElem? (i := 39) rfl))) (mvT hZ (hw _ (List.mem_of_getElem? (i := 40) rfl))) (notFace_of_selects (args := #[]) (mvT hZ (hw _ (List.mem_of_getElem? (i := 42) rfl)))) (mvT hZ (hw _ (List.mem_of_getElem? (i := 42) rfl))) (mvT hZ (hw _ (List.mem_of_getElem? (i := 41) rfl))) (by decide) (backOf (W := 0) (rm7 l Z a0 hw [] p0 (sa p2.toInt.toNat) ((sa p2.toInt.toNat) + (1 : Int32)) h0 n0 (Nat.le_trans Z0 (Keep.refl h0 [p0, rs, re]).1) rs hd ct f re g P0 P1 P2 P3 P4 P5 P6 gg_p0 gg_rs gg_re hI hc hn1 hn2 hn3) hZ (hw _ (List.mem_of_getElem? (i := 43) rfl)) (hw _ (List.mem_of_getElem? (i := 6) rfl)) (by decide) (by decide)) q155a q155c (g := (mkF m 14 #[.val (.ref p0), .val (.ref p1), .val (.int p2), .val (.int p3)] [(.int ((sa p2.toInt.toNat) + (1 : Int32))), (.int (sa p2.toInt.toNat)), (.ref p0)])) rfl (by rw [hml]; rfl) (Steps.refl _) (argsL := [(.int (sa p2.toInt.toNat)), (.int ((sa p2.toInt.toNat) + (1 : Int32)))]) (rest := []) (lenOf pd_2 rfl) rfl (by show 2 * 0 + _ ≤ _; exact Nat.le_of_eq rfl) (hb hby d3_14) (fun _ _ => ⟨rfl, e0, (by decide : 0 + 0 ≤ _), (by decide : 0 + 0 ≤ _)⟩)
    dsimp only [Pt.U, Pt.locs, Pt.cells, Pt.slots] at X155 l155 y155 z155 st155 hQ155
    rw [y155, z155] at X155
    have X155 : Stand _ _ _ _ _ _ _ _ _ _ T155 L155 0 0 := X155
    obtain ⟨h155, e155⟩ : ∃ h, T155.heap = h := ⟨_, rfl⟩
    rw [e155] at hQ155
    obtain ⟨rfl, N155q, K155q, G155_0, G155_1, G155_2, G155_3, G155_4, G155_5, G155_6⟩ := hQ155
    have N155 : Fr n0 L155 := by rw [l155]; exact Fr.app N0 N155q
    have mq155 : ∀ x ∈ [p0, rs, re], x ∈ [p0, rs, re] ∨ h0.size ≤ x := by
      intro x hx
      rcases List.mem_cons.mp hx with e | hx
      · rw [e]; exact Or.inl (List.mem_of_getElem? (i := 0) rfl)
      rcases List.mem_cons.mp hx with e | hx
      · rw [e]; exact Or.inl (List.mem_of_getElem? (i := 1) rfl)
      rw [List.mem_singleton.mp hx]; exact Or.inl (List.mem_of_getElem? (i := 2) rfl)
    have K156 : Keep h0 h155 [p0, rs, re] := (Keep.refl h0 [p0, rs, re]).trans K155q mq155
    refine own_via (T155.setTop (mkF m 17 #[.val (.ref p0), .val (.ref p1), .val (.int p2), .val (.int p3)] [])) (fun t k => st155.trans k) ?_
    refine own_leave X155 Bd.notSynchronized (v := none) (fun _ => rfl) (fun fs hr => X155.returnOut hx Bd.returns (hb hby d3_17) hr) ?_ (by decide) (by decide)
    show (own_Q3 Z p0 p1 p2 p3 rs hd ct f re g sa h0 n0) _ T155.heap _
    rw [e155]
    exact ⟨rfl, N155, K156, G155_0, by unfold own_ih; rw [if_pos hc2_150]; exact G155_1, by unfold own_ic; rw [if_pos hc2_150]; exact G155_2, G155_3, G155_4, by unfold own_if; rw [if_pos hc2_150]; exact G155_5, by unfold own_if; rw [if_pos hc2_150]; exact G155_6⟩
  · refine own_via (s₁.setTop (mkF m 17 #[.val (.ref p0), .val (.ref p1), .val (.int p2), .val (.int p3)] [])) (fun t k => XS.icmpYes X0.here hx rfl (pc0 := 2) (pc' := 17) rfl (hb hby d3_2) rfl (flt hc2_150).2.1 (by decide) (by decide) k) ?_
    refine own_leave X0 Bd.notSynchronized (v := none) (fun _ => rfl) (fun fs hr => X0.returnOut hx Bd.returns (hb hby d3_17) hr) ?_ (by decide) (by decide)
    show (own_Q3 Z p0 p1 p2 p3 rs hd ct f re g sa h0 n0) _ s₁.heap _
    rw [e0]
    exact ⟨rfl, N0, (Keep.refl h0 [p0, rs, re]), P6, by unfold own_ih; rw [if_neg hc2_150]; exact P1, by unfold own_ic; rw [if_neg hc2_150]; exact P2, P0, P4, by unfold own_if; rw [if_neg hc2_150]; exact P3, by unfold own_if; rw [if_neg hc2_150]; exact P5⟩
theorem own_nb {m n : Int32} (h : n = (((m.toUInt32 >>> ((1 : Int32) &&& 31).toUInt32).toInt32) % (5 : Int32))) : 0 ≤ n.toInt ∧ n.toInt ≤ 4 := by
  have a := c_iushr m (1 : Int32) 1 (by decide) (by decide)
  have r := (c_irem ((m.toUInt32 >>> ((1 : Int32) &&& 31).toUInt32).toInt32) (5 : Int32) 5 rfl).1 (by omega)
  rw [← h] at r
  omega
theorem own_cntfin {n ct : Int32} (hn : 0 ≤ n.toInt ∧ n.toInt ≤ 4) (h : ct.toInt = (if (0 : Int32) < n then 1 else 0) + (if (1 : Int32) < n then 1 else 0) + (if (2 : Int32) < n then 1 else 0) + (if (3 : Int32) < n then 1 else 0)) : own_f5 ct = n := by
  unfold own_f5
  apply Int32.toInt_inj.mp
  rw [h]
  simp only [Int32.lt_iff_toInt_lt]
  rw [show (0 : Int32).toInt = 0 from rfl, show (1 : Int32).toInt = 1 from rfl, show (2 : Int32).toInt = 2 from rfl, show (3 : Int32).toInt = 3 from rfl]
  split <;> split <;> split <;> split <;> omega
theorem own_f4v (i n x : Int32) (f : Nat → Int32) : own_f4 i n x f = if (i < n ∧ (f i.toInt.toNat).toInt ≤ x.toInt) then 1 else 0 := by
  unfold own_f4
  by_cases h : i < n
  · rw [if_pos h]
    by_cases g : x < f i.toInt.toNat
    · rw [if_pos g, if_neg (by rw [Int32.lt_iff_toInt_lt] at g; omega)]
    · rw [if_neg g, if_pos (by rw [Int32.lt_iff_toInt_lt] at g; exact ⟨h, by omega⟩)]
  · rw [if_neg h, if_neg (fun q => h q.1)]
theorem own_afin {f sa : Nat → Int32} {hd ct x n zr : Int32} (h : own_cnt f hd.toInt.toNat ct.toInt.toNat x = (if (0 : Int32) < n ∧ (sa (0 : Int32).toInt.toNat).toInt ≤ x.toInt then 1 else 0) + (if (1 : Int32) < n ∧ (sa (1 : Int32).toInt.toNat).toInt ≤ x.toInt then 1 else 0) + (if (2 : Int32) < n ∧ (sa (2 : Int32).toInt.toNat).toInt ≤ x.toInt then 1 else 0) + (if (3 : Int32) < n ∧ (sa (3 : Int32).toInt.toNat).toInt ≤ x.toInt then 1 else 0))
    (hr : zr = (((own_f4 (0 : Int32) n x sa) + (own_f4 (1 : Int32) n x sa)) + (own_f4 (2 : Int32) n x sa)) + (own_f4 (3 : Int32) n x sa)) : own_a f hd ct x = zr := by
  unfold own_a
  rw [h, hr, own_f4v, own_f4v, own_f4v, own_f4v]
  split <;> split <;> split <;> split <;> rfl
def own_Q0 (n0 : Nat) (v : Option Value) (h : Heap) (L : List Loc) : Prop := v = some (.int 1) ∧ Fr n0 L
theorem pd_3 : parseMethodDescriptor "()V" = some ⟨[], none⟩ := by decide +kernel
theorem pd_4 : parseMethodDescriptor "(Lcom/example/honeyguide/honeyguide/Spans;[III)V" = some ⟨[(.object "com/example/honeyguide/honeyguide/Spans"), (.array .int), .int, .int], none⟩ := by decide +kernel
theorem pd_5 : parseMethodDescriptor "([IIII)I" = some ⟨[(.array .int), .int, .int, .int], some .int⟩ := by decide +kernel
theorem pd_6 : parseMethodDescriptor "()I" = some ⟨[], some .int⟩ := by decide +kernel
theorem ef_0 (m : MethodId) (p0 : Int32) (p1 : Int64) (p2 : Int32) (p3 : Int32) : entryFrame m #[(.int p0), (.long p1), (.int p2), (.int p3)] maxLocals = mkF m 0 #[.val (.int p0), .val (.long p1), .second, .val (.int p2), .val (.int p3), .unset, .unset, .unset, .unset, .unset, .unset, .unset, .unset, .unset, .unset, .unset, .unset, .unset] [] := by first | (simp [entryFrame, mkF, argsToLocals, Value.category, maxLocals]; done) | rfl
set_option maxRecDepth 65536 in
set_option maxHeartbeats 40000000 in
theorem rm0 (l : Launch) (Z : State) (a0 : Array Value) (hw : ∀ d ∈ tables_1, d.before a0 Z = true) (ws : List Jvm.Cond) (p0 : Int32) (p1 : Int64) (p2 : Int32) (p3 : Int32) (h0 : Heap) (n0 : Nat) (Z0 : n0 ≤ h0.size)  :
    MetFree l x (head1 (Jvm.Cond.code x code maxLocals ret :: ws) room_1) (fun a U => a = #[(.int p0), (.long p1), (.int p2), (.int p3)] ∧ Z.Warmed39 U.vm ∧ U.heap = h0) (fun _ _ _ _ _ => True) (fun _ U o U' => ∃ v L, o = .returned v ∧ (own_Q0 n0) v U'.heap L ∧ FrameEnd U o U' L room_1.cells room_1.slots) := by
  refine MetFree.of_bodySF (plainFor_of_name pn_com_example_honeyguide_honeyguide_SpansAfterPinLaw) hisR ?_
  intro p e s m args below meth c s₁ Bd hml0 hP hK
  obtain ⟨rfl, hZ, hh⟩ := hP
  have hx := Bd.exec
  have hby := Bd.bytes
  have hml : c.maxLocals = 18 := hml0
  have hown : s.vm.findClass "com/example/honeyguide/honeyguide/SpansAfterPinLaw" = some m.cls := findClass_of_methodNamed Bd.named
  have hnm := (name_of_methodNamed Bd.named Bd.method).1
  have X0 : Stand p l e room_1 s m #[(.int p0), (.long p1), (.int p2), (.int p3)] below meth c s₁ [] 0 0 := Stand.of_body Bd
  have e0 : s₁.heap = h0 := by rw [← hh, Bd.state]; rfl
  have N0 := Fr.nil n0
  refine own_body (QQ := (own_Q0 n0)) (ef_0 m p0 p1 p2 p3) ?_
  refine own_via (s₁.setTop (mkF m 2 #[.val (.int p0), .val (.long p1), .second, .val (.int p2), .val (.int p3), .unset, .unset, .unset, .unset, .unset, .unset, .unset, .unset, .unset, .unset, .unset, .unset, .unset] [(.int p3)])) (fun t k => XS.iload X0.here hx rfl (hb hby at_0) rfl  k) ?_
  refine own_via (s₁.setTop (mkF m 3 #[.val (.int p0), .val (.long p1), .second, .val (.int p2), .val (.int p3), .unset, .unset, .unset, .unset, .unset, .unset, .unset, .unset, .unset, .unset, .unset, .unset, .unset] [(.int (1 : Int32)), (.int p3)])) (fun t k => XS.iconst X0.here hx rfl (hb hby at_2) k) ?_
  refine own_via (s₁.setTop (mkF m 4 #[.val (.int p0), .val (.long p1), .second, .val (.int p2), .val (.int p3), .unset, .unset, .unset, .unset, .unset, .unset, .unset, .unset, .unset, .unset, .unset, .unset, .unset] [(.int ((p3.toUInt32 >>> ((1 : Int32) &&& 31).toUInt32).toInt32))])) (fun t k => XS.iushr X0.here hx rfl (hb hby at_3) rfl k) ?_
  refine own_via (s₁.setTop (mkF m 5 #[.val (.int p0), .val (.long p1), .second, .val (.int p2), .val (.int p3), .unset, .unset, .unset, .unset, .unset, .unset, .unset, .unset, .unset, .unset, .unset, .unset, .unset] [(.int (5 : Int32)), (.int ((p3.toUInt32 >>> ((1 : Int32) &&& 31).toUInt32).toInt32))])) (fun t k => XS.iconst X0.here hx rfl (hb hby at_4) k) ?_
  refine own_via (s₁.setTop (mkF m 6 #[.val (.int p0), .val (.long p1), .second, .val (.int p2), .val (.int p3), .unset, .unset, .unset, .unset, .unset, .unset, .unset, .unset, .unset, .unset, .unset, .unset, .unset] [(.int (((p3.toUInt32 >>> ((1 : Int32) &&& 31).toUInt32).toInt32) % (5 : Int32)))])) (fun t k => Jvm.RoadKit.iremM X0 hx rfl (hb hby at_5) rfl (by decide) k) ?_
  obtain ⟨zn, hzn⟩ : ∃ z : Int32, z = (((p3.toUInt32 >>> ((1 : Int32) &&& 31).toUInt32).toInt32) % (5 : Int32)) := ⟨_, rfl⟩
  refine own_via (s₁.setTop (mkF m 8 #[.val (.int p0), .val (.long p1), .second, .val (.int p2), .val (.int p3), .val (.int zn), .unset, .unset, .unset, .unset, .unset, .unset, .unset, .unset, .unset, .unset, .unset, .unset] [])) (fun t k => XS.istore X0.here hx rfl (hb hby at_6) rfl (l' := #[.val (.int p0), .val (.long p1), .second, .val (.int p2), .val (.int p3), .val (.int zn), .unset, .unset, .unset, .unset, .unset, .unset, .unset, .unset, .unset, .unset, .unset, .unset]) (by rw [hzn]; rfl) k) ?_
  refine own_via (s₁.setTop (mkF m 10 #[.val (.int p0), .val (.long p1), .second, .val (.int p2), .val (.int p3), .val (.int zn), .unset, .unset, .unset, .unset, .unset, .unset, .unset, .unset, .unset, .unset, .unset, .unset] [(.int p3)])) (fun t k => XS.iload X0.here hx rfl (hb hby at_8) rfl  k) ?_
  refine own_via (s₁.setTop (mkF m 11 #[.val (.int p0), .val (.long p1), .second, .val (.int p2), .val (.int p3), .val (.int zn), .unset, .unset, .unset, .unset, .unset, .unset, .unset, .unset, .unset, .unset, .unset, .unset] [(.int (4 : Int32)), (.int p3)])) (fun t k => XS.iconst X0.here hx rfl (hb hby at_10) k) ?_
  refine own_via (s₁.setTop (mkF m 12 #[.val (.int p0), .val (.long p1), .second, .val (.int p2), .val (.int p3), .val (.int zn), .unset, .unset, .unset, .unset, .unset, .unset, .unset, .unset, .unset, .unset, .unset, .unset] [(.int ((p3.toUInt32 >>> ((4 : Int32) &&& 31).toUInt32).toInt32))])) (fun t k => XS.iushr X0.here hx rfl (hb hby at_11) rfl k) ?_
  refine own_via (s₁.setTop (mkF m 13 #[.val (.int p0), .val (.long p1), .second, .val (.int p2), .val (.int p3), .val (.int zn), .unset, .unset, .unset, .unset, .unset, .unset, .unset, .unset, .unset, .unset, .unset, .unset] [(.int (3 : Int32)), (.int ((p3.toUInt32 >>> ((4 : Int32) &&& 31).toUInt32).toInt32))])) (fun t k => XS.iconst X0.here hx rfl (hb hby at_12) k) ?_
  refine own_via (s₁.setTop (mkF m 14 #[.val (.int p0), .val (.long p1), .second, .val (.int p2), .val (.int p3), .val (.int zn), .unset, .unset, .unset, .unset, .unset, .unset, .unset, .unset, .unset, .unset, .unset, .unset] [(.int (((p3.toUInt32 >>> ((4 : Int32) &&& 31).toUInt32).toInt32) &&& (3 : Int32)))])) (fun t k => XS.iand X0.here hx rfl (hb hby at_13) rfl k) ?_
  obtain ⟨z157, hz157⟩ : ∃ z : Int32, z = (((p3.toUInt32 >>> ((4 : Int32) &&& 31).toUInt32).toInt32) &&& (3 : Int32)) := ⟨_, rfl⟩
  refine own_via (s₁.setTop (mkF m 16 #[.val (.int p0), .val (.long p1), .second, .val (.int p2), .val (.int p3), .val (.int zn), .val (.int z157), .unset, .unset, .unset, .unset, .unset, .unset, .unset, .unset, .unset, .unset, .unset] [])) (fun t k => XS.istore X0.here hx rfl (hb hby at_14) rfl (l' := #[.val (.int p0), .val (.long p1), .second, .val (.int p2), .val (.int p3), .val (.int zn), .val (.int z157), .unset, .unset, .unset, .unset, .unset, .unset, .unset, .unset, .unset, .unset, .unset]) (by rw [hz157]; rfl) k) ?_
  refine own_via (s₁.setTop (mkF m 17 #[.val (.int p0), .val (.long p1), .second, .val (.int p2), .val (.int p3), .val (.int zn), .val (.int z157), .unset, .unset, .unset, .unset, .unset, .unset, .unset, .unset, .unset, .unset, .unset] [(.int p0)])) (fun t k => XS.iloadN X0.here hx rfl (hb hby at_16) rfl  k) ?_
  refine own_via (s₁.setTop (mkF m 18 #[.val (.int p0), .val (.long p1), .second, .val (.int p2), .val (.int p3), .val (.int zn), .val (.int z157), .unset, .unset, .unset, .unset, .unset, .unset, .unset, .unset, .unset, .unset, .unset] [(.long (p0.toInt64))])) (fun t k => XS.i2l X0.here hx rfl (hb hby at_17) rfl k) ?_
  refine own_via (s₁.setTop (mkF m 21 #[.val (.int p0), .val (.long p1), .second, .val (.int p2), .val (.int p3), .val (.int zn), .val (.int z157), .unset, .unset, .unset, .unset, .unset, .unset, .unset, .unset, .unset, .unset, .unset] [(.long (65536 : Int64)), (.long (p0.toInt64))])) (fun t k => X0.ldc2Long hx hown (mvT hZ (hw _ (List.mem_of_getElem? (i := 0) rfl))) (g := (mkF m 18 #[.val (.int p0), .val (.long p1), .second, .val (.int p2), .val (.int p3), .val (.int zn), .val (.int z157), .unset, .unset, .unset, .unset, .unset, .unset, .unset, .unset, .unset, .unset, .unset] [(.long (p0.toInt64))])) rfl (hb hby at_18) _ k) ?_
  refine own_via (s₁.setTop (mkF m 22 #[.val (.int p0), .val (.long p1), .second, .val (.int p2), .val (.int p3), .val (.int zn), .val (.int z157), .unset, .unset, .unset, .unset, .unset, .unset, .unset, .unset, .unset, .unset, .unset] [(.long ((p0.toInt64) + (65536 : Int64)))])) (fun t k => XS.ladd X0.here hx rfl (hb hby at_21) rfl k) ?_
  refine own_via (s₁.setTop (mkF m 25 #[.val (.int p0), .val (.long p1), .second, .val (.int p2), .val (.int p3), .val (.int zn), .val (.int z157), .unset, .unset, .unset, .unset, .unset, .unset, .unset, .unset, .unset, .unset, .unset] [(.long (2147483647 : Int64)), (.long ((p0.toInt64) + (65536 : Int64)))])) (fun t k => X0.ldc2Long hx hown (mvT hZ (hw _ (List.mem_of_getElem? (i := 1) rfl))) (g := (mkF m 22 #[.val (.int p0), .val (.long p1), .second, .val (.int p2), .val (.int p3), .val (.int zn), .val (.int z157), .unset, .unset, .unset, .unset, .unset, .unset, .unset, .unset, .unset, .unset, .unset] [(.long ((p0.toInt64) + (65536 : Int64)))])) rfl (hb hby at_22) _ k) ?_
  refine own_via (s₁.setTop (mkF m 26 #[.val (.int p0), .val (.long p1), .second, .val (.int p2), .val (.int p3), .val (.int zn), .val (.int z157), .unset, .unset, .unset, .unset, .unset, .unset, .unset, .unset, .unset, .unset, .unset] [(.int (lcmpW ((p0.toInt64) + (65536 : Int64)) (2147483647 : Int64)))])) (fun t k => XS.lcmp X0.here hx rfl (hb hby at_25) rfl k) ?_
  obtain ⟨z158, hz158⟩ : ∃ z : Int32, z = (if (2147483647 : Int64) < ((p0.toInt64) + (65536 : Int64)) then (p0 - (65536 : Int32)) else p0) := ⟨_, rfl⟩
  refine own_via (s₁.setTop (mkF m 37 #[.val (.int p0), .val (.long p1), .second, .val (.int p2), .val (.int p3), .val (.int zn), .val (.int z157), .unset, .unset, .unset, .unset, .unset, .unset, .unset, .unset, .unset, .unset, .unset] [(.int z158)])) (fun t k => ?_) ?_
  · skip
    by_cases hj26_159 : (2147483647 : Int64) < ((p0.toInt64) + (65536 : Int64))
    · refine XS.ifNo X0.here hx rfl (hb hby at_26) rfl ((if0 _ _).trans (tlt ((lw_gt ((p0.toInt64) + (65536 : Int64)) (2147483647 : Int64)).mpr hj26_159)).2.2.2) (?_ : Steps p.tables e below (s₁.setTop (mkF m 29 #[.val (.int p0), .val (.long p1), .second, .val (.int p2), .val (.int p3), .val (.int zn), .val (.int z157), .unset, .unset, .unset, .unset, .unset, .unset, .unset, .unset, .unset, .unset, .unset] [])) t)
      refine XS.iloadN X0.here hx rfl (hb hby at_29) rfl  (?_ : Steps p.tables e below (s₁.setTop (mkF m 30 #[.val (.int p0), .val (.long p1), .second, .val (.int p2), .val (.int p3), .val (.int zn), .val (.int z157), .unset, .unset, .unset, .unset, .unset, .unset, .unset, .unset, .unset, .unset, .unset] [(.int p0)])) t)
      refine X0.ldcInt hx hown (mvT hZ (hw _ (List.mem_of_getElem? (i := 23) rfl))) (g := (mkF m 30 #[.val (.int p0), .val (.long p1), .second, .val (.int p2), .val (.int p3), .val (.int zn), .val (.int z157), .unset, .unset, .unset, .unset, .unset, .unset, .unset, .unset, .unset, .unset, .unset] [(.int p0)])) rfl (hb hby at_30) _ (?_ : Steps p.tables e below (s₁.setTop (mkF m 32 #[.val (.int p0), .val (.long p1), .second, .val (.int p2), .val (.int p3), .val (.int zn), .val (.int z157), .unset, .unset, .unset, .unset, .unset, .unset, .unset, .unset, .unset, .unset, .unset] [(.int (65536 : Int32)), (.int p0)])) t)
      refine XS.isub X0.here hx rfl (hb hby at_32) rfl (?_ : Steps p.tables e below (s₁.setTop (mkF m 33 #[.val (.int p0), .val (.long p1), .second, .val (.int p2), .val (.int p3), .val (.int zn), .val (.int z157), .unset, .unset, .unset, .unset, .unset, .unset, .unset, .unset, .unset, .unset, .unset] [(.int (p0 - (65536 : Int32)))])) t)
      refine XS.goto X0.here hx rfl (pc0 := 33) (pc' := 37) rfl (hb hby at_33) (by decide) (by decide) (?_ : Steps p.tables e below (s₁.setTop (mkF m 37 #[.val (.int p0), .val (.long p1), .second, .val (.int p2), .val (.int p3), .val (.int zn), .val (.int z157), .unset, .unset, .unset, .unset, .unset, .unset, .unset, .unset, .unset, .unset, .unset] [(.int (p0 - (65536 : Int32)))])) t)
      have q_z158 := (hz158.trans (if_pos hj26_159))
      subst q_z158
      exact k
    · refine XS.ifYes X0.here hx rfl (pc0 := 26) (pc' := 36) rfl (hb hby at_26) rfl ((if0 _ _).trans (flt (fun q => hj26_159 ((lw_gt ((p0.toInt64) + (65536 : Int64)) (2147483647 : Int64)).mp q))).2.2.2) (by decide) (by decide) (?_ : Steps p.tables e below (s₁.setTop (mkF m 36 #[.val (.int p0), .val (.long p1), .second, .val (.int p2), .val (.int p3), .val (.int zn), .val (.int z157), .unset, .unset, .unset, .unset, .unset, .unset, .unset, .unset, .unset, .unset, .unset] [])) t)
      refine XS.iloadN X0.here hx rfl (hb hby at_36) rfl  (?_ : Steps p.tables e below (s₁.setTop (mkF m 37 #[.val (.int p0), .val (.long p1), .second, .val (.int p2), .val (.int p3), .val (.int zn), .val (.int z157), .unset, .unset, .unset, .unset, .unset, .unset, .unset, .unset, .unset, .unset, .unset] [(.int p0)])) t)
      have q_z158 := (hz158.trans (if_neg hj26_159))
      subst q_z158
      exact k
  refine own_via (s₁.setTop (mkF m 39 #[.val (.int p0), .val (.long p1), .second, .val (.int p2), .val (.int p3), .val (.int zn), .val (.int z157), .val (.int z158), .unset, .unset, .unset, .unset, .unset, .unset, .unset, .unset, .unset, .unset] [])) (fun t k => XS.istore X0.here hx rfl (hb hby at_37) rfl (l' := #[.val (.int p0), .val (.long p1), .second, .val (.int p2), .val (.int p3), .val (.int zn), .val (.int z157), .val (.int z158), .unset, .unset, .unset, .unset, .unset, .unset, .unset, .unset, .unset, .unset]) rfl k) ?_
  refine own_via (s₁.setTop (mkF m 40 #[.val (.int p0), .val (.long p1), .second, .val (.int p2), .val (.int p3), .val (.int zn), .val (.int z157), .val (.int z158), .unset, .unset, .unset, .unset, .unset, .unset, .unset, .unset, .unset, .unset] [(.int (1 : Int32))])) (fun t k => XS.iconst X0.here hx rfl (hb hby at_39) k) ?_
  refine own_via (s₁.setTop (mkF m 41 #[.val (.int p0), .val (.long p1), .second, .val (.int p2), .val (.int p3), .val (.int zn), .val (.int z157), .val (.int z158), .unset, .unset, .unset, .unset, .unset, .unset, .unset, .unset, .unset, .unset] [(.long p1), (.int (1 : Int32))])) (fun t k => XS.lloadN X0.here hx rfl (hb hby at_40) rfl  k) ?_
  refine own_via (s₁.setTop (mkF m 44 #[.val (.int p0), .val (.long p1), .second, .val (.int p2), .val (.int p3), .val (.int zn), .val (.int z157), .val (.int z158), .unset, .unset, .unset, .unset, .unset, .unset, .unset, .unset, .unset, .unset] [(.long (16383 : Int64)), (.long p1), (.int (1 : Int32))])) (fun t k => X0.ldc2Long hx hown (mvT hZ (hw _ (List.mem_of_getElem? (i := 2) rfl))) (g := (mkF m 41 #[.val (.int p0), .val (.long p1), .second, .val (.int p2), .val (.int p3), .val (.int zn), .val (.int z157), .val (.int z158), .unset, .unset, .unset, .unset, .unset, .unset, .unset, .unset, .unset, .unset] [(.long p1), (.int (1 : Int32))])) rfl (hb hby at_41) _ k) ?_
  refine own_via (s₁.setTop (mkF m 45 #[.val (.int p0), .val (.long p1), .second, .val (.int p2), .val (.int p3), .val (.int zn), .val (.int z157), .val (.int z158), .unset, .unset, .unset, .unset, .unset, .unset, .unset, .unset, .unset, .unset] [(.long (p1 &&& (16383 : Int64))), (.int (1 : Int32))])) (fun t k => XS.land X0.here hx rfl (hb hby at_44) rfl k) ?_
  refine own_via (s₁.setTop (mkF m 46 #[.val (.int p0), .val (.long p1), .second, .val (.int p2), .val (.int p3), .val (.int zn), .val (.int z157), .val (.int z158), .unset, .unset, .unset, .unset, .unset, .unset, .unset, .unset, .unset, .unset] [(.int ((p1 &&& (16383 : Int64)).toInt32)), (.int (1 : Int32))])) (fun t k => XS.l2i X0.here hx rfl (hb hby at_45) rfl k) ?_
  refine own_via (s₁.setTop (mkF m 47 #[.val (.int p0), .val (.long p1), .second, .val (.int p2), .val (.int p3), .val (.int zn), .val (.int z157), .val (.int z158), .unset, .unset, .unset, .unset, .unset, .unset, .unset, .unset, .unset, .unset] [(.int ((1 : Int32) + ((p1 &&& (16383 : Int64)).toInt32)))])) (fun t k => XS.iadd X0.here hx rfl (hb hby at_46) rfl k) ?_
  obtain ⟨z160, hz160⟩ : ∃ z : Int32, z = ((1 : Int32) + ((p1 &&& (16383 : Int64)).toInt32)) := ⟨_, rfl⟩
  refine own_via (s₁.setTop (mkF m 49 #[.val (.int p0), .val (.long p1), .second, .val (.int p2), .val (.int p3), .val (.int zn), .val (.int z157), .val (.int z158), .val (.int z160), .unset, .unset, .unset, .unset, .unset, .unset, .unset, .unset, .unset] [])) (fun t k => XS.istore X0.here hx rfl (hb hby at_47) rfl (l' := #[.val (.int p0), .val (.long p1), .second, .val (.int p2), .val (.int p3), .val (.int zn), .val (.int z157), .val (.int z158), .val (.int z160), .unset, .unset, .unset, .unset, .unset, .unset, .unset, .unset, .unset]) (by rw [hz160]; rfl) k) ?_
  refine own_via (s₁.setTop (mkF m 50 #[.val (.int p0), .val (.long p1), .second, .val (.int p2), .val (.int p3), .val (.int zn), .val (.int z157), .val (.int z158), .val (.int z160), .unset, .unset, .unset, .unset, .unset, .unset, .unset, .unset, .unset] [(.int (1 : Int32))])) (fun t k => XS.iconst X0.here hx rfl (hb hby at_49) k) ?_
  refine own_via (s₁.setTop (mkF m 51 #[.val (.int p0), .val (.long p1), .second, .val (.int p2), .val (.int p3), .val (.int zn), .val (.int z157), .val (.int z158), .val (.int z160), .unset, .unset, .unset, .unset, .unset, .unset, .unset, .unset, .unset] [(.long p1), (.int (1 : Int32))])) (fun t k => XS.lloadN X0.here hx rfl (hb hby at_50) rfl  k) ?_
  refine own_via (s₁.setTop (mkF m 53 #[.val (.int p0), .val (.long p1), .second, .val (.int p2), .val (.int p3), .val (.int zn), .val (.int z157), .val (.int z158), .val (.int z160), .unset, .unset, .unset, .unset, .unset, .unset, .unset, .unset, .unset] [(.int (16 : Int32)), (.long p1), (.int (1 : Int32))])) (fun t k => XS.bipush X0.here hx rfl (hb hby at_51) k) ?_
  refine own_via (s₁.setTop (mkF m 54 #[.val (.int p0), .val (.long p1), .second, .val (.int p2), .val (.int p3), .val (.int zn), .val (.int z157), .val (.int z158), .val (.int z160), .unset, .unset, .unset, .unset, .unset, .unset, .unset, .unset, .unset] [(.long ((p1.toUInt64 >>> ((16 : Int32) &&& 0x3f).toInt64.toUInt64).toInt64)), (.int (1 : Int32))])) (fun t k => XS.lushr X0.here hx rfl (hb hby at_53) rfl k) ?_
  refine own_via (s₁.setTop (mkF m 57 #[.val (.int p0), .val (.long p1), .second, .val (.int p2), .val (.int p3), .val (.int zn), .val (.int z157), .val (.int z158), .val (.int z160), .unset, .unset, .unset, .unset, .unset, .unset, .unset, .unset, .unset] [(.long (16383 : Int64)), (.long ((p1.toUInt64 >>> ((16 : Int32) &&& 0x3f).toInt64.toUInt64).toInt64)), (.int (1 : Int32))])) (fun t k => X0.ldc2Long hx hown (mvT hZ (hw _ (List.mem_of_getElem? (i := 2) rfl))) (g := (mkF m 54 #[.val (.int p0), .val (.long p1), .second, .val (.int p2), .val (.int p3), .val (.int zn), .val (.int z157), .val (.int z158), .val (.int z160), .unset, .unset, .unset, .unset, .unset, .unset, .unset, .unset, .unset] [(.long ((p1.toUInt64 >>> ((16 : Int32) &&& 0x3f).toInt64.toUInt64).toInt64)), (.int (1 : Int32))])) rfl (hb hby at_54) _ k) ?_
  refine own_via (s₁.setTop (mkF m 58 #[.val (.int p0), .val (.long p1), .second, .val (.int p2), .val (.int p3), .val (.int zn), .val (.int z157), .val (.int z158), .val (.int z160), .unset, .unset, .unset, .unset, .unset, .unset, .unset, .unset, .unset] [(.long (((p1.toUInt64 >>> ((16 : Int32) &&& 0x3f).toInt64.toUInt64).toInt64) &&& (16383 : Int64))), (.int (1 : Int32))])) (fun t k => XS.land X0.here hx rfl (hb hby at_57) rfl k) ?_
  refine own_via (s₁.setTop (mkF m 59 #[.val (.int p0), .val (.long p1), .second, .val (.int p2), .val (.int p3), .val (.int zn), .val (.int z157), .val (.int z158), .val (.int z160), .unset, .unset, .unset, .unset, .unset, .unset, .unset, .unset, .unset] [(.int ((((p1.toUInt64 >>> ((16 : Int32) &&& 0x3f).toInt64.toUInt64).toInt64) &&& (16383 : Int64)).toInt32)), (.int (1 : Int32))])) (fun t k => XS.l2i X0.here hx rfl (hb hby at_58) rfl k) ?_
  refine own_via (s₁.setTop (mkF m 60 #[.val (.int p0), .val (.long p1), .second, .val (.int p2), .val (.int p3), .val (.int zn), .val (.int z157), .val (.int z158), .val (.int z160), .unset, .unset, .unset, .unset, .unset, .unset, .unset, .unset, .unset] [(.int ((1 : Int32) + ((((p1.toUInt64 >>> ((16 : Int32) &&& 0x3f).toInt64.toUInt64).toInt64) &&& (16383 : Int64)).toInt32)))])) (fun t k => XS.iadd X0.here hx rfl (hb hby at_59) rfl k) ?_
  obtain ⟨z161, hz161⟩ : ∃ z : Int32, z = ((1 : Int32) + ((((p1.toUInt64 >>> ((16 : Int32) &&& 0x3f).toInt64.toUInt64).toInt64) &&& (16383 : Int64)).toInt32)) := ⟨_, rfl⟩
  refine own_via (s₁.setTop (mkF m 62 #[.val (.int p0), .val (.long p1), .second, .val (.int p2), .val (.int p3), .val (.int zn), .val (.int z157), .val (.int z158), .val (.int z160), .val (.int z161), .unset, .unset, .unset, .unset, .unset, .unset, .unset, .unset] [])) (fun t k => XS.istore X0.here hx rfl (hb hby at_60) rfl (l' := #[.val (.int p0), .val (.long p1), .second, .val (.int p2), .val (.int p3), .val (.int zn), .val (.int z157), .val (.int z158), .val (.int z160), .val (.int z161), .unset, .unset, .unset, .unset, .unset, .unset, .unset, .unset]) (by rw [hz161]; rfl) k) ?_
  refine own_via (s₁.setTop (mkF m 63 #[.val (.int p0), .val (.long p1), .second, .val (.int p2), .val (.int p3), .val (.int zn), .val (.int z157), .val (.int z158), .val (.int z160), .val (.int z161), .unset, .unset, .unset, .unset, .unset, .unset, .unset, .unset] [(.int (1 : Int32))])) (fun t k => XS.iconst X0.here hx rfl (hb hby at_62) k) ?_
  refine own_via (s₁.setTop (mkF m 64 #[.val (.int p0), .val (.long p1), .second, .val (.int p2), .val (.int p3), .val (.int zn), .val (.int z157), .val (.int z158), .val (.int z160), .val (.int z161), .unset, .unset, .unset, .unset, .unset, .unset, .unset, .unset] [(.long p1), (.int (1 : Int32))])) (fun t k => XS.lloadN X0.here hx rfl (hb hby at_63) rfl  k) ?_
  refine own_via (s₁.setTop (mkF m 66 #[.val (.int p0), .val (.long p1), .second, .val (.int p2), .val (.int p3), .val (.int zn), .val (.int z157), .val (.int z158), .val (.int z160), .val (.int z161), .unset, .unset, .unset, .unset, .unset, .unset, .unset, .unset] [(.int (32 : Int32)), (.long p1), (.int (1 : Int32))])) (fun t k => XS.bipush X0.here hx rfl (hb hby at_64) k) ?_
  refine own_via (s₁.setTop (mkF m 67 #[.val (.int p0), .val (.long p1), .second, .val (.int p2), .val (.int p3), .val (.int zn), .val (.int z157), .val (.int z158), .val (.int z160), .val (.int z161), .unset, .unset, .unset, .unset, .unset, .unset, .unset, .unset] [(.long ((p1.toUInt64 >>> ((32 : Int32) &&& 0x3f).toInt64.toUInt64).toInt64)), (.int (1 : Int32))])) (fun t k => XS.lushr X0.here hx rfl (hb hby at_66) rfl k) ?_
  refine own_via (s₁.setTop (mkF m 70 #[.val (.int p0), .val (.long p1), .second, .val (.int p2), .val (.int p3), .val (.int zn), .val (.int z157), .val (.int z158), .val (.int z160), .val (.int z161), .unset, .unset, .unset, .unset, .unset, .unset, .unset, .unset] [(.long (16383 : Int64)), (.long ((p1.toUInt64 >>> ((32 : Int32) &&& 0x3f).toInt64.toUInt64).toInt64)), (.int (1 : Int32))])) (fun t k => X0.ldc2Long hx hown (mvT hZ (hw _ (List.mem_of_getElem? (i := 2) rfl))) (g := (mkF m 67 #[.val (.int p0), .val (.long p1), .second, .val (.int p2), .val (.int p3), .val (.int zn), .val (.int z157), .val (.int z158), .val (.int z160), .val (.int z161), .unset, .unset, .unset, .unset, .unset, .unset, .unset, .unset] [(.long ((p1.toUInt64 >>> ((32 : Int32) &&& 0x3f).toInt64.toUInt64).toInt64)), (.int (1 : Int32))])) rfl (hb hby at_67) _ k) ?_
  refine own_via (s₁.setTop (mkF m 71 #[.val (.int p0), .val (.long p1), .second, .val (.int p2), .val (.int p3), .val (.int zn), .val (.int z157), .val (.int z158), .val (.int z160), .val (.int z161), .unset, .unset, .unset, .unset, .unset, .unset, .unset, .unset] [(.long (((p1.toUInt64 >>> ((32 : Int32) &&& 0x3f).toInt64.toUInt64).toInt64) &&& (16383 : Int64))), (.int (1 : Int32))])) (fun t k => XS.land X0.here hx rfl (hb hby at_70) rfl k) ?_
  refine own_via (s₁.setTop (mkF m 72 #[.val (.int p0), .val (.long p1), .second, .val (.int p2), .val (.int p3), .val (.int zn), .val (.int z157), .val (.int z158), .val (.int z160), .val (.int z161), .unset, .unset, .unset, .unset, .unset, .unset, .unset, .unset] [(.int ((((p1.toUInt64 >>> ((32 : Int32) &&& 0x3f).toInt64.toUInt64).toInt64) &&& (16383 : Int64)).toInt32)), (.int (1 : Int32))])) (fun t k => XS.l2i X0.here hx rfl (hb hby at_71) rfl k) ?_
  refine own_via (s₁.setTop (mkF m 73 #[.val (.int p0), .val (.long p1), .second, .val (.int p2), .val (.int p3), .val (.int zn), .val (.int z157), .val (.int z158), .val (.int z160), .val (.int z161), .unset, .unset, .unset, .unset, .unset, .unset, .unset, .unset] [(.int ((1 : Int32) + ((((p1.toUInt64 >>> ((32 : Int32) &&& 0x3f).toInt64.toUInt64).toInt64) &&& (16383 : Int64)).toInt32)))])) (fun t k => XS.iadd X0.here hx rfl (hb hby at_72) rfl k) ?_
  obtain ⟨z162, hz162⟩ : ∃ z : Int32, z = ((1 : Int32) + ((((p1.toUInt64 >>> ((32 : Int32) &&& 0x3f).toInt64.toUInt64).toInt64) &&& (16383 : Int64)).toInt32)) := ⟨_, rfl⟩
  refine own_via (s₁.setTop (mkF m 75 #[.val (.int p0), .val (.long p1), .second, .val (.int p2), .val (.int p3), .val (.int zn), .val (.int z157), .val (.int z158), .val (.int z160), .val (.int z161), .val (.int z162), .unset, .unset, .unset, .unset, .unset, .unset, .unset] [])) (fun t k => XS.istore X0.here hx rfl (hb hby at_73) rfl (l' := #[.val (.int p0), .val (.long p1), .second, .val (.int p2), .val (.int p3), .val (.int zn), .val (.int z157), .val (.int z158), .val (.int z160), .val (.int z161), .val (.int z162), .unset, .unset, .unset, .unset, .unset, .unset, .unset]) (by rw [hz162]; rfl) k) ?_
  refine own_via (s₁.setTop (mkF m 76 #[.val (.int p0), .val (.long p1), .second, .val (.int p2), .val (.int p3), .val (.int zn), .val (.int z157), .val (.int z158), .val (.int z160), .val (.int z161), .val (.int z162), .unset, .unset, .unset, .unset, .unset, .unset, .unset] [(.int (4 : Int32))])) (fun t k => XS.iconst X0.here hx rfl (hb hby at_75) k) ?_
  obtain ⟨T163, h163, k163, X163, e163, E163, A163, st163⟩ := newP X0 hx hZ (hw _ (List.mem_of_getElem? (i := 3) rfl)) e0 (g := (mkF m 76 #[.val (.int p0), .val (.long p1), .second, .val (.int p2), .val (.int p3), .val (.int zn), .val (.int z157), .val (.int z158), .val (.int z160), .val (.int z161), .val (.int z162), .unset, .unset, .unset, .unset, .unset, .unset, .unset] [(.int (4 : Int32))])) rfl (hb hby at_76) rfl (by decide) (cap := 4) (by decide) (by decide) (by decide) (by decide)
  obtain ⟨b163, g163⟩ : ∃ z, z = h0.size := ⟨_, rfl⟩
  rw [← g163] at A163 st163
  have gg_b163 : n0 ≤ b163 := Nat.le_trans (Nat.le_trans Z0 (Keep.refl h0 []).1) (Nat.le_of_eq g163.symm)
  have sz_b163 : h0.size ≤ b163 := Nat.le_trans (Keep.refl h0 []).1 (Nat.le_of_eq g163.symm)
  have V163 : Arv Z h163 b163 k163 .int (4 : Int32) [(.int (0 : Int32)), (.int (0 : Int32)), (.int (0 : Int32)), (.int (0 : Int32))] (.int (0 : Int32)) := (Arv.new A163 (by decide)).pad (pad_rep [] (.int (0 : Int32)) 4)
  have K164 : Keep h0 h163 [] := (Keep.refl h0 []).ext E163
  have U163 : own_A Z h163 b163 .int 4 (fun _ => (0 : Int32)) := own_A.of (f := fun _ => (0 : Int32)) V163 (fun i hi => by rcases i with _ | _ | _ | _ | _ | _ | _ | _ | _ <;> first | rfl | simp)
  refine own_via (T163.setTop (mkF m 78 #[.val (.int p0), .val (.long p1), .second, .val (.int p2), .val (.int p3), .val (.int zn), .val (.int z157), .val (.int z158), .val (.int z160), .val (.int z161), .val (.int z162), .unset, .unset, .unset, .unset, .unset, .unset, .unset] [(.ref b163)])) (fun t k => st163 t k) ?_
  refine own_via (T163.setTop (mkF m 80 #[.val (.int p0), .val (.long p1), .second, .val (.int p2), .val (.int p3), .val (.int zn), .val (.int z157), .val (.int z158), .val (.int z160), .val (.int z161), .val (.int z162), .val (.ref b163), .unset, .unset, .unset, .unset, .unset, .unset] [])) (fun t k => XS.astore X163.here hx rfl (hb hby at_78) rfl rfl (l' := #[.val (.int p0), .val (.long p1), .second, .val (.int p2), .val (.int p3), .val (.int zn), .val (.int z157), .val (.int z158), .val (.int z160), .val (.int z161), .val (.int z162), .val (.ref b163), .unset, .unset, .unset, .unset, .unset, .unset]) rfl k) ?_
  refine own_via (T163.setTop (mkF m 82 #[.val (.int p0), .val (.long p1), .second, .val (.int p2), .val (.int p3), .val (.int zn), .val (.int z157), .val (.int z158), .val (.int z160), .val (.int z161), .val (.int z162), .val (.ref b163), .unset, .unset, .unset, .unset, .unset, .unset] [(.ref b163)])) (fun t k => XS.aload X163.here hx rfl (hb hby at_80) rfl rfl k) ?_
  refine own_via (T163.setTop (mkF m 83 #[.val (.int p0), .val (.long p1), .second, .val (.int p2), .val (.int p3), .val (.int zn), .val (.int z157), .val (.int z158), .val (.int z160), .val (.int z161), .val (.int z162), .val (.ref b163), .unset, .unset, .unset, .unset, .unset, .unset] [(.int (0 : Int32)), (.ref b163)])) (fun t k => XS.iconst X163.here hx rfl (hb hby at_82) k) ?_
  refine own_via (T163.setTop (mkF m 85 #[.val (.int p0), .val (.long p1), .second, .val (.int p2), .val (.int p3), .val (.int zn), .val (.int z157), .val (.int z158), .val (.int z160), .val (.int z161), .val (.int z162), .val (.ref b163), .unset, .unset, .unset, .unset, .unset, .unset] [(.int z158), (.int (0 : Int32)), (.ref b163)])) (fun t k => XS.iload X163.here hx rfl (hb hby at_83) rfl  k) ?_
  obtain ⟨cl166, Ar166, S166, H166⟩ := id U163
  obtain ⟨T165, h165, X165, e165, W165, st165⟩ := stI X163 hx hZ e163 Ar166 (j := (0 : Int32)) (own_in S166 (by decide)) (g := (mkF m 85 #[.val (.int p0), .val (.long p1), .second, .val (.int p2), .val (.int p3), .val (.int zn), .val (.int z157), .val (.int z158), .val (.int z160), .val (.int z161), .val (.int z162), .val (.ref b163), .unset, .unset, .unset, .unset, .unset, .unset] [(.int z158), (.int (0 : Int32)), (.ref b163)])) rfl rfl (hb hby at_85)
  have V165 : own_A Z h165 b163 .int 4 (own_up (fun _ => (0 : Int32)) 0 z158) := own_A.set U163 W165
  obtain ⟨f165, hf165⟩ : ∃ g : Nat → Int32, g = (own_up (fun _ => (0 : Int32)) 0 z158) := ⟨_, rfl⟩
  rw [← hf165] at V165
  have N165 := Fr.snoc X165 N0 gg_b163
  have K167 : Keep h0 h165 [] := K164.wr W165 (Or.inr sz_b163)
  refine own_via (T165.setTop (mkF m 86 #[.val (.int p0), .val (.long p1), .second, .val (.int p2), .val (.int p3), .val (.int zn), .val (.int z157), .val (.int z158), .val (.int z160), .val (.int z161), .val (.int z162), .val (.ref b163), .unset, .unset, .unset, .unset, .unset, .unset] [])) (fun t k => st165 t k) ?_
  refine own_via (T165.setTop (mkF m 88 #[.val (.int p0), .val (.long p1), .second, .val (.int p2), .val (.int p3), .val (.int zn), .val (.int z157), .val (.int z158), .val (.int z160), .val (.int z161), .val (.int z162), .val (.ref b163), .unset, .unset, .unset, .unset, .unset, .unset] [(.ref b163)])) (fun t k => XS.aload X165.here hx rfl (hb hby at_86) rfl rfl k) ?_
  refine own_via (T165.setTop (mkF m 89 #[.val (.int p0), .val (.long p1), .second, .val (.int p2), .val (.int p3), .val (.int zn), .val (.int z157), .val (.int z158), .val (.int z160), .val (.int z161), .val (.int z162), .val (.ref b163), .unset, .unset, .unset, .unset, .unset, .unset] [(.int (1 : Int32)), (.ref b163)])) (fun t k => XS.iconst X165.here hx rfl (hb hby at_88) k) ?_
  refine own_via (T165.setTop (mkF m 91 #[.val (.int p0), .val (.long p1), .second, .val (.int p2), .val (.int p3), .val (.int zn), .val (.int z157), .val (.int z158), .val (.int z160), .val (.int z161), .val (.int z162), .val (.ref b163), .unset, .unset, .unset, .unset, .unset, .unset] [(.ref b163), (.int (1 : Int32)), (.ref b163)])) (fun t k => XS.aload X165.here hx rfl (hb hby at_89) rfl rfl k) ?_
  refine own_via (T165.setTop (mkF m 92 #[.val (.int p0), .val (.long p1), .second, .val (.int p2), .val (.int p3), .val (.int zn), .val (.int z157), .val (.int z158), .val (.int z160), .val (.int z161), .val (.int z162), .val (.ref b163), .unset, .unset, .unset, .unset, .unset, .unset] [(.int (0 : Int32)), (.ref b163), (.int (1 : Int32)), (.ref b163)])) (fun t k => XS.iconst X165.here hx rfl (hb hby at_91) k) ?_
  obtain ⟨cl169, Ar169, S169, H169⟩ := id V165
  refine own_via (T165.setTop (mkF m 93 #[.val (.int p0), .val (.long p1), .second, .val (.int p2), .val (.int p3), .val (.int zn), .val (.int z157), .val (.int z158), .val (.int z160), .val (.int z161), .val (.int z162), .val (.ref b163), .unset, .unset, .unset, .unset, .unset, .unset] [(.int (f165 0)), (.int (1 : Int32)), (.ref b163)])) (fun t k => X165.iaload hx (j := (0 : Int32)) (v := (.int (f165 0))) (by rw [e165]; exact Ar169.1) (State.isArrayOf_alike hZ.alike Ar169.2.1) Ar169.2.2 (own_in S169 (by decide)) (own_at H169 (by decide)) (g := (mkF m 92 #[.val (.int p0), .val (.long p1), .second, .val (.int p2), .val (.int p3), .val (.int zn), .val (.int z157), .val (.int z158), .val (.int z160), .val (.int z161), .val (.int z162), .val (.ref b163), .unset, .unset, .unset, .unset, .unset, .unset] [(.int (0 : Int32)), (.ref b163), (.int (1 : Int32)), (.ref b163)])) rfl rfl (hb hby at_92) _ k) ?_
  refine own_via (T165.setTop (mkF m 95 #[.val (.int p0), .val (.long p1), .second, .val (.int p2), .val (.int p3), .val (.int zn), .val (.int z157), .val (.int z158), .val (.int z160), .val (.int z161), .val (.int z162), .val (.ref b163), .unset, .unset, .unset, .unset, .unset, .unset] [(.int z160), (.int (f165 0)), (.int (1 : Int32)), (.ref b163)])) (fun t k => XS.iload X165.here hx rfl (hb hby at_93) rfl  k) ?_
  refine own_via (T165.setTop (mkF m 96 #[.val (.int p0), .val (.long p1), .second, .val (.int p2), .val (.int p3), .val (.int zn), .val (.int z157), .val (.int z158), .val (.int z160), .val (.int z161), .val (.int z162), .val (.ref b163), .unset, .unset, .unset, .unset, .unset, .unset] [(.int ((f165 0) + z160)), (.int (1 : Int32)), (.ref b163)])) (fun t k => XS.iadd X165.here hx rfl (hb hby at_95) rfl k) ?_
  obtain ⟨cl171, Ar171, S171, H171⟩ := id V165
  obtain ⟨T170, h170, X170, e170, W170, st170⟩ := stI X165 hx hZ e165 Ar171 (j := (1 : Int32)) (own_in S171 (by decide)) (g := (mkF m 96 #[.val (.int p0), .val (.long p1), .second, .val (.int p2), .val (.int p3), .val (.int zn), .val (.int z157), .val (.int z158), .val (.int z160), .val (.int z161), .val (.int z162), .val (.ref b163), .unset, .unset, .unset, .unset, .unset, .unset] [(.int ((f165 0) + z160)), (.int (1 : Int32)), (.ref b163)])) rfl rfl (hb hby at_96)
  have V170 : own_A Z h170 b163 .int 4 (own_up f165 1 ((f165 0) + z160)) := own_A.set V165 W170
  obtain ⟨f170, hf170⟩ : ∃ g : Nat → Int32, g = (own_up f165 1 ((f165 0) + z160)) := ⟨_, rfl⟩
  rw [← hf170] at V170
  have N170 := Fr.snoc X170 N165 gg_b163
  have K172 : Keep h0 h170 [] := K167.wr W170 (Or.inr sz_b163)
  refine own_via (T170.setTop (mkF m 97 #[.val (.int p0), .val (.long p1), .second, .val (.int p2), .val (.int p3), .val (.int zn), .val (.int z157), .val (.int z158), .val (.int z160), .val (.int z161), .val (.int z162), .val (.ref b163), .unset, .unset, .unset, .unset, .unset, .unset] [])) (fun t k => st170 t k) ?_
  refine own_via (T170.setTop (mkF m 99 #[.val (.int p0), .val (.long p1), .second, .val (.int p2), .val (.int p3), .val (.int zn), .val (.int z157), .val (.int z158), .val (.int z160), .val (.int z161), .val (.int z162), .val (.ref b163), .unset, .unset, .unset, .unset, .unset, .unset] [(.ref b163)])) (fun t k => XS.aload X170.here hx rfl (hb hby at_97) rfl rfl k) ?_
  refine own_via (T170.setTop (mkF m 100 #[.val (.int p0), .val (.long p1), .second, .val (.int p2), .val (.int p3), .val (.int zn), .val (.int z157), .val (.int z158), .val (.int z160), .val (.int z161), .val (.int z162), .val (.ref b163), .unset, .unset, .unset, .unset, .unset, .unset] [(.int (2 : Int32)), (.ref b163)])) (fun t k => XS.iconst X170.here hx rfl (hb hby at_99) k) ?_
  refine own_via (T170.setTop (mkF m 102 #[.val (.int p0), .val (.long p1), .second, .val (.int p2), .val (.int p3), .val (.int zn), .val (.int z157), .val (.int z158), .val (.int z160), .val (.int z161), .val (.int z162), .val (.ref b163), .unset, .unset, .unset, .unset, .unset, .unset] [(.ref b163), (.int (2 : Int32)), (.ref b163)])) (fun t k => XS.aload X170.here hx rfl (hb hby at_100) rfl rfl k) ?_
  refine own_via (T170.setTop (mkF m 103 #[.val (.int p0), .val (.long p1), .second, .val (.int p2), .val (.int p3), .val (.int zn), .val (.int z157), .val (.int z158), .val (.int z160), .val (.int z161), .val (.int z162), .val (.ref b163), .unset, .unset, .unset, .unset, .unset, .unset] [(.int (1 : Int32)), (.ref b163), (.int (2 : Int32)), (.ref b163)])) (fun t k => XS.iconst X170.here hx rfl (hb hby at_102) k) ?_
  obtain ⟨cl174, Ar174, S174, H174⟩ := id V170
  refine own_via (T170.setTop (mkF m 104 #[.val (.int p0), .val (.long p1), .second, .val (.int p2), .val (.int p3), .val (.int zn), .val (.int z157), .val (.int z158), .val (.int z160), .val (.int z161), .val (.int z162), .val (.ref b163), .unset, .unset, .unset, .unset, .unset, .unset] [(.int (f170 1)), (.int (2 : Int32)), (.ref b163)])) (fun t k => X170.iaload hx (j := (1 : Int32)) (v := (.int (f170 1))) (by rw [e170]; exact Ar174.1) (State.isArrayOf_alike hZ.alike Ar174.2.1) Ar174.2.2 (own_in S174 (by decide)) (own_at H174 (by decide)) (g := (mkF m 103 #[.val (.int p0), .val (.long p1), .second, .val (.int p2), .val (.int p3), .val (.int zn), .val (.int z157), .val (.int z158), .val (.int z160), .val (.int z161), .val (.int z162), .val (.ref b163), .unset, .unset, .unset, .unset, .unset, .unset] [(.int (1 : Int32)), (.ref b163), (.int (2 : Int32)), (.ref b163)])) rfl rfl (hb hby at_103) _ k) ?_
  refine own_via (T170.setTop (mkF m 106 #[.val (.int p0), .val (.long p1), .second, .val (.int p2), .val (.int p3), .val (.int zn), .val (.int z157), .val (.int z158), .val (.int z160), .val (.int z161), .val (.int z162), .val (.ref b163), .unset, .unset, .unset, .unset, .unset, .unset] [(.int z161), (.int (f170 1)), (.int (2 : Int32)), (.ref b163)])) (fun t k => XS.iload X170.here hx rfl (hb hby at_104) rfl  k) ?_
  refine own_via (T170.setTop (mkF m 107 #[.val (.int p0), .val (.long p1), .second, .val (.int p2), .val (.int p3), .val (.int zn), .val (.int z157), .val (.int z158), .val (.int z160), .val (.int z161), .val (.int z162), .val (.ref b163), .unset, .unset, .unset, .unset, .unset, .unset] [(.int ((f170 1) + z161)), (.int (2 : Int32)), (.ref b163)])) (fun t k => XS.iadd X170.here hx rfl (hb hby at_106) rfl k) ?_
  obtain ⟨cl176, Ar176, S176, H176⟩ := id V170
  obtain ⟨T175, h175, X175, e175, W175, st175⟩ := stI X170 hx hZ e170 Ar176 (j := (2 : Int32)) (own_in S176 (by decide)) (g := (mkF m 107 #[.val (.int p0), .val (.long p1), .second, .val (.int p2), .val (.int p3), .val (.int zn), .val (.int z157), .val (.int z158), .val (.int z160), .val (.int z161), .val (.int z162), .val (.ref b163), .unset, .unset, .unset, .unset, .unset, .unset] [(.int ((f170 1) + z161)), (.int (2 : Int32)), (.ref b163)])) rfl rfl (hb hby at_107)
  have V175 : own_A Z h175 b163 .int 4 (own_up f170 2 ((f170 1) + z161)) := own_A.set V170 W175
  obtain ⟨f175, hf175⟩ : ∃ g : Nat → Int32, g = (own_up f170 2 ((f170 1) + z161)) := ⟨_, rfl⟩
  rw [← hf175] at V175
  have N175 := Fr.snoc X175 N170 gg_b163
  have K177 : Keep h0 h175 [] := K172.wr W175 (Or.inr sz_b163)
  refine own_via (T175.setTop (mkF m 108 #[.val (.int p0), .val (.long p1), .second, .val (.int p2), .val (.int p3), .val (.int zn), .val (.int z157), .val (.int z158), .val (.int z160), .val (.int z161), .val (.int z162), .val (.ref b163), .unset, .unset, .unset, .unset, .unset, .unset] [])) (fun t k => st175 t k) ?_
  refine own_via (T175.setTop (mkF m 110 #[.val (.int p0), .val (.long p1), .second, .val (.int p2), .val (.int p3), .val (.int zn), .val (.int z157), .val (.int z158), .val (.int z160), .val (.int z161), .val (.int z162), .val (.ref b163), .unset, .unset, .unset, .unset, .unset, .unset] [(.ref b163)])) (fun t k => XS.aload X175.here hx rfl (hb hby at_108) rfl rfl k) ?_
  refine own_via (T175.setTop (mkF m 111 #[.val (.int p0), .val (.long p1), .second, .val (.int p2), .val (.int p3), .val (.int zn), .val (.int z157), .val (.int z158), .val (.int z160), .val (.int z161), .val (.int z162), .val (.ref b163), .unset, .unset, .unset, .unset, .unset, .unset] [(.int (3 : Int32)), (.ref b163)])) (fun t k => XS.iconst X175.here hx rfl (hb hby at_110) k) ?_
  refine own_via (T175.setTop (mkF m 113 #[.val (.int p0), .val (.long p1), .second, .val (.int p2), .val (.int p3), .val (.int zn), .val (.int z157), .val (.int z158), .val (.int z160), .val (.int z161), .val (.int z162), .val (.ref b163), .unset, .unset, .unset, .unset, .unset, .unset] [(.ref b163), (.int (3 : Int32)), (.ref b163)])) (fun t k => XS.aload X175.here hx rfl (hb hby at_111) rfl rfl k) ?_
  refine own_via (T175.setTop (mkF m 114 #[.val (.int p0), .val (.long p1), .second, .val (.int p2), .val (.int p3), .val (.int zn), .val (.int z157), .val (.int z158), .val (.int z160), .val (.int z161), .val (.int z162), .val (.ref b163), .unset, .unset, .unset, .unset, .unset, .unset] [(.int (2 : Int32)), (.ref b163), (.int (3 : Int32)), (.ref b163)])) (fun t k => XS.iconst X175.here hx rfl (hb hby at_113) k) ?_
  obtain ⟨cl179, Ar179, S179, H179⟩ := id V175
  refine own_via (T175.setTop (mkF m 115 #[.val (.int p0), .val (.long p1), .second, .val (.int p2), .val (.int p3), .val (.int zn), .val (.int z157), .val (.int z158), .val (.int z160), .val (.int z161), .val (.int z162), .val (.ref b163), .unset, .unset, .unset, .unset, .unset, .unset] [(.int (f175 2)), (.int (3 : Int32)), (.ref b163)])) (fun t k => X175.iaload hx (j := (2 : Int32)) (v := (.int (f175 2))) (by rw [e175]; exact Ar179.1) (State.isArrayOf_alike hZ.alike Ar179.2.1) Ar179.2.2 (own_in S179 (by decide)) (own_at H179 (by decide)) (g := (mkF m 114 #[.val (.int p0), .val (.long p1), .second, .val (.int p2), .val (.int p3), .val (.int zn), .val (.int z157), .val (.int z158), .val (.int z160), .val (.int z161), .val (.int z162), .val (.ref b163), .unset, .unset, .unset, .unset, .unset, .unset] [(.int (2 : Int32)), (.ref b163), (.int (3 : Int32)), (.ref b163)])) rfl rfl (hb hby at_114) _ k) ?_
  refine own_via (T175.setTop (mkF m 117 #[.val (.int p0), .val (.long p1), .second, .val (.int p2), .val (.int p3), .val (.int zn), .val (.int z157), .val (.int z158), .val (.int z160), .val (.int z161), .val (.int z162), .val (.ref b163), .unset, .unset, .unset, .unset, .unset, .unset] [(.int z162), (.int (f175 2)), (.int (3 : Int32)), (.ref b163)])) (fun t k => XS.iload X175.here hx rfl (hb hby at_115) rfl  k) ?_
  refine own_via (T175.setTop (mkF m 118 #[.val (.int p0), .val (.long p1), .second, .val (.int p2), .val (.int p3), .val (.int zn), .val (.int z157), .val (.int z158), .val (.int z160), .val (.int z161), .val (.int z162), .val (.ref b163), .unset, .unset, .unset, .unset, .unset, .unset] [(.int ((f175 2) + z162)), (.int (3 : Int32)), (.ref b163)])) (fun t k => XS.iadd X175.here hx rfl (hb hby at_117) rfl k) ?_
  obtain ⟨cl181, Ar181, S181, H181⟩ := id V175
  obtain ⟨T180, h180, X180, e180, W180, st180⟩ := stI X175 hx hZ e175 Ar181 (j := (3 : Int32)) (own_in S181 (by decide)) (g := (mkF m 118 #[.val (.int p0), .val (.long p1), .second, .val (.int p2), .val (.int p3), .val (.int zn), .val (.int z157), .val (.int z158), .val (.int z160), .val (.int z161), .val (.int z162), .val (.ref b163), .unset, .unset, .unset, .unset, .unset, .unset] [(.int ((f175 2) + z162)), (.int (3 : Int32)), (.ref b163)])) rfl rfl (hb hby at_118)
  have V180 : own_A Z h180 b163 .int 4 (own_up f175 3 ((f175 2) + z162)) := own_A.set V175 W180
  obtain ⟨f180, hf180⟩ : ∃ g : Nat → Int32, g = (own_up f175 3 ((f175 2) + z162)) := ⟨_, rfl⟩
  rw [← hf180] at V180
  have N180 := Fr.snoc X180 N175 gg_b163
  have K182 : Keep h0 h180 [] := K177.wr W180 (Or.inr sz_b163)
  refine own_via (T180.setTop (mkF m 119 #[.val (.int p0), .val (.long p1), .second, .val (.int p2), .val (.int p3), .val (.int zn), .val (.int z157), .val (.int z158), .val (.int z160), .val (.int z161), .val (.int z162), .val (.ref b163), .unset, .unset, .unset, .unset, .unset, .unset] [])) (fun t k => st180 t k) ?_
  refine own_via (T180.setTop (mkF m 120 #[.val (.int p0), .val (.long p1), .second, .val (.int p2), .val (.int p3), .val (.int zn), .val (.int z157), .val (.int z158), .val (.int z160), .val (.int z161), .val (.int z162), .val (.ref b163), .unset, .unset, .unset, .unset, .unset, .unset] [(.int (4 : Int32))])) (fun t k => XS.iconst X180.here hx rfl (hb hby at_119) k) ?_
  obtain ⟨T183, h183, k183, X183, e183, E183, A183, st183⟩ := newP X180 hx hZ (hw _ (List.mem_of_getElem? (i := 3) rfl)) e180 (g := (mkF m 120 #[.val (.int p0), .val (.long p1), .second, .val (.int p2), .val (.int p3), .val (.int zn), .val (.int z157), .val (.int z158), .val (.int z160), .val (.int z161), .val (.int z162), .val (.ref b163), .unset, .unset, .unset, .unset, .unset, .unset] [(.int (4 : Int32))])) rfl (hb hby at_120) rfl (by decide) (cap := 4) (by decide) (by decide) (by decide) (by decide)
  obtain ⟨b183, g183⟩ : ∃ z, z = h180.size := ⟨_, rfl⟩
  rw [← g183] at A183 st183
  have gg_b183 : n0 ≤ b183 := Nat.le_trans (Nat.le_trans Z0 K182.1) (Nat.le_of_eq g183.symm)
  have sz_b183 : h0.size ≤ b183 := Nat.le_trans K182.1 (Nat.le_of_eq g183.symm)
  have ne_b163_b183 : b163 ≠ b183 := Nat.ne_of_lt (Nat.lt_of_lt_of_le V180.lt (Nat.le_of_eq g183.symm))
  have V183 : Arv Z h183 b183 k183 .int (4 : Int32) [(.int (0 : Int32)), (.int (0 : Int32)), (.int (0 : Int32)), (.int (0 : Int32))] (.int (0 : Int32)) := (Arv.new A183 (by decide)).pad (pad_rep [] (.int (0 : Int32)) 4)
  have K184 : Keep h0 h183 [] := K182.ext E183
  refine own_via (T183.setTop (mkF m 122 #[.val (.int p0), .val (.long p1), .second, .val (.int p2), .val (.int p3), .val (.int zn), .val (.int z157), .val (.int z158), .val (.int z160), .val (.int z161), .val (.int z162), .val (.ref b163), .unset, .unset, .unset, .unset, .unset, .unset] [(.ref b183)])) (fun t k => st183 t k) ?_
  refine own_via (T183.setTop (mkF m 124 #[.val (.int p0), .val (.long p1), .second, .val (.int p2), .val (.int p3), .val (.int zn), .val (.int z157), .val (.int z158), .val (.int z160), .val (.int z161), .val (.int z162), .val (.ref b163), .val (.ref b183), .unset, .unset, .unset, .unset, .unset] [])) (fun t k => XS.astore X183.here hx rfl (hb hby at_122) rfl rfl (l' := #[.val (.int p0), .val (.long p1), .second, .val (.int p2), .val (.int p3), .val (.int zn), .val (.int z157), .val (.int z158), .val (.int z160), .val (.int z161), .val (.int z162), .val (.ref b163), .val (.ref b183), .unset, .unset, .unset, .unset, .unset]) rfl k) ?_
  refine own_via (T183.setTop (mkF m 126 #[.val (.int p0), .val (.long p1), .second, .val (.int p2), .val (.int p3), .val (.int zn), .val (.int z157), .val (.int z158), .val (.int z160), .val (.int z161), .val (.int z162), .val (.ref b163), .val (.ref b183), .unset, .unset, .unset, .unset, .unset] [(.int z157)])) (fun t k => XS.iload X183.here hx rfl (hb hby at_124) rfl  k) ?_
  by_cases hc126_185 : z157 = (0 : Int32)
  · refine own_via (T183.setTop (mkF m 129 #[.val (.int p0), .val (.long p1), .second, .val (.int p2), .val (.int p3), .val (.int zn), .val (.int z157), .val (.int z158), .val (.int z160), .val (.int z161), .val (.int z162), .val (.ref b163), .val (.ref b183), .unset, .unset, .unset, .unset, .unset] [])) (fun t k => XS.ifNo X183.here hx rfl (hb hby at_126) rfl ((if0 _ _).trans (teq hc126_185).2) k) ?_
    refine own_via (T183.setTop (mkF m 131 #[.val (.int p0), .val (.long p1), .second, .val (.int p2), .val (.int p3), .val (.int zn), .val (.int z157), .val (.int z158), .val (.int z160), .val (.int z161), .val (.int z162), .val (.ref b163), .val (.ref b183), .unset, .unset, .unset, .unset, .unset] [(.ref b183)])) (fun t k => XS.aload X183.here hx rfl (hb hby at_129) rfl rfl k) ?_
    refine own_via (T183.setTop (mkF m 132 #[.val (.int p0), .val (.long p1), .second, .val (.int p2), .val (.int p3), .val (.int zn), .val (.int z157), .val (.int z158), .val (.int z160), .val (.int z161), .val (.int z162), .val (.ref b163), .val (.ref b183), .unset, .unset, .unset, .unset, .unset] [(.int (0 : Int32)), (.ref b183)])) (fun t k => XS.iconst X183.here hx rfl (hb hby at_131) k) ?_
    refine own_via (T183.setTop (mkF m 133 #[.val (.int p0), .val (.long p1), .second, .val (.int p2), .val (.int p3), .val (.int zn), .val (.int z157), .val (.int z158), .val (.int z160), .val (.int z161), .val (.int z162), .val (.ref b163), .val (.ref b183), .unset, .unset, .unset, .unset, .unset] [(.int (0 : Int32)), (.int (0 : Int32)), (.ref b183)])) (fun t k => XS.iconst X183.here hx rfl (hb hby at_132) k) ?_
    obtain ⟨cl187, Ar187, q187, S187, M187, H187, G187⟩ := id V183
    obtain ⟨T186, h186, X186, e186, W186, st186⟩ := stI X183 hx hZ e183 Ar187 (j := (0 : Int32)) (inb_of S187 ⟨by decide, by decide⟩) (g := (mkF m 133 #[.val (.int p0), .val (.long p1), .second, .val (.int p2), .val (.int p3), .val (.int zn), .val (.int z157), .val (.int z158), .val (.int z160), .val (.int z161), .val (.int z162), .val (.ref b163), .val (.ref b183), .unset, .unset, .unset, .unset, .unset] [(.int (0 : Int32)), (.int (0 : Int32)), (.ref b183)])) rfl rfl (hb hby at_133)
    have V186 : Arv Z h186 b183 k183 .int (4 : Int32) [(.int (0 : Int32)), (.int (0 : Int32)), (.int (0 : Int32)), (.int (0 : Int32))] (.int (0 : Int32)) := Arv.set Ar187 q187 S187 M187 H187 G187 rfl W186 0 rfl (Nat.le_of_ble_eq_true rfl)
    have N186 := Fr.snoc X186 N180 gg_b183
    have K188 : Keep h0 h186 [] := K184.wr W186 (Or.inr sz_b183)
    refine own_via (T186.setTop (mkF m 134 #[.val (.int p0), .val (.long p1), .second, .val (.int p2), .val (.int p3), .val (.int zn), .val (.int z157), .val (.int z158), .val (.int z160), .val (.int z161), .val (.int z162), .val (.ref b163), .val (.ref b183), .unset, .unset, .unset, .unset, .unset] [])) (fun t k => st186 t k) ?_
    refine own_via (T186.setTop (mkF m 136 #[.val (.int p0), .val (.long p1), .second, .val (.int p2), .val (.int p3), .val (.int zn), .val (.int z157), .val (.int z158), .val (.int z160), .val (.int z161), .val (.int z162), .val (.ref b163), .val (.ref b183), .unset, .unset, .unset, .unset, .unset] [(.ref b183)])) (fun t k => XS.aload X186.here hx rfl (hb hby at_134) rfl rfl k) ?_
    refine own_via (T186.setTop (mkF m 137 #[.val (.int p0), .val (.long p1), .second, .val (.int p2), .val (.int p3), .val (.int zn), .val (.int z157), .val (.int z158), .val (.int z160), .val (.int z161), .val (.int z162), .val (.ref b163), .val (.ref b183), .unset, .unset, .unset, .unset, .unset] [(.int (1 : Int32)), (.ref b183)])) (fun t k => XS.iconst X186.here hx rfl (hb hby at_136) k) ?_
    refine own_via (T186.setTop (mkF m 138 #[.val (.int p0), .val (.long p1), .second, .val (.int p2), .val (.int p3), .val (.int zn), .val (.int z157), .val (.int z158), .val (.int z160), .val (.int z161), .val (.int z162), .val (.ref b163), .val (.ref b183), .unset, .unset, .unset, .unset, .unset] [(.int (1 : Int32)), (.int (1 : Int32)), (.ref b183)])) (fun t k => XS.iconst X186.here hx rfl (hb hby at_137) k) ?_
    obtain ⟨cl190, Ar190, q190, S190, M190, H190, G190⟩ := id V186
    obtain ⟨T189, h189, X189, e189, W189, st189⟩ := stI X186 hx hZ e186 Ar190 (j := (1 : Int32)) (inb_of S190 ⟨by decide, by decide⟩) (g := (mkF m 138 #[.val (.int p0), .val (.long p1), .second, .val (.int p2), .val (.int p3), .val (.int zn), .val (.int z157), .val (.int z158), .val (.int z160), .val (.int z161), .val (.int z162), .val (.ref b163), .val (.ref b183), .unset, .unset, .unset, .unset, .unset] [(.int (1 : Int32)), (.int (1 : Int32)), (.ref b183)])) rfl rfl (hb hby at_138)
    have V189 : Arv Z h189 b183 k183 .int (4 : Int32) [(.int (0 : Int32)), (.int (1 : Int32)), (.int (0 : Int32)), (.int (0 : Int32))] (.int (0 : Int32)) := Arv.set Ar190 q190 S190 M190 H190 G190 rfl W189 1 rfl (Nat.le_of_ble_eq_true rfl)
    have N189 := Fr.snoc X189 N186 gg_b183
    have K191 : Keep h0 h189 [] := K188.wr W189 (Or.inr sz_b183)
    refine own_via (T189.setTop (mkF m 139 #[.val (.int p0), .val (.long p1), .second, .val (.int p2), .val (.int p3), .val (.int zn), .val (.int z157), .val (.int z158), .val (.int z160), .val (.int z161), .val (.int z162), .val (.ref b163), .val (.ref b183), .unset, .unset, .unset, .unset, .unset] [])) (fun t k => st189 t k) ?_
    refine own_via (T189.setTop (mkF m 141 #[.val (.int p0), .val (.long p1), .second, .val (.int p2), .val (.int p3), .val (.int zn), .val (.int z157), .val (.int z158), .val (.int z160), .val (.int z161), .val (.int z162), .val (.ref b163), .val (.ref b183), .unset, .unset, .unset, .unset, .unset] [(.ref b183)])) (fun t k => XS.aload X189.here hx rfl (hb hby at_139) rfl rfl k) ?_
    refine own_via (T189.setTop (mkF m 142 #[.val (.int p0), .val (.long p1), .second, .val (.int p2), .val (.int p3), .val (.int zn), .val (.int z157), .val (.int z158), .val (.int z160), .val (.int z161), .val (.int z162), .val (.ref b163), .val (.ref b183), .unset, .unset, .unset, .unset, .unset] [(.int (2 : Int32)), (.ref b183)])) (fun t k => XS.iconst X189.here hx rfl (hb hby at_141) k) ?_
    refine own_via (T189.setTop (mkF m 143 #[.val (.int p0), .val (.long p1), .second, .val (.int p2), .val (.int p3), .val (.int zn), .val (.int z157), .val (.int z158), .val (.int z160), .val (.int z161), .val (.int z162), .val (.ref b163), .val (.ref b183), .unset, .unset, .unset, .unset, .unset] [(.int (2 : Int32)), (.int (2 : Int32)), (.ref b183)])) (fun t k => XS.iconst X189.here hx rfl (hb hby at_142) k) ?_
    obtain ⟨cl193, Ar193, q193, S193, M193, H193, G193⟩ := id V189
    obtain ⟨T192, h192, X192, e192, W192, st192⟩ := stI X189 hx hZ e189 Ar193 (j := (2 : Int32)) (inb_of S193 ⟨by decide, by decide⟩) (g := (mkF m 143 #[.val (.int p0), .val (.long p1), .second, .val (.int p2), .val (.int p3), .val (.int zn), .val (.int z157), .val (.int z158), .val (.int z160), .val (.int z161), .val (.int z162), .val (.ref b163), .val (.ref b183), .unset, .unset, .unset, .unset, .unset] [(.int (2 : Int32)), (.int (2 : Int32)), (.ref b183)])) rfl rfl (hb hby at_143)
    have V192 : Arv Z h192 b183 k183 .int (4 : Int32) [(.int (0 : Int32)), (.int (1 : Int32)), (.int (2 : Int32)), (.int (0 : Int32))] (.int (0 : Int32)) := Arv.set Ar193 q193 S193 M193 H193 G193 rfl W192 2 rfl (Nat.le_of_ble_eq_true rfl)
    have N192 := Fr.snoc X192 N189 gg_b183
    have K194 : Keep h0 h192 [] := K191.wr W192 (Or.inr sz_b183)
    refine own_via (T192.setTop (mkF m 144 #[.val (.int p0), .val (.long p1), .second, .val (.int p2), .val (.int p3), .val (.int zn), .val (.int z157), .val (.int z158), .val (.int z160), .val (.int z161), .val (.int z162), .val (.ref b163), .val (.ref b183), .unset, .unset, .unset, .unset, .unset] [])) (fun t k => st192 t k) ?_
    refine own_via (T192.setTop (mkF m 146 #[.val (.int p0), .val (.long p1), .second, .val (.int p2), .val (.int p3), .val (.int zn), .val (.int z157), .val (.int z158), .val (.int z160), .val (.int z161), .val (.int z162), .val (.ref b163), .val (.ref b183), .unset, .unset, .unset, .unset, .unset] [(.ref b183)])) (fun t k => XS.aload X192.here hx rfl (hb hby at_144) rfl rfl k) ?_
    refine own_via (T192.setTop (mkF m 147 #[.val (.int p0), .val (.long p1), .second, .val (.int p2), .val (.int p3), .val (.int zn), .val (.int z157), .val (.int z158), .val (.int z160), .val (.int z161), .val (.int z162), .val (.ref b163), .val (.ref b183), .unset, .unset, .unset, .unset, .unset] [(.int (3 : Int32)), (.ref b183)])) (fun t k => XS.iconst X192.here hx rfl (hb hby at_146) k) ?_
    refine own_via (T192.setTop (mkF m 148 #[.val (.int p0), .val (.long p1), .second, .val (.int p2), .val (.int p3), .val (.int zn), .val (.int z157), .val (.int z158), .val (.int z160), .val (.int z161), .val (.int z162), .val (.ref b163), .val (.ref b183), .unset, .unset, .unset, .unset, .unset] [(.int (3 : Int32)), (.int (3 : Int32)), (.ref b183)])) (fun t k => XS.iconst X192.here hx rfl (hb hby at_147) k) ?_
    obtain ⟨cl196, Ar196, q196, S196, M196, H196, G196⟩ := id V192
    obtain ⟨T195, h195, X195, e195, W195, st195⟩ := stI X192 hx hZ e192 Ar196 (j := (3 : Int32)) (inb_of S196 ⟨by decide, by decide⟩) (g := (mkF m 148 #[.val (.int p0), .val (.long p1), .second, .val (.int p2), .val (.int p3), .val (.int zn), .val (.int z157), .val (.int z158), .val (.int z160), .val (.int z161), .val (.int z162), .val (.ref b163), .val (.ref b183), .unset, .unset, .unset, .unset, .unset] [(.int (3 : Int32)), (.int (3 : Int32)), (.ref b183)])) rfl rfl (hb hby at_148)
    have V195 : Arv Z h195 b183 k183 .int (4 : Int32) [(.int (0 : Int32)), (.int (1 : Int32)), (.int (2 : Int32)), (.int (3 : Int32))] (.int (0 : Int32)) := Arv.set Ar196 q196 S196 M196 H196 G196 rfl W195 3 rfl (Nat.le_of_ble_eq_true rfl)
    have N195 := Fr.snoc X195 N192 gg_b183
    have K197 : Keep h0 h195 [] := K194.wr W195 (Or.inr sz_b183)
    refine own_via (T195.setTop (mkF m 149 #[.val (.int p0), .val (.long p1), .second, .val (.int p2), .val (.int p3), .val (.int zn), .val (.int z157), .val (.int z158), .val (.int z160), .val (.int z161), .val (.int z162), .val (.ref b163), .val (.ref b183), .unset, .unset, .unset, .unset, .unset] [])) (fun t k => st195 t k) ?_
    refine own_via (T195.setTop (mkF m 230 #[.val (.int p0), .val (.long p1), .second, .val (.int p2), .val (.int p3), .val (.int zn), .val (.int z157), .val (.int z158), .val (.int z160), .val (.int z161), .val (.int z162), .val (.ref b163), .val (.ref b183), .unset, .unset, .unset, .unset, .unset] [])) (fun t k => XS.goto X195.here hx rfl (pc0 := 149) (pc' := 230) rfl (hb hby at_149) (by decide) (by decide) k) ?_
    obtain ⟨T198, h198, X198, e198, E198, A198, D198, -, st198⟩ := newO X195 hx hZ hown (hw _ (List.mem_of_getElem? (i := 4) rfl)) (hw _ (List.mem_of_getElem? (i := 5) rfl)) (hw _ (List.mem_of_getElem? (i := 6) rfl)) e195 (g := (mkF m 230 #[.val (.int p0), .val (.long p1), .second, .val (.int p2), .val (.int p3), .val (.int zn), .val (.int z157), .val (.int z158), .val (.int z160), .val (.int z161), .val (.int z162), .val (.ref b163), .val (.ref b183), .unset, .unset, .unset, .unset, .unset] [])) rfl (hb hby at_230) (by decide) (by decide)
    obtain ⟨b198, g198⟩ : ∃ z, z = h195.size := ⟨_, rfl⟩
    rw [← g198] at A198 D198 st198
    have gg_b198 : n0 ≤ b198 := Nat.le_trans (Nat.le_trans Z0 K197.1) (Nat.le_of_eq g198.symm)
    have sz_b198 : h0.size ≤ b198 := Nat.le_trans K197.1 (Nat.le_of_eq g198.symm)
    have ne_b163_b198 : b163 ≠ b198 := Nat.ne_of_lt (Nat.lt_of_lt_of_le (((((V180.ext E183).other W186 ne_b163_b183).other W189 ne_b163_b183).other W192 ne_b163_b183).other W195 ne_b163_b183).lt (Nat.le_of_eq g198.symm))
    have ne_b183_b198 : b183 ≠ b198 := Nat.ne_of_lt (Nat.lt_of_lt_of_le V195.lt (Nat.le_of_eq g198.symm))
    have F_starts_b198 : Fld Z h198 b198 "com/example/honeyguide/honeyguide/Spans" "starts" "[I" .null := D198 (Or.inl (hw _ (List.mem_of_getElem? (i := 14) rfl))) (ty := (.array .int)) (by decide)
    have F_ends_b198 : Fld Z h198 b198 "com/example/honeyguide/honeyguide/Spans" "ends" "[I" .null := D198 (Or.inl (hw _ (List.mem_of_getElem? (i := 16) rfl))) (ty := (.array .int)) (by decide)
    have F_head_b198 : Fld Z h198 b198 "com/example/honeyguide/honeyguide/Spans" "head" "I" (.int (0 : Int32)) := D198 (Or.inl (hw _ (List.mem_of_getElem? (i := 18) rfl))) (ty := .int) (by decide)
    have F_count_b198 : Fld Z h198 b198 "com/example/honeyguide/honeyguide/Spans" "count" "I" (.int (0 : Int32)) := D198 (Or.inl (hw _ (List.mem_of_getElem? (i := 33) rfl))) (ty := .int) (by decide)
    have K199 : Keep h0 h198 [] := K197.ext E198
    refine own_via (T198.setTop (mkF m 233 #[.val (.int p0), .val (.long p1), .second, .val (.int p2), .val (.int p3), .val (.int zn), .val (.int z157), .val (.int z158), .val (.int z160), .val (.int z161), .val (.int z162), .val (.ref b163), .val (.ref b183), .unset, .unset, .unset, .unset, .unset] [(.ref b198)])) (fun t k => st198 t k) ?_
    refine own_via (T198.setTop (mkF m 234 #[.val (.int p0), .val (.long p1), .second, .val (.int p2), .val (.int p3), .val (.int zn), .val (.int z157), .val (.int z158), .val (.int z160), .val (.int z161), .val (.int z162), .val (.ref b163), .val (.ref b183), .unset, .unset, .unset, .unset, .unset] [(.ref b198), (.ref b198)])) (fun t k => XS.dup X198.here hx rfl (hb hby at_233) rfl rfl k) ?_
    obtain ⟨_, _, ⟨T200, L200, k200, n200⟩, -, X200, ⟨Lc200, hQ200, l200, y200, z200⟩, st200⟩ := X198.specialBack hx (y := (⟨"com/example/honeyguide/honeyguide/Spans", "<init>", "()V"⟩ : MethodName)) rfl hown (mvT hZ (hw _ (List.mem_of_getElem? (i := 7) rfl))) (mvT hZ (hw _ (List.mem_of_getElem? (i := 8) rfl))) (mvT hZ (hw _ (List.mem_of_getElem? (i := 9) rfl))) (by decide) (backOf (W := 1) (rm1 l Z a0 hw [] b198 h198 n0 (Nat.le_trans Z0 K199.1) F_starts_b198 F_ends_b198 F_head_b198 F_count_b198 A198 gg_b198) hZ (hw _ (List.mem_of_getElem? (i := 9) rfl)) (hw _ (List.mem_of_getElem? (i := 6) rfl)) (by decide) (by decide)) (g := (mkF m 234 #[.val (.int p0), .val (.long p1), .second, .val (.int p2), .val (.int p3), .val (.int zn), .val (.int z157), .val (.int z158), .val (.int z160), .val (.int z161), .val (.int z162), .val (.ref b163), .val (.ref b183), .unset, .unset, .unset, .unset, .unset] [(.ref b198), (.ref b198)])) rfl (by rw [hml]; rfl) (Steps.refl _) (a := b198) (argsL := []) (rest := [(.ref b198)]) (lenOf pd_3 rfl) rfl (by show 2 * 0 + _ ≤ _; exact Nat.le_of_eq rfl) (hb hby at_234) (fun _ _ => ⟨rfl, e198, (by decide : 3 + 2 ≤ _), (by decide : 12 + 16 ≤ _)⟩)
    dsimp only [Pt.U, Pt.locs, Pt.cells, Pt.slots] at X200 l200 y200 z200 st200 hQ200
    rw [y200, z200] at X200
    have X200 : Stand _ _ _ _ _ _ _ _ _ _ T200 L200 5 28 := X200
    obtain ⟨h200, e200⟩ : ∃ h, T200.heap = h := ⟨_, rfl⟩
    rw [e200] at hQ200
    obtain ⟨rs_200, re_200, rfl, N200q, K200q, gg_rs_200, gg_re_200, sq_rs_200, sq_re_200, G200_0, G200_1, G200_2, G200_3, G200_4, G200_5, G200_6, nq200_0⟩ := hQ200
    have N200 : Fr n0 L200 := by rw [l200]; exact Fr.app N195 N200q
    have sz_rs_200 : h0.size ≤ rs_200 := Nat.le_trans K199.1 sq_rs_200
    have ne_b163_rs_200 : b163 ≠ rs_200 := Nat.ne_of_lt (Nat.lt_of_lt_of_le ((((((V180.ext E183).other W186 ne_b163_b183).other W189 ne_b163_b183).other W192 ne_b163_b183).other W195 ne_b163_b183).ext E198).lt sq_rs_200)
    have ne_b183_rs_200 : b183 ≠ rs_200 := Nat.ne_of_lt (Nat.lt_of_lt_of_le (V195.ext E198).lt sq_rs_200)
    have ne_b198_rs_200 : b198 ≠ rs_200 := Nat.ne_of_lt (Nat.lt_of_lt_of_le A198.lt sq_rs_200)
    have sz_re_200 : h0.size ≤ re_200 := Nat.le_trans K199.1 sq_re_200
    have ne_b163_re_200 : b163 ≠ re_200 := Nat.ne_of_lt (Nat.lt_of_lt_of_le ((((((V180.ext E183).other W186 ne_b163_b183).other W189 ne_b163_b183).other W192 ne_b163_b183).other W195 ne_b163_b183).ext E198).lt sq_re_200)
    have ne_b183_re_200 : b183 ≠ re_200 := Nat.ne_of_lt (Nat.lt_of_lt_of_le (V195.ext E198).lt sq_re_200)
    have ne_b198_re_200 : b198 ≠ re_200 := Nat.ne_of_lt (Nat.lt_of_lt_of_le A198.lt sq_re_200)
    have K201 : Keep h0 h200 [] := K199.trans K200q (fun x hx => (List.mem_cons.mp hx).elim (fun e => e ▸ Or.inr sz_b198) (fun hx => nomatch hx))
    refine own_via (T200.setTop (mkF m 237 #[.val (.int p0), .val (.long p1), .second, .val (.int p2), .val (.int p3), .val (.int zn), .val (.int z157), .val (.int z158), .val (.int z160), .val (.int z161), .val (.int z162), .val (.ref b163), .val (.ref b183), .unset, .unset, .unset, .unset, .unset] [(.ref b198)])) (fun t k => st200.trans k) ?_
    refine own_via (T200.setTop (mkF m 239 #[.val (.int p0), .val (.long p1), .second, .val (.int p2), .val (.int p3), .val (.int zn), .val (.int z157), .val (.int z158), .val (.int z160), .val (.int z161), .val (.int z162), .val (.ref b163), .val (.ref b183), .val (.ref b198), .unset, .unset, .unset, .unset] [])) (fun t k => XS.astore X200.here hx rfl (hb hby at_237) rfl rfl (l' := #[.val (.int p0), .val (.long p1), .second, .val (.int p2), .val (.int p3), .val (.int zn), .val (.int z157), .val (.int z158), .val (.int z160), .val (.int z161), .val (.int z162), .val (.ref b163), .val (.ref b183), .val (.ref b198), .unset, .unset, .unset, .unset]) rfl k) ?_
    have hI0 : own_Inv (fun _ => (0 : Int32)) (4 : Int32) (0 : Int32) := own_inv0
    refine own_via (T200.setTop (mkF m 241 #[.val (.int p0), .val (.long p1), .second, .val (.int p2), .val (.int p3), .val (.int zn), .val (.int z157), .val (.int z158), .val (.int z160), .val (.int z161), .val (.int z162), .val (.ref b163), .val (.ref b183), .val (.ref b198), .unset, .unset, .unset, .unset] [(.ref b198)])) (fun t k => XS.aload X200.here hx rfl (hb hby at_239) rfl rfl k) ?_
    refine own_via (T200.setTop (mkF m 243 #[.val (.int p0), .val (.long p1), .second, .val (.int p2), .val (.int p3), .val (.int zn), .val (.int z157), .val (.int z158), .val (.int z160), .val (.int z161), .val (.int z162), .val (.ref b163), .val (.ref b183), .val (.ref b198), .unset, .unset, .unset, .unset] [(.ref b163), (.ref b198)])) (fun t k => XS.aload X200.here hx rfl (hb hby at_241) rfl rfl k) ?_
    refine own_via (T200.setTop (mkF m 245 #[.val (.int p0), .val (.long p1), .second, .val (.int p2), .val (.int p3), .val (.int zn), .val (.int z157), .val (.int z158), .val (.int z160), .val (.int z161), .val (.int z162), .val (.ref b163), .val (.ref b183), .val (.ref b198), .unset, .unset, .unset, .unset] [(.ref b183), (.ref b163), (.ref b198)])) (fun t k => XS.aload X200.here hx rfl (hb hby at_243) rfl rfl k) ?_
    refine own_via (T200.setTop (mkF m 246 #[.val (.int p0), .val (.long p1), .second, .val (.int p2), .val (.int p3), .val (.int zn), .val (.int z157), .val (.int z158), .val (.int z160), .val (.int z161), .val (.int z162), .val (.ref b163), .val (.ref b183), .val (.ref b198), .unset, .unset, .unset, .unset] [(.int (0 : Int32)), (.ref b183), (.ref b163), (.ref b198)])) (fun t k => XS.iconst X200.here hx rfl (hb hby at_245) k) ?_
    have F203 := ((V195.ext E198).keep K200q (fun q => ne_b183_b198 (List.mem_singleton.mp q)))
    obtain ⟨cl204, Ar204, q204, S204, M204, H204, G204⟩ := id F203
    refine own_via (T200.setTop (mkF m 247 #[.val (.int p0), .val (.long p1), .second, .val (.int p2), .val (.int p3), .val (.int zn), .val (.int z157), .val (.int z158), .val (.int z160), .val (.int z161), .val (.int z162), .val (.ref b163), .val (.ref b183), .val (.ref b198), .unset, .unset, .unset, .unset] [(.int (0 : Int32)), (.ref b163), (.ref b198)])) (fun t k => X200.iaload hx (j := (0 : Int32)) (v := (.int (0 : Int32))) (by rw [e200]; exact Ar204.1) (State.isArrayOf_alike hZ.alike Ar204.2.1) Ar204.2.2 (inb_of S204 ⟨by decide, by decide⟩) (H204 0 (by rw [S204]; decide)) (g := (mkF m 246 #[.val (.int p0), .val (.long p1), .second, .val (.int p2), .val (.int p3), .val (.int zn), .val (.int z157), .val (.int z158), .val (.int z160), .val (.int z161), .val (.int z162), .val (.ref b163), .val (.ref b183), .val (.ref b198), .unset, .unset, .unset, .unset] [(.int (0 : Int32)), (.ref b183), (.ref b163), (.ref b198)])) rfl rfl (hb hby at_246) _ k) ?_
    refine own_via (T200.setTop (mkF m 249 #[.val (.int p0), .val (.long p1), .second, .val (.int p2), .val (.int p3), .val (.int zn), .val (.int z157), .val (.int z158), .val (.int z160), .val (.int z161), .val (.int z162), .val (.ref b163), .val (.ref b183), .val (.ref b198), .unset, .unset, .unset, .unset] [(.int zn), (.int (0 : Int32)), (.ref b163), (.ref b198)])) (fun t k => XS.iload X200.here hx rfl (hb hby at_247) rfl  k) ?_
    have F206 := (((((((V180.ext E183).other W186 ne_b163_b183).other W189 ne_b163_b183).other W192 ne_b163_b183).other W195 ne_b163_b183).ext E198).keep K200q (fun q => ne_b163_b198 (List.mem_singleton.mp q)))
    obtain ⟨_, _, ⟨T205, L205, k205, n205⟩, -, X205, ⟨Lc205, hQ205, l205, y205, z205⟩, st205⟩ := Jvm.LawKit.callS X200 hx (y := (⟨"com/example/honeyguide/honeyguide/SpansAfterPinLaw", "addIf", "(Lcom/example/honeyguide/honeyguide/Spans;[III)V"⟩ : MethodName)) hown (mvT hZ (hw _ (List.mem_of_getElem? (i := 19) rfl))) (mvT hZ (hw _ (List.mem_of_getElem? (i := 20) rfl))) (mvT hZ (hw _ (List.mem_of_getElem? (i := 21) rfl))) (mvT hZ (hw _ (List.mem_of_getElem? (i := 22) rfl))) (by decide) (backOf (W := 0) (rm3 l Z a0 hw [] b198 b163 (0 : Int32) zn h200 n0 (Nat.le_trans Z0 K201.1) rs_200 (4 : Int32) (0 : Int32) (fun _ => (0 : Int32)) re_200 (fun _ => (0 : Int32)) f180 G200_3 G200_1 G200_2 G200_5 G200_4 G200_6 G200_0 F206 gg_b198 gg_rs_200 gg_re_200 hI0 (by decide) ne_b198_rs_200 ne_b198_re_200 nq200_0 (by decide)) hZ (hw _ (List.mem_of_getElem? (i := 22) rfl)) (hw _ (List.mem_of_getElem? (i := 21) rfl)) (by decide) (by decide)) (g := (mkF m 249 #[.val (.int p0), .val (.long p1), .second, .val (.int p2), .val (.int p3), .val (.int zn), .val (.int z157), .val (.int z158), .val (.int z160), .val (.int z161), .val (.int z162), .val (.ref b163), .val (.ref b183), .val (.ref b198), .unset, .unset, .unset, .unset] [(.int zn), (.int (0 : Int32)), (.ref b163), (.ref b198)])) rfl (by rw [hml]; rfl) (argsL := [(.ref b198), (.ref b163), (.int (0 : Int32)), (.int zn)]) (rest := []) (lenOf pd_4 rfl) rfl (by show 2 * 0 + _ ≤ _; exact Nat.le_of_eq rfl) (hb hby at_249) (fun _ _ => ⟨rfl, e200, (by decide : 5 + 0 ≤ _), (by decide : 28 + 0 ≤ _)⟩)
    dsimp only [Pt.U, Pt.locs, Pt.cells, Pt.slots] at X205 l205 y205 z205 st205 hQ205
    rw [y205, z205] at X205
    have X205 : Stand _ _ _ _ _ _ _ _ _ _ T205 L205 5 28 := X205
    obtain ⟨h205, e205⟩ : ∃ h, T205.heap = h := ⟨_, rfl⟩
    rw [e205] at hQ205
    obtain ⟨rfl, N205q, K205q, G205_0, G205_1, G205_2, G205_3, G205_4, G205_5, G205_6⟩ := hQ205
    have N205 : Fr n0 L205 := by rw [l205]; exact Fr.app N200 N205q
    have mq205 : ∀ x ∈ [b198, rs_200, re_200], x ∈ [] ∨ h0.size ≤ x := by
      intro x hx
      rcases List.mem_cons.mp hx with e | hx
      · rw [e]; exact Or.inr sz_b198
      rcases List.mem_cons.mp hx with e | hx
      · rw [e]; exact Or.inr sz_rs_200
      rw [List.mem_singleton.mp hx]; exact Or.inr sz_re_200
    have K207 : Keep h0 h205 [] := K201.trans K205q mq205
    obtain ⟨z208, hz208⟩ : ∃ z : Int32, z = (own_ih (fun _ => (0 : Int32)) (4 : Int32) (0 : Int32) (0 : Int32) zn (f180 (0 : Int32).toInt.toNat)) := ⟨_, rfl⟩
    rw [← hz208] at G205_1
    obtain ⟨z209, hz209⟩ : ∃ z : Int32, z = (own_ic (0 : Int32) (0 : Int32) zn) := ⟨_, rfl⟩
    rw [← hz209] at G205_2
    obtain ⟨f210, hf210⟩ : ∃ g : Nat → Int32, g = (own_if (fun _ => (0 : Int32)) (fun _ => (0 : Int32)) (4 : Int32) (0 : Int32) (0 : Int32) zn (f180 (0 : Int32).toInt.toNat) (f180 (0 : Int32).toInt.toNat)) := ⟨_, rfl⟩
    rw [← hf210] at G205_5
    obtain ⟨f211, hf211⟩ : ∃ g : Nat → Int32, g = (own_if (fun _ => (0 : Int32)) (fun _ => (0 : Int32)) (4 : Int32) (0 : Int32) (0 : Int32) zn (f180 (0 : Int32).toInt.toNat) ((f180 (0 : Int32).toInt.toNat) + (1 : Int32))) := ⟨_, rfl⟩
    rw [← hf211] at G205_6
    refine own_via (T205.setTop (mkF m 252 #[.val (.int p0), .val (.long p1), .second, .val (.int p2), .val (.int p3), .val (.int zn), .val (.int z157), .val (.int z158), .val (.int z160), .val (.int z161), .val (.int z162), .val (.ref b163), .val (.ref b183), .val (.ref b198), .unset, .unset, .unset, .unset] [])) (fun t k => st205 t k) ?_
    have hs1 := own_step hI0 (by decide) hz208 hz209 hf210
    have hI1 := hs1.1
    have hc1 := hs1.2.1
    have hq1 := hs1.2.2 
    have hcb1 : z209.toInt ≤ 1 := by split at hc1 <;> (have e0 : (0 : Int32).toInt = 0 := rfl; omega)
    refine own_via (T205.setTop (mkF m 254 #[.val (.int p0), .val (.long p1), .second, .val (.int p2), .val (.int p3), .val (.int zn), .val (.int z157), .val (.int z158), .val (.int z160), .val (.int z161), .val (.int z162), .val (.ref b163), .val (.ref b183), .val (.ref b198), .unset, .unset, .unset, .unset] [(.ref b198)])) (fun t k => XS.aload X205.here hx rfl (hb hby at_252) rfl rfl k) ?_
    refine own_via (T205.setTop (mkF m 256 #[.val (.int p0), .val (.long p1), .second, .val (.int p2), .val (.int p3), .val (.int zn), .val (.int z157), .val (.int z158), .val (.int z160), .val (.int z161), .val (.int z162), .val (.ref b163), .val (.ref b183), .val (.ref b198), .unset, .unset, .unset, .unset] [(.ref b163), (.ref b198)])) (fun t k => XS.aload X205.here hx rfl (hb hby at_254) rfl rfl k) ?_
    refine own_via (T205.setTop (mkF m 258 #[.val (.int p0), .val (.long p1), .second, .val (.int p2), .val (.int p3), .val (.int zn), .val (.int z157), .val (.int z158), .val (.int z160), .val (.int z161), .val (.int z162), .val (.ref b163), .val (.ref b183), .val (.ref b198), .unset, .unset, .unset, .unset] [(.ref b183), (.ref b163), (.ref b198)])) (fun t k => XS.aload X205.here hx rfl (hb hby at_256) rfl rfl k) ?_
    refine own_via (T205.setTop (mkF m 259 #[.val (.int p0), .val (.long p1), .second, .val (.int p2), .val (.int p3), .val (.int zn), .val (.int z157), .val (.int z158), .val (.int z160), .val (.int z161), .val (.int z162), .val (.ref b163), .val (.ref b183), .val (.ref b198), .unset, .unset, .unset, .unset] [(.int (1 : Int32)), (.ref b183), (.ref b163), (.ref b198)])) (fun t k => XS.iconst X205.here hx rfl (hb hby at_258) k) ?_
    have F213 := (F203.keep K205q (fun q => (List.mem_cons.mp q).elim ne_b183_b198 (fun q => (List.mem_cons.mp q).elim ne_b183_rs_200 (fun q => (List.mem_cons.mp q).elim ne_b183_re_200 (fun q => nomatch q)))))
    obtain ⟨cl214, Ar214, q214, S214, M214, H214, G214⟩ := id F213
    refine own_via (T205.setTop (mkF m 260 #[.val (.int p0), .val (.long p1), .second, .val (.int p2), .val (.int p3), .val (.int zn), .val (.int z157), .val (.int z158), .val (.int z160), .val (.int z161), .val (.int z162), .val (.ref b163), .val (.ref b183), .val (.ref b198), .unset, .unset, .unset, .unset] [(.int (1 : Int32)), (.ref b163), (.ref b198)])) (fun t k => X205.iaload hx (j := (1 : Int32)) (v := (.int (1 : Int32))) (by rw [e205]; exact Ar214.1) (State.isArrayOf_alike hZ.alike Ar214.2.1) Ar214.2.2 (inb_of S214 ⟨by decide, by decide⟩) (H214 1 (by rw [S214]; decide)) (g := (mkF m 259 #[.val (.int p0), .val (.long p1), .second, .val (.int p2), .val (.int p3), .val (.int zn), .val (.int z157), .val (.int z158), .val (.int z160), .val (.int z161), .val (.int z162), .val (.ref b163), .val (.ref b183), .val (.ref b198), .unset, .unset, .unset, .unset] [(.int (1 : Int32)), (.ref b183), (.ref b163), (.ref b198)])) rfl rfl (hb hby at_259) _ k) ?_
    refine own_via (T205.setTop (mkF m 262 #[.val (.int p0), .val (.long p1), .second, .val (.int p2), .val (.int p3), .val (.int zn), .val (.int z157), .val (.int z158), .val (.int z160), .val (.int z161), .val (.int z162), .val (.ref b163), .val (.ref b183), .val (.ref b198), .unset, .unset, .unset, .unset] [(.int zn), (.int (1 : Int32)), (.ref b163), (.ref b198)])) (fun t k => XS.iload X205.here hx rfl (hb hby at_260) rfl  k) ?_
    have F216 := (F206.keep K205q (fun q => (List.mem_cons.mp q).elim ne_b163_b198 (fun q => (List.mem_cons.mp q).elim ne_b163_rs_200 (fun q => (List.mem_cons.mp q).elim ne_b163_re_200 (fun q => nomatch q)))))
    obtain ⟨_, _, ⟨T215, L215, k215, n215⟩, -, X215, ⟨Lc215, hQ215, l215, y215, z215⟩, st215⟩ := Jvm.LawKit.callS X205 hx (y := (⟨"com/example/honeyguide/honeyguide/SpansAfterPinLaw", "addIf", "(Lcom/example/honeyguide/honeyguide/Spans;[III)V"⟩ : MethodName)) hown (mvT hZ (hw _ (List.mem_of_getElem? (i := 19) rfl))) (mvT hZ (hw _ (List.mem_of_getElem? (i := 20) rfl))) (mvT hZ (hw _ (List.mem_of_getElem? (i := 21) rfl))) (mvT hZ (hw _ (List.mem_of_getElem? (i := 22) rfl))) (by decide) (backOf (W := 0) (rm3 l Z a0 hw [] b198 b163 (1 : Int32) zn h205 n0 (Nat.le_trans Z0 K207.1) rs_200 z208 z209 f210 re_200 f211 f180 G205_3 G205_1 G205_2 G205_5 G205_4 G205_6 G205_0 F216 gg_b198 gg_rs_200 gg_re_200 hI1 (by omega) ne_b198_rs_200 ne_b198_re_200 nq200_0 (by decide)) hZ (hw _ (List.mem_of_getElem? (i := 22) rfl)) (hw _ (List.mem_of_getElem? (i := 21) rfl)) (by decide) (by decide)) (g := (mkF m 262 #[.val (.int p0), .val (.long p1), .second, .val (.int p2), .val (.int p3), .val (.int zn), .val (.int z157), .val (.int z158), .val (.int z160), .val (.int z161), .val (.int z162), .val (.ref b163), .val (.ref b183), .val (.ref b198), .unset, .unset, .unset, .unset] [(.int zn), (.int (1 : Int32)), (.ref b163), (.ref b198)])) rfl (by rw [hml]; rfl) (argsL := [(.ref b198), (.ref b163), (.int (1 : Int32)), (.int zn)]) (rest := []) (lenOf pd_4 rfl) rfl (by show 2 * 0 + _ ≤ _; exact Nat.le_of_eq rfl) (hb hby at_262) (fun _ _ => ⟨rfl, e205, (by decide : 5 + 0 ≤ _), (by decide : 28 + 0 ≤ _)⟩)
    dsimp only [Pt.U, Pt.locs, Pt.cells, Pt.slots] at X215 l215 y215 z215 st215 hQ215
    rw [y215, z215] at X215
    have X215 : Stand _ _ _ _ _ _ _ _ _ _ T215 L215 5 28 := X215
    obtain ⟨h215, e215⟩ : ∃ h, T215.heap = h := ⟨_, rfl⟩
    rw [e215] at hQ215
    obtain ⟨rfl, N215q, K215q, G215_0, G215_1, G215_2, G215_3, G215_4, G215_5, G215_6⟩ := hQ215
    have N215 : Fr n0 L215 := by rw [l215]; exact Fr.app N205 N215q
    have mq215 : ∀ x ∈ [b198, rs_200, re_200], x ∈ [] ∨ h0.size ≤ x := by
      intro x hx
      rcases List.mem_cons.mp hx with e | hx
      · rw [e]; exact Or.inr sz_b198
      rcases List.mem_cons.mp hx with e | hx
      · rw [e]; exact Or.inr sz_rs_200
      rw [List.mem_singleton.mp hx]; exact Or.inr sz_re_200
    have K217 : Keep h0 h215 [] := K207.trans K215q mq215
    obtain ⟨z218, hz218⟩ : ∃ z : Int32, z = (own_ih f210 z208 z209 (1 : Int32) zn (f180 (1 : Int32).toInt.toNat)) := ⟨_, rfl⟩
    rw [← hz218] at G215_1
    obtain ⟨z219, hz219⟩ : ∃ z : Int32, z = (own_ic z209 (1 : Int32) zn) := ⟨_, rfl⟩
    rw [← hz219] at G215_2
    obtain ⟨f220, hf220⟩ : ∃ g : Nat → Int32, g = (own_if f210 f210 z208 z209 (1 : Int32) zn (f180 (1 : Int32).toInt.toNat) (f180 (1 : Int32).toInt.toNat)) := ⟨_, rfl⟩
    rw [← hf220] at G215_5
    obtain ⟨f221, hf221⟩ : ∃ g : Nat → Int32, g = (own_if f211 f210 z208 z209 (1 : Int32) zn (f180 (1 : Int32).toInt.toNat) ((f180 (1 : Int32).toInt.toNat) + (1 : Int32))) := ⟨_, rfl⟩
    rw [← hf221] at G215_6
    refine own_via (T215.setTop (mkF m 265 #[.val (.int p0), .val (.long p1), .second, .val (.int p2), .val (.int p3), .val (.int zn), .val (.int z157), .val (.int z158), .val (.int z160), .val (.int z161), .val (.int z162), .val (.ref b163), .val (.ref b183), .val (.ref b198), .unset, .unset, .unset, .unset] [])) (fun t k => st215 t k) ?_
    have hs2 := own_step hI1 (by omega) hz218 hz219 hf220
    have hI2 := hs2.1
    have hc2 := hs2.2.1
    have hq2 := hs2.2.2 
    have hcb2 : z219.toInt ≤ 2 := by split at hc2 <;> omega
    refine own_via (T215.setTop (mkF m 267 #[.val (.int p0), .val (.long p1), .second, .val (.int p2), .val (.int p3), .val (.int zn), .val (.int z157), .val (.int z158), .val (.int z160), .val (.int z161), .val (.int z162), .val (.ref b163), .val (.ref b183), .val (.ref b198), .unset, .unset, .unset, .unset] [(.ref b198)])) (fun t k => XS.aload X215.here hx rfl (hb hby at_265) rfl rfl k) ?_
    refine own_via (T215.setTop (mkF m 269 #[.val (.int p0), .val (.long p1), .second, .val (.int p2), .val (.int p3), .val (.int zn), .val (.int z157), .val (.int z158), .val (.int z160), .val (.int z161), .val (.int z162), .val (.ref b163), .val (.ref b183), .val (.ref b198), .unset, .unset, .unset, .unset] [(.ref b163), (.ref b198)])) (fun t k => XS.aload X215.here hx rfl (hb hby at_267) rfl rfl k) ?_
    refine own_via (T215.setTop (mkF m 271 #[.val (.int p0), .val (.long p1), .second, .val (.int p2), .val (.int p3), .val (.int zn), .val (.int z157), .val (.int z158), .val (.int z160), .val (.int z161), .val (.int z162), .val (.ref b163), .val (.ref b183), .val (.ref b198), .unset, .unset, .unset, .unset] [(.ref b183), (.ref b163), (.ref b198)])) (fun t k => XS.aload X215.here hx rfl (hb hby at_269) rfl rfl k) ?_
    refine own_via (T215.setTop (mkF m 272 #[.val (.int p0), .val (.long p1), .second, .val (.int p2), .val (.int p3), .val (.int zn), .val (.int z157), .val (.int z158), .val (.int z160), .val (.int z161), .val (.int z162), .val (.ref b163), .val (.ref b183), .val (.ref b198), .unset, .unset, .unset, .unset] [(.int (2 : Int32)), (.ref b183), (.ref b163), (.ref b198)])) (fun t k => XS.iconst X215.here hx rfl (hb hby at_271) k) ?_
    have F223 := (F213.keep K215q (fun q => (List.mem_cons.mp q).elim ne_b183_b198 (fun q => (List.mem_cons.mp q).elim ne_b183_rs_200 (fun q => (List.mem_cons.mp q).elim ne_b183_re_200 (fun q => nomatch q)))))
    obtain ⟨cl224, Ar224, q224, S224, M224, H224, G224⟩ := id F223
    refine own_via (T215.setTop (mkF m 273 #[.val (.int p0), .val (.long p1), .second, .val (.int p2), .val (.int p3), .val (.int zn), .val (.int z157), .val (.int z158), .val (.int z160), .val (.int z161), .val (.int z162), .val (.ref b163), .val (.ref b183), .val (.ref b198), .unset, .unset, .unset, .unset] [(.int (2 : Int32)), (.ref b163), (.ref b198)])) (fun t k => X215.iaload hx (j := (2 : Int32)) (v := (.int (2 : Int32))) (by rw [e215]; exact Ar224.1) (State.isArrayOf_alike hZ.alike Ar224.2.1) Ar224.2.2 (inb_of S224 ⟨by decide, by decide⟩) (H224 2 (by rw [S224]; decide)) (g := (mkF m 272 #[.val (.int p0), .val (.long p1), .second, .val (.int p2), .val (.int p3), .val (.int zn), .val (.int z157), .val (.int z158), .val (.int z160), .val (.int z161), .val (.int z162), .val (.ref b163), .val (.ref b183), .val (.ref b198), .unset, .unset, .unset, .unset] [(.int (2 : Int32)), (.ref b183), (.ref b163), (.ref b198)])) rfl rfl (hb hby at_272) _ k) ?_
    refine own_via (T215.setTop (mkF m 275 #[.val (.int p0), .val (.long p1), .second, .val (.int p2), .val (.int p3), .val (.int zn), .val (.int z157), .val (.int z158), .val (.int z160), .val (.int z161), .val (.int z162), .val (.ref b163), .val (.ref b183), .val (.ref b198), .unset, .unset, .unset, .unset] [(.int zn), (.int (2 : Int32)), (.ref b163), (.ref b198)])) (fun t k => XS.iload X215.here hx rfl (hb hby at_273) rfl  k) ?_
    have F226 := (F216.keep K215q (fun q => (List.mem_cons.mp q).elim ne_b163_b198 (fun q => (List.mem_cons.mp q).elim ne_b163_rs_200 (fun q => (List.mem_cons.mp q).elim ne_b163_re_200 (fun q => nomatch q)))))
    obtain ⟨_, _, ⟨T225, L225, k225, n225⟩, -, X225, ⟨Lc225, hQ225, l225, y225, z225⟩, st225⟩ := Jvm.LawKit.callS X215 hx (y := (⟨"com/example/honeyguide/honeyguide/SpansAfterPinLaw", "addIf", "(Lcom/example/honeyguide/honeyguide/Spans;[III)V"⟩ : MethodName)) hown (mvT hZ (hw _ (List.mem_of_getElem? (i := 19) rfl))) (mvT hZ (hw _ (List.mem_of_getElem? (i := 20) rfl))) (mvT hZ (hw _ (List.mem_of_getElem? (i := 21) rfl))) (mvT hZ (hw _ (List.mem_of_getElem? (i := 22) rfl))) (by decide) (backOf (W := 0) (rm3 l Z a0 hw [] b198 b163 (2 : Int32) zn h215 n0 (Nat.le_trans Z0 K217.1) rs_200 z218 z219 f220 re_200 f221 f180 G215_3 G215_1 G215_2 G215_5 G215_4 G215_6 G215_0 F226 gg_b198 gg_rs_200 gg_re_200 hI2 (by omega) ne_b198_rs_200 ne_b198_re_200 nq200_0 (by decide)) hZ (hw _ (List.mem_of_getElem? (i := 22) rfl)) (hw _ (List.mem_of_getElem? (i := 21) rfl)) (by decide) (by decide)) (g := (mkF m 275 #[.val (.int p0), .val (.long p1), .second, .val (.int p2), .val (.int p3), .val (.int zn), .val (.int z157), .val (.int z158), .val (.int z160), .val (.int z161), .val (.int z162), .val (.ref b163), .val (.ref b183), .val (.ref b198), .unset, .unset, .unset, .unset] [(.int zn), (.int (2 : Int32)), (.ref b163), (.ref b198)])) rfl (by rw [hml]; rfl) (argsL := [(.ref b198), (.ref b163), (.int (2 : Int32)), (.int zn)]) (rest := []) (lenOf pd_4 rfl) rfl (by show 2 * 0 + _ ≤ _; exact Nat.le_of_eq rfl) (hb hby at_275) (fun _ _ => ⟨rfl, e215, (by decide : 5 + 0 ≤ _), (by decide : 28 + 0 ≤ _)⟩)
    dsimp only [Pt.U, Pt.locs, Pt.cells, Pt.slots] at X225 l225 y225 z225 st225 hQ225
    rw [y225, z225] at X225
    have X225 : Stand _ _ _ _ _ _ _ _ _ _ T225 L225 5 28 := X225
    obtain ⟨h225, e225⟩ : ∃ h, T225.heap = h := ⟨_, rfl⟩
    rw [e225] at hQ225
    obtain ⟨rfl, N225q, K225q, G225_0, G225_1, G225_2, G225_3, G225_4, G225_5, G225_6⟩ := hQ225
    have N225 : Fr n0 L225 := by rw [l225]; exact Fr.app N215 N225q
    have mq225 : ∀ x ∈ [b198, rs_200, re_200], x ∈ [] ∨ h0.size ≤ x := by
      intro x hx
      rcases List.mem_cons.mp hx with e | hx
      · rw [e]; exact Or.inr sz_b198
      rcases List.mem_cons.mp hx with e | hx
      · rw [e]; exact Or.inr sz_rs_200
      rw [List.mem_singleton.mp hx]; exact Or.inr sz_re_200
    have K227 : Keep h0 h225 [] := K217.trans K225q mq225
    obtain ⟨z228, hz228⟩ : ∃ z : Int32, z = (own_ih f220 z218 z219 (2 : Int32) zn (f180 (2 : Int32).toInt.toNat)) := ⟨_, rfl⟩
    rw [← hz228] at G225_1
    obtain ⟨z229, hz229⟩ : ∃ z : Int32, z = (own_ic z219 (2 : Int32) zn) := ⟨_, rfl⟩
    rw [← hz229] at G225_2
    obtain ⟨f230, hf230⟩ : ∃ g : Nat → Int32, g = (own_if f220 f220 z218 z219 (2 : Int32) zn (f180 (2 : Int32).toInt.toNat) (f180 (2 : Int32).toInt.toNat)) := ⟨_, rfl⟩
    rw [← hf230] at G225_5
    obtain ⟨f231, hf231⟩ : ∃ g : Nat → Int32, g = (own_if f221 f220 z218 z219 (2 : Int32) zn (f180 (2 : Int32).toInt.toNat) ((f180 (2 : Int32).toInt.toNat) + (1 : Int32))) := ⟨_, rfl⟩
    rw [← hf231] at G225_6
    refine own_via (T225.setTop (mkF m 278 #[.val (.int p0), .val (.long p1), .second, .val (.int p2), .val (.int p3), .val (.int zn), .val (.int z157), .val (.int z158), .val (.int z160), .val (.int z161), .val (.int z162), .val (.ref b163), .val (.ref b183), .val (.ref b198), .unset, .unset, .unset, .unset] [])) (fun t k => st225 t k) ?_
    have hs3 := own_step hI2 (by omega) hz228 hz229 hf230
    have hI3 := hs3.1
    have hc3 := hs3.2.1
    have hq3 := hs3.2.2 
    have hcb3 : z229.toInt ≤ 3 := by split at hc3 <;> omega
    refine own_via (T225.setTop (mkF m 280 #[.val (.int p0), .val (.long p1), .second, .val (.int p2), .val (.int p3), .val (.int zn), .val (.int z157), .val (.int z158), .val (.int z160), .val (.int z161), .val (.int z162), .val (.ref b163), .val (.ref b183), .val (.ref b198), .unset, .unset, .unset, .unset] [(.ref b198)])) (fun t k => XS.aload X225.here hx rfl (hb hby at_278) rfl rfl k) ?_
    refine own_via (T225.setTop (mkF m 282 #[.val (.int p0), .val (.long p1), .second, .val (.int p2), .val (.int p3), .val (.int zn), .val (.int z157), .val (.int z158), .val (.int z160), .val (.int z161), .val (.int z162), .val (.ref b163), .val (.ref b183), .val (.ref b198), .unset, .unset, .unset, .unset] [(.ref b163), (.ref b198)])) (fun t k => XS.aload X225.here hx rfl (hb hby at_280) rfl rfl k) ?_
    refine own_via (T225.setTop (mkF m 284 #[.val (.int p0), .val (.long p1), .second, .val (.int p2), .val (.int p3), .val (.int zn), .val (.int z157), .val (.int z158), .val (.int z160), .val (.int z161), .val (.int z162), .val (.ref b163), .val (.ref b183), .val (.ref b198), .unset, .unset, .unset, .unset] [(.ref b183), (.ref b163), (.ref b198)])) (fun t k => XS.aload X225.here hx rfl (hb hby at_282) rfl rfl k) ?_
    refine own_via (T225.setTop (mkF m 285 #[.val (.int p0), .val (.long p1), .second, .val (.int p2), .val (.int p3), .val (.int zn), .val (.int z157), .val (.int z158), .val (.int z160), .val (.int z161), .val (.int z162), .val (.ref b163), .val (.ref b183), .val (.ref b198), .unset, .unset, .unset, .unset] [(.int (3 : Int32)), (.ref b183), (.ref b163), (.ref b198)])) (fun t k => XS.iconst X225.here hx rfl (hb hby at_284) k) ?_
    have F233 := (F223.keep K225q (fun q => (List.mem_cons.mp q).elim ne_b183_b198 (fun q => (List.mem_cons.mp q).elim ne_b183_rs_200 (fun q => (List.mem_cons.mp q).elim ne_b183_re_200 (fun q => nomatch q)))))
    obtain ⟨cl234, Ar234, q234, S234, M234, H234, G234⟩ := id F233
    refine own_via (T225.setTop (mkF m 286 #[.val (.int p0), .val (.long p1), .second, .val (.int p2), .val (.int p3), .val (.int zn), .val (.int z157), .val (.int z158), .val (.int z160), .val (.int z161), .val (.int z162), .val (.ref b163), .val (.ref b183), .val (.ref b198), .unset, .unset, .unset, .unset] [(.int (3 : Int32)), (.ref b163), (.ref b198)])) (fun t k => X225.iaload hx (j := (3 : Int32)) (v := (.int (3 : Int32))) (by rw [e225]; exact Ar234.1) (State.isArrayOf_alike hZ.alike Ar234.2.1) Ar234.2.2 (inb_of S234 ⟨by decide, by decide⟩) (H234 3 (by rw [S234]; decide)) (g := (mkF m 285 #[.val (.int p0), .val (.long p1), .second, .val (.int p2), .val (.int p3), .val (.int zn), .val (.int z157), .val (.int z158), .val (.int z160), .val (.int z161), .val (.int z162), .val (.ref b163), .val (.ref b183), .val (.ref b198), .unset, .unset, .unset, .unset] [(.int (3 : Int32)), (.ref b183), (.ref b163), (.ref b198)])) rfl rfl (hb hby at_285) _ k) ?_
    refine own_via (T225.setTop (mkF m 288 #[.val (.int p0), .val (.long p1), .second, .val (.int p2), .val (.int p3), .val (.int zn), .val (.int z157), .val (.int z158), .val (.int z160), .val (.int z161), .val (.int z162), .val (.ref b163), .val (.ref b183), .val (.ref b198), .unset, .unset, .unset, .unset] [(.int zn), (.int (3 : Int32)), (.ref b163), (.ref b198)])) (fun t k => XS.iload X225.here hx rfl (hb hby at_286) rfl  k) ?_
    have F236 := (F226.keep K225q (fun q => (List.mem_cons.mp q).elim ne_b163_b198 (fun q => (List.mem_cons.mp q).elim ne_b163_rs_200 (fun q => (List.mem_cons.mp q).elim ne_b163_re_200 (fun q => nomatch q)))))
    obtain ⟨_, _, ⟨T235, L235, k235, n235⟩, -, X235, ⟨Lc235, hQ235, l235, y235, z235⟩, st235⟩ := Jvm.LawKit.callS X225 hx (y := (⟨"com/example/honeyguide/honeyguide/SpansAfterPinLaw", "addIf", "(Lcom/example/honeyguide/honeyguide/Spans;[III)V"⟩ : MethodName)) hown (mvT hZ (hw _ (List.mem_of_getElem? (i := 19) rfl))) (mvT hZ (hw _ (List.mem_of_getElem? (i := 20) rfl))) (mvT hZ (hw _ (List.mem_of_getElem? (i := 21) rfl))) (mvT hZ (hw _ (List.mem_of_getElem? (i := 22) rfl))) (by decide) (backOf (W := 0) (rm3 l Z a0 hw [] b198 b163 (3 : Int32) zn h225 n0 (Nat.le_trans Z0 K227.1) rs_200 z228 z229 f230 re_200 f231 f180 G225_3 G225_1 G225_2 G225_5 G225_4 G225_6 G225_0 F236 gg_b198 gg_rs_200 gg_re_200 hI3 (by omega) ne_b198_rs_200 ne_b198_re_200 nq200_0 (by decide)) hZ (hw _ (List.mem_of_getElem? (i := 22) rfl)) (hw _ (List.mem_of_getElem? (i := 21) rfl)) (by decide) (by decide)) (g := (mkF m 288 #[.val (.int p0), .val (.long p1), .second, .val (.int p2), .val (.int p3), .val (.int zn), .val (.int z157), .val (.int z158), .val (.int z160), .val (.int z161), .val (.int z162), .val (.ref b163), .val (.ref b183), .val (.ref b198), .unset, .unset, .unset, .unset] [(.int zn), (.int (3 : Int32)), (.ref b163), (.ref b198)])) rfl (by rw [hml]; rfl) (argsL := [(.ref b198), (.ref b163), (.int (3 : Int32)), (.int zn)]) (rest := []) (lenOf pd_4 rfl) rfl (by show 2 * 0 + _ ≤ _; exact Nat.le_of_eq rfl) (hb hby at_288) (fun _ _ => ⟨rfl, e225, (by decide : 5 + 0 ≤ _), (by decide : 28 + 0 ≤ _)⟩)
    dsimp only [Pt.U, Pt.locs, Pt.cells, Pt.slots] at X235 l235 y235 z235 st235 hQ235
    rw [y235, z235] at X235
    have X235 : Stand _ _ _ _ _ _ _ _ _ _ T235 L235 5 28 := X235
    obtain ⟨h235, e235⟩ : ∃ h, T235.heap = h := ⟨_, rfl⟩
    rw [e235] at hQ235
    obtain ⟨rfl, N235q, K235q, G235_0, G235_1, G235_2, G235_3, G235_4, G235_5, G235_6⟩ := hQ235
    have N235 : Fr n0 L235 := by rw [l235]; exact Fr.app N225 N235q
    have mq235 : ∀ x ∈ [b198, rs_200, re_200], x ∈ [] ∨ h0.size ≤ x := by
      intro x hx
      rcases List.mem_cons.mp hx with e | hx
      · rw [e]; exact Or.inr sz_b198
      rcases List.mem_cons.mp hx with e | hx
      · rw [e]; exact Or.inr sz_rs_200
      rw [List.mem_singleton.mp hx]; exact Or.inr sz_re_200
    have K237 : Keep h0 h235 [] := K227.trans K235q mq235
    obtain ⟨z238, hz238⟩ : ∃ z : Int32, z = (own_ih f230 z228 z229 (3 : Int32) zn (f180 (3 : Int32).toInt.toNat)) := ⟨_, rfl⟩
    rw [← hz238] at G235_1
    obtain ⟨z239, hz239⟩ : ∃ z : Int32, z = (own_ic z229 (3 : Int32) zn) := ⟨_, rfl⟩
    rw [← hz239] at G235_2
    obtain ⟨f240, hf240⟩ : ∃ g : Nat → Int32, g = (own_if f230 f230 z228 z229 (3 : Int32) zn (f180 (3 : Int32).toInt.toNat) (f180 (3 : Int32).toInt.toNat)) := ⟨_, rfl⟩
    rw [← hf240] at G235_5
    obtain ⟨f241, hf241⟩ : ∃ g : Nat → Int32, g = (own_if f231 f230 z228 z229 (3 : Int32) zn (f180 (3 : Int32).toInt.toNat) ((f180 (3 : Int32).toInt.toNat) + (1 : Int32))) := ⟨_, rfl⟩
    rw [← hf241] at G235_6
    refine own_via (T235.setTop (mkF m 291 #[.val (.int p0), .val (.long p1), .second, .val (.int p2), .val (.int p3), .val (.int zn), .val (.int z157), .val (.int z158), .val (.int z160), .val (.int z161), .val (.int z162), .val (.ref b163), .val (.ref b183), .val (.ref b198), .unset, .unset, .unset, .unset] [])) (fun t k => st235 t k) ?_
    have hs4 := own_step hI3 (by omega) hz238 hz239 hf240
    have hI4 := hs4.1
    have hc4 := hs4.2.1
    have hq4 := hs4.2.2 
    refine own_via (T235.setTop (mkF m 293 #[.val (.int p0), .val (.long p1), .second, .val (.int p2), .val (.int p3), .val (.int zn), .val (.int z157), .val (.int z158), .val (.int z160), .val (.int z161), .val (.int z162), .val (.ref b163), .val (.ref b183), .val (.ref b198), .unset, .unset, .unset, .unset] [(.int z158)])) (fun t k => XS.iload X235.here hx rfl (hb hby at_291) rfl  k) ?_
    refine own_via (T235.setTop (mkF m 294 #[.val (.int p0), .val (.long p1), .second, .val (.int p2), .val (.int p3), .val (.int zn), .val (.int z157), .val (.int z158), .val (.int z160), .val (.int z161), .val (.int z162), .val (.ref b163), .val (.ref b183), .val (.ref b198), .unset, .unset, .unset, .unset] [(.long (z158.toInt64))])) (fun t k => XS.i2l X235.here hx rfl (hb hby at_293) rfl k) ?_
    refine own_via (T235.setTop (mkF m 295 #[.val (.int p0), .val (.long p1), .second, .val (.int p2), .val (.int p3), .val (.int zn), .val (.int z157), .val (.int z158), .val (.int z160), .val (.int z161), .val (.int z162), .val (.ref b163), .val (.ref b183), .val (.ref b198), .unset, .unset, .unset, .unset] [(.int p2), (.long (z158.toInt64))])) (fun t k => XS.iloadN X235.here hx rfl (hb hby at_294) rfl  k) ?_
    refine own_via (T235.setTop (mkF m 297 #[.val (.int p0), .val (.long p1), .second, .val (.int p2), .val (.int p3), .val (.int zn), .val (.int z157), .val (.int z158), .val (.int z160), .val (.int z161), .val (.int z162), .val (.ref b163), .val (.ref b183), .val (.ref b198), .unset, .unset, .unset, .unset] [(.int (65536 : Int32)), (.int p2), (.long (z158.toInt64))])) (fun t k => X235.ldcInt hx hown (mvT hZ (hw _ (List.mem_of_getElem? (i := 23) rfl))) (g := (mkF m 295 #[.val (.int p0), .val (.long p1), .second, .val (.int p2), .val (.int p3), .val (.int zn), .val (.int z157), .val (.int z158), .val (.int z160), .val (.int z161), .val (.int z162), .val (.ref b163), .val (.ref b183), .val (.ref b198), .unset, .unset, .unset, .unset] [(.int p2), (.long (z158.toInt64))])) rfl (hb hby at_295) _ k) ?_
    refine own_via (T235.setTop (mkF m 298 #[.val (.int p0), .val (.long p1), .second, .val (.int p2), .val (.int p3), .val (.int zn), .val (.int z157), .val (.int z158), .val (.int z160), .val (.int z161), .val (.int z162), .val (.ref b163), .val (.ref b183), .val (.ref b198), .unset, .unset, .unset, .unset] [(.int (p2 % (65536 : Int32))), (.long (z158.toInt64))])) (fun t k => Jvm.RoadKit.iremM X235 hx rfl (hb hby at_297) rfl (by decide) k) ?_
    refine own_via (T235.setTop (mkF m 299 #[.val (.int p0), .val (.long p1), .second, .val (.int p2), .val (.int p3), .val (.int zn), .val (.int z157), .val (.int z158), .val (.int z160), .val (.int z161), .val (.int z162), .val (.ref b163), .val (.ref b183), .val (.ref b198), .unset, .unset, .unset, .unset] [(.long ((p2 % (65536 : Int32)).toInt64)), (.long (z158.toInt64))])) (fun t k => XS.i2l X235.here hx rfl (hb hby at_298) rfl k) ?_
    refine own_via (T235.setTop (mkF m 300 #[.val (.int p0), .val (.long p1), .second, .val (.int p2), .val (.int p3), .val (.int zn), .val (.int z157), .val (.int z158), .val (.int z160), .val (.int z161), .val (.int z162), .val (.ref b163), .val (.ref b183), .val (.ref b198), .unset, .unset, .unset, .unset] [(.long ((z158.toInt64) + ((p2 % (65536 : Int32)).toInt64)))])) (fun t k => XS.ladd X235.here hx rfl (hb hby at_299) rfl k) ?_
    obtain ⟨z242, hz242⟩ : ∃ z : Int64, z = ((z158.toInt64) + ((p2 % (65536 : Int32)).toInt64)) := ⟨_, rfl⟩
    refine own_via (T235.setTop (mkF m 302 #[.val (.int p0), .val (.long p1), .second, .val (.int p2), .val (.int p3), .val (.int zn), .val (.int z157), .val (.int z158), .val (.int z160), .val (.int z161), .val (.int z162), .val (.ref b163), .val (.ref b183), .val (.ref b198), .val (.long z242), .second, .unset, .unset] [])) (fun t k => XS.lstore X235.here hx rfl (hb hby at_300) rfl (l' := #[.val (.int p0), .val (.long p1), .second, .val (.int p2), .val (.int p3), .val (.int zn), .val (.int z157), .val (.int z158), .val (.int z160), .val (.int z161), .val (.int z162), .val (.ref b163), .val (.ref b183), .val (.ref b198), .val (.long z242), .second, .unset, .unset]) (by rw [hz242]; rfl) k) ?_
    refine own_via (T235.setTop (mkF m 304 #[.val (.int p0), .val (.long p1), .second, .val (.int p2), .val (.int p3), .val (.int zn), .val (.int z157), .val (.int z158), .val (.int z160), .val (.int z161), .val (.int z162), .val (.ref b163), .val (.ref b183), .val (.ref b198), .val (.long z242), .second, .unset, .unset] [(.int p3)])) (fun t k => XS.iload X235.here hx rfl (hb hby at_302) rfl  k) ?_
    refine own_via (T235.setTop (mkF m 305 #[.val (.int p0), .val (.long p1), .second, .val (.int p2), .val (.int p3), .val (.int zn), .val (.int z157), .val (.int z158), .val (.int z160), .val (.int z161), .val (.int z162), .val (.ref b163), .val (.ref b183), .val (.ref b198), .val (.long z242), .second, .unset, .unset] [(.int (1 : Int32)), (.int p3)])) (fun t k => XS.iconst X235.here hx rfl (hb hby at_304) k) ?_
    refine own_via (T235.setTop (mkF m 306 #[.val (.int p0), .val (.long p1), .second, .val (.int p2), .val (.int p3), .val (.int zn), .val (.int z157), .val (.int z158), .val (.int z160), .val (.int z161), .val (.int z162), .val (.ref b163), .val (.ref b183), .val (.ref b198), .val (.long z242), .second, .unset, .unset] [(.int (p3 &&& (1 : Int32)))])) (fun t k => XS.iand X235.here hx rfl (hb hby at_305) rfl k) ?_
    obtain ⟨z243, hz243⟩ : ∃ z : Int32, z = (if (p3 &&& (1 : Int32)) = (0 : Int32) then p2 else (if z242 < (-2147483648 : Int64) then p2 else (if (2147483647 : Int64) < z242 then p2 else (z242.toInt32)))) := ⟨_, rfl⟩
    refine own_via (T235.setTop (mkF m 334 #[.val (.int p0), .val (.long p1), .second, .val (.int p2), .val (.int p3), .val (.int zn), .val (.int z157), .val (.int z158), .val (.int z160), .val (.int z161), .val (.int z162), .val (.ref b163), .val (.ref b183), .val (.ref b198), .val (.long z242), .second, .unset, .unset] [(.int z243)])) (fun t k => ?_) ?_
    · skip
      by_cases hj306_244 : (p3 &&& (1 : Int32)) = (0 : Int32)
      · refine XS.ifYes X235.here hx rfl (pc0 := 306) (pc' := 327) rfl (hb hby at_306) rfl ((if0 _ _).trans (teq hj306_244).1) (by decide) (by decide) (?_ : Steps p.tables e below (T235.setTop (mkF m 327 #[.val (.int p0), .val (.long p1), .second, .val (.int p2), .val (.int p3), .val (.int zn), .val (.int z157), .val (.int z158), .val (.int z160), .val (.int z161), .val (.int z162), .val (.ref b163), .val (.ref b183), .val (.ref b198), .val (.long z242), .second, .unset, .unset] [])) t)
        refine XS.iloadN X235.here hx rfl (hb hby at_327) rfl  (?_ : Steps p.tables e below (T235.setTop (mkF m 328 #[.val (.int p0), .val (.long p1), .second, .val (.int p2), .val (.int p3), .val (.int zn), .val (.int z157), .val (.int z158), .val (.int z160), .val (.int z161), .val (.int z162), .val (.ref b163), .val (.ref b183), .val (.ref b198), .val (.long z242), .second, .unset, .unset] [(.int p2)])) t)
        refine XS.goto X235.here hx rfl (pc0 := 328) (pc' := 334) rfl (hb hby at_328) (by decide) (by decide) (?_ : Steps p.tables e below (T235.setTop (mkF m 334 #[.val (.int p0), .val (.long p1), .second, .val (.int p2), .val (.int p3), .val (.int zn), .val (.int z157), .val (.int z158), .val (.int z160), .val (.int z161), .val (.int z162), .val (.ref b163), .val (.ref b183), .val (.ref b198), .val (.long z242), .second, .unset, .unset] [(.int p2)])) t)
        have q_z243 := (hz243.trans (if_pos hj306_244))
        subst q_z243
        exact k
      · refine XS.ifNo X235.here hx rfl (hb hby at_306) rfl ((if0 _ _).trans (feq hj306_244).1) (?_ : Steps p.tables e below (T235.setTop (mkF m 309 #[.val (.int p0), .val (.long p1), .second, .val (.int p2), .val (.int p3), .val (.int zn), .val (.int z157), .val (.int z158), .val (.int z160), .val (.int z161), .val (.int z162), .val (.ref b163), .val (.ref b183), .val (.ref b198), .val (.long z242), .second, .unset, .unset] [])) t)
        refine XS.lload X235.here hx rfl (hb hby at_309) rfl  (?_ : Steps p.tables e below (T235.setTop (mkF m 311 #[.val (.int p0), .val (.long p1), .second, .val (.int p2), .val (.int p3), .val (.int zn), .val (.int z157), .val (.int z158), .val (.int z160), .val (.int z161), .val (.int z162), .val (.ref b163), .val (.ref b183), .val (.ref b198), .val (.long z242), .second, .unset, .unset] [(.long z242)])) t)
        refine X235.ldc2Long hx hown (mvT hZ (hw _ (List.mem_of_getElem? (i := 54) rfl))) (g := (mkF m 311 #[.val (.int p0), .val (.long p1), .second, .val (.int p2), .val (.int p3), .val (.int zn), .val (.int z157), .val (.int z158), .val (.int z160), .val (.int z161), .val (.int z162), .val (.ref b163), .val (.ref b183), .val (.ref b198), .val (.long z242), .second, .unset, .unset] [(.long z242)])) rfl (hb hby at_311) _ (?_ : Steps p.tables e below (T235.setTop (mkF m 314 #[.val (.int p0), .val (.long p1), .second, .val (.int p2), .val (.int p3), .val (.int zn), .val (.int z157), .val (.int z158), .val (.int z160), .val (.int z161), .val (.int z162), .val (.ref b163), .val (.ref b183), .val (.ref b198), .val (.long z242), .second, .unset, .unset] [(.long (-2147483648 : Int64)), (.long z242)])) t)
        refine XS.lcmp X235.here hx rfl (hb hby at_314) rfl (?_ : Steps p.tables e below (T235.setTop (mkF m 315 #[.val (.int p0), .val (.long p1), .second, .val (.int p2), .val (.int p3), .val (.int zn), .val (.int z157), .val (.int z158), .val (.int z160), .val (.int z161), .val (.int z162), .val (.ref b163), .val (.ref b183), .val (.ref b198), .val (.long z242), .second, .unset, .unset] [(.int (lcmpW z242 (-2147483648 : Int64)))])) t)
        by_cases hj315_245 : z242 < (-2147483648 : Int64)
        · refine XS.ifYes X235.here hx rfl (pc0 := 315) (pc' := 327) rfl (hb hby at_315) rfl ((if0 _ _).trans (tlt ((lw_lt z242 (-2147483648 : Int64)).mpr hj315_245)).1) (by decide) (by decide) (?_ : Steps p.tables e below (T235.setTop (mkF m 327 #[.val (.int p0), .val (.long p1), .second, .val (.int p2), .val (.int p3), .val (.int zn), .val (.int z157), .val (.int z158), .val (.int z160), .val (.int z161), .val (.int z162), .val (.ref b163), .val (.ref b183), .val (.ref b198), .val (.long z242), .second, .unset, .unset] [])) t)
          refine XS.iloadN X235.here hx rfl (hb hby at_327) rfl  (?_ : Steps p.tables e below (T235.setTop (mkF m 328 #[.val (.int p0), .val (.long p1), .second, .val (.int p2), .val (.int p3), .val (.int zn), .val (.int z157), .val (.int z158), .val (.int z160), .val (.int z161), .val (.int z162), .val (.ref b163), .val (.ref b183), .val (.ref b198), .val (.long z242), .second, .unset, .unset] [(.int p2)])) t)
          refine XS.goto X235.here hx rfl (pc0 := 328) (pc' := 334) rfl (hb hby at_328) (by decide) (by decide) (?_ : Steps p.tables e below (T235.setTop (mkF m 334 #[.val (.int p0), .val (.long p1), .second, .val (.int p2), .val (.int p3), .val (.int zn), .val (.int z157), .val (.int z158), .val (.int z160), .val (.int z161), .val (.int z162), .val (.ref b163), .val (.ref b183), .val (.ref b198), .val (.long z242), .second, .unset, .unset] [(.int p2)])) t)
          have q_z243 := ((hz243.trans (if_neg hj306_244)).trans (if_pos hj315_245))
          subst q_z243
          exact k
        · refine XS.ifNo X235.here hx rfl (hb hby at_315) rfl ((if0 _ _).trans (flt (fun q => hj315_245 ((lw_lt z242 (-2147483648 : Int64)).mp q))).1) (?_ : Steps p.tables e below (T235.setTop (mkF m 318 #[.val (.int p0), .val (.long p1), .second, .val (.int p2), .val (.int p3), .val (.int zn), .val (.int z157), .val (.int z158), .val (.int z160), .val (.int z161), .val (.int z162), .val (.ref b163), .val (.ref b183), .val (.ref b198), .val (.long z242), .second, .unset, .unset] [])) t)
          refine XS.lload X235.here hx rfl (hb hby at_318) rfl  (?_ : Steps p.tables e below (T235.setTop (mkF m 320 #[.val (.int p0), .val (.long p1), .second, .val (.int p2), .val (.int p3), .val (.int zn), .val (.int z157), .val (.int z158), .val (.int z160), .val (.int z161), .val (.int z162), .val (.ref b163), .val (.ref b183), .val (.ref b198), .val (.long z242), .second, .unset, .unset] [(.long z242)])) t)
          refine X235.ldc2Long hx hown (mvT hZ (hw _ (List.mem_of_getElem? (i := 1) rfl))) (g := (mkF m 320 #[.val (.int p0), .val (.long p1), .second, .val (.int p2), .val (.int p3), .val (.int zn), .val (.int z157), .val (.int z158), .val (.int z160), .val (.int z161), .val (.int z162), .val (.ref b163), .val (.ref b183), .val (.ref b198), .val (.long z242), .second, .unset, .unset] [(.long z242)])) rfl (hb hby at_320) _ (?_ : Steps p.tables e below (T235.setTop (mkF m 323 #[.val (.int p0), .val (.long p1), .second, .val (.int p2), .val (.int p3), .val (.int zn), .val (.int z157), .val (.int z158), .val (.int z160), .val (.int z161), .val (.int z162), .val (.ref b163), .val (.ref b183), .val (.ref b198), .val (.long z242), .second, .unset, .unset] [(.long (2147483647 : Int64)), (.long z242)])) t)
          refine XS.lcmp X235.here hx rfl (hb hby at_323) rfl (?_ : Steps p.tables e below (T235.setTop (mkF m 324 #[.val (.int p0), .val (.long p1), .second, .val (.int p2), .val (.int p3), .val (.int zn), .val (.int z157), .val (.int z158), .val (.int z160), .val (.int z161), .val (.int z162), .val (.ref b163), .val (.ref b183), .val (.ref b198), .val (.long z242), .second, .unset, .unset] [(.int (lcmpW z242 (2147483647 : Int64)))])) t)
          by_cases hj324_246 : (2147483647 : Int64) < z242
          · refine XS.ifNo X235.here hx rfl (hb hby at_324) rfl ((if0 _ _).trans (tlt ((lw_gt z242 (2147483647 : Int64)).mpr hj324_246)).2.2.2) (?_ : Steps p.tables e below (T235.setTop (mkF m 327 #[.val (.int p0), .val (.long p1), .second, .val (.int p2), .val (.int p3), .val (.int zn), .val (.int z157), .val (.int z158), .val (.int z160), .val (.int z161), .val (.int z162), .val (.ref b163), .val (.ref b183), .val (.ref b198), .val (.long z242), .second, .unset, .unset] [])) t)
            refine XS.iloadN X235.here hx rfl (hb hby at_327) rfl  (?_ : Steps p.tables e below (T235.setTop (mkF m 328 #[.val (.int p0), .val (.long p1), .second, .val (.int p2), .val (.int p3), .val (.int zn), .val (.int z157), .val (.int z158), .val (.int z160), .val (.int z161), .val (.int z162), .val (.ref b163), .val (.ref b183), .val (.ref b198), .val (.long z242), .second, .unset, .unset] [(.int p2)])) t)
            refine XS.goto X235.here hx rfl (pc0 := 328) (pc' := 334) rfl (hb hby at_328) (by decide) (by decide) (?_ : Steps p.tables e below (T235.setTop (mkF m 334 #[.val (.int p0), .val (.long p1), .second, .val (.int p2), .val (.int p3), .val (.int zn), .val (.int z157), .val (.int z158), .val (.int z160), .val (.int z161), .val (.int z162), .val (.ref b163), .val (.ref b183), .val (.ref b198), .val (.long z242), .second, .unset, .unset] [(.int p2)])) t)
            have q_z243 := (((hz243.trans (if_neg hj306_244)).trans (if_neg hj315_245)).trans (if_pos hj324_246))
            subst q_z243
            exact k
          · refine XS.ifYes X235.here hx rfl (pc0 := 324) (pc' := 331) rfl (hb hby at_324) rfl ((if0 _ _).trans (flt (fun q => hj324_246 ((lw_gt z242 (2147483647 : Int64)).mp q))).2.2.2) (by decide) (by decide) (?_ : Steps p.tables e below (T235.setTop (mkF m 331 #[.val (.int p0), .val (.long p1), .second, .val (.int p2), .val (.int p3), .val (.int zn), .val (.int z157), .val (.int z158), .val (.int z160), .val (.int z161), .val (.int z162), .val (.ref b163), .val (.ref b183), .val (.ref b198), .val (.long z242), .second, .unset, .unset] [])) t)
            refine XS.lload X235.here hx rfl (hb hby at_331) rfl  (?_ : Steps p.tables e below (T235.setTop (mkF m 333 #[.val (.int p0), .val (.long p1), .second, .val (.int p2), .val (.int p3), .val (.int zn), .val (.int z157), .val (.int z158), .val (.int z160), .val (.int z161), .val (.int z162), .val (.ref b163), .val (.ref b183), .val (.ref b198), .val (.long z242), .second, .unset, .unset] [(.long z242)])) t)
            refine XS.l2i X235.here hx rfl (hb hby at_333) rfl (?_ : Steps p.tables e below (T235.setTop (mkF m 334 #[.val (.int p0), .val (.long p1), .second, .val (.int p2), .val (.int p3), .val (.int zn), .val (.int z157), .val (.int z158), .val (.int z160), .val (.int z161), .val (.int z162), .val (.ref b163), .val (.ref b183), .val (.ref b198), .val (.long z242), .second, .unset, .unset] [(.int (z242.toInt32))])) t)
            have q_z243 := (((hz243.trans (if_neg hj306_244)).trans (if_neg hj315_245)).trans (if_neg hj324_246))
            subst q_z243
            exact k
    refine own_via (T235.setTop (mkF m 336 #[.val (.int p0), .val (.long p1), .second, .val (.int p2), .val (.int p3), .val (.int zn), .val (.int z157), .val (.int z158), .val (.int z160), .val (.int z161), .val (.int z162), .val (.ref b163), .val (.ref b183), .val (.ref b198), .val (.long z242), .second, .val (.int z243), .unset] [])) (fun t k => XS.istore X235.here hx rfl (hb hby at_334) rfl (l' := #[.val (.int p0), .val (.long p1), .second, .val (.int p2), .val (.int p3), .val (.int zn), .val (.int z157), .val (.int z158), .val (.int z160), .val (.int z161), .val (.int z162), .val (.ref b163), .val (.ref b183), .val (.ref b198), .val (.long z242), .second, .val (.int z243), .unset]) rfl k) ?_
    refine own_via (T235.setTop (mkF m 338 #[.val (.int p0), .val (.long p1), .second, .val (.int p2), .val (.int p3), .val (.int zn), .val (.int z157), .val (.int z158), .val (.int z160), .val (.int z161), .val (.int z162), .val (.ref b163), .val (.ref b183), .val (.ref b198), .val (.long z242), .second, .val (.int z243), .unset] [(.ref b163)])) (fun t k => XS.aload X235.here hx rfl (hb hby at_336) rfl rfl k) ?_
    refine own_via (T235.setTop (mkF m 339 #[.val (.int p0), .val (.long p1), .second, .val (.int p2), .val (.int p3), .val (.int zn), .val (.int z157), .val (.int z158), .val (.int z160), .val (.int z161), .val (.int z162), .val (.ref b163), .val (.ref b183), .val (.ref b198), .val (.long z242), .second, .val (.int z243), .unset] [(.int (0 : Int32)), (.ref b163)])) (fun t k => XS.iconst X235.here hx rfl (hb hby at_338) k) ?_
    refine own_via (T235.setTop (mkF m 341 #[.val (.int p0), .val (.long p1), .second, .val (.int p2), .val (.int p3), .val (.int zn), .val (.int z157), .val (.int z158), .val (.int z160), .val (.int z161), .val (.int z162), .val (.ref b163), .val (.ref b183), .val (.ref b198), .val (.long z242), .second, .val (.int z243), .unset] [(.int zn), (.int (0 : Int32)), (.ref b163)])) (fun t k => XS.iload X235.here hx rfl (hb hby at_339) rfl  k) ?_
    refine own_via (T235.setTop (mkF m 343 #[.val (.int p0), .val (.long p1), .second, .val (.int p2), .val (.int p3), .val (.int zn), .val (.int z157), .val (.int z158), .val (.int z160), .val (.int z161), .val (.int z162), .val (.ref b163), .val (.ref b183), .val (.ref b198), .val (.long z242), .second, .val (.int z243), .unset] [(.int z243), (.int zn), (.int (0 : Int32)), (.ref b163)])) (fun t k => XS.iload X235.here hx rfl (hb hby at_341) rfl  k) ?_
    have F248 := (F236.keep K235q (fun q => (List.mem_cons.mp q).elim ne_b163_b198 (fun q => (List.mem_cons.mp q).elim ne_b163_rs_200 (fun q => (List.mem_cons.mp q).elim ne_b163_re_200 (fun q => nomatch q)))))
    obtain ⟨_, _, ⟨T247, L247, k247, n247⟩, -, X247, ⟨Lc247, hQ247, l247, y247, z247⟩, st247⟩ := Jvm.LawKit.callS X235 hx (y := (⟨"com/example/honeyguide/honeyguide/SpansAfterPinLaw", "below", "([IIII)I"⟩ : MethodName)) hown (mvT hZ (hw _ (List.mem_of_getElem? (i := 24) rfl))) (mvT hZ (hw _ (List.mem_of_getElem? (i := 25) rfl))) (mvT hZ (hw _ (List.mem_of_getElem? (i := 21) rfl))) (mvT hZ (hw _ (List.mem_of_getElem? (i := 26) rfl))) (by decide) (backOf (W := 0) (rm4 l Z a0 hw [] b163 (0 : Int32) zn z243 h235 n0 (Nat.le_trans Z0 K237.1) f180 F248 (by decide)) hZ (hw _ (List.mem_of_getElem? (i := 26) rfl)) (hw _ (List.mem_of_getElem? (i := 21) rfl)) (by decide) (by decide)) (g := (mkF m 343 #[.val (.int p0), .val (.long p1), .second, .val (.int p2), .val (.int p3), .val (.int zn), .val (.int z157), .val (.int z158), .val (.int z160), .val (.int z161), .val (.int z162), .val (.ref b163), .val (.ref b183), .val (.ref b198), .val (.long z242), .second, .val (.int z243), .unset] [(.int z243), (.int zn), (.int (0 : Int32)), (.ref b163)])) rfl (by rw [hml]; rfl) (argsL := [(.ref b163), (.int (0 : Int32)), (.int zn), (.int z243)]) (rest := []) (lenOf pd_5 rfl) rfl (by show 2 * 0 + _ ≤ _; exact Nat.le_of_eq rfl) (hb hby at_343) (fun _ _ => ⟨rfl, e235, (by decide : 5 + 0 ≤ _), (by decide : 28 + 0 ≤ _)⟩)
    dsimp only [Pt.U, Pt.locs, Pt.cells, Pt.slots] at X247 l247 y247 z247 st247 hQ247
    rw [y247, z247] at X247
    have X247 : Stand _ _ _ _ _ _ _ _ _ _ T247 L247 5 28 := X247
    obtain ⟨rfl, N247q, e247⟩ := hQ247
    have N247 : Fr n0 L247 := by rw [l247]; exact Fr.app N235 N247q
    refine own_via (T247.setTop (mkF m 346 #[.val (.int p0), .val (.long p1), .second, .val (.int p2), .val (.int p3), .val (.int zn), .val (.int z157), .val (.int z158), .val (.int z160), .val (.int z161), .val (.int z162), .val (.ref b163), .val (.ref b183), .val (.ref b198), .val (.long z242), .second, .val (.int z243), .unset] [(.int (own_f4 (0 : Int32) zn z243 f180))])) (fun t k => st247 t k) ?_
    refine own_via (T247.setTop (mkF m 348 #[.val (.int p0), .val (.long p1), .second, .val (.int p2), .val (.int p3), .val (.int zn), .val (.int z157), .val (.int z158), .val (.int z160), .val (.int z161), .val (.int z162), .val (.ref b163), .val (.ref b183), .val (.ref b198), .val (.long z242), .second, .val (.int z243), .unset] [(.ref b163), (.int (own_f4 (0 : Int32) zn z243 f180))])) (fun t k => XS.aload X247.here hx rfl (hb hby at_346) rfl rfl k) ?_
    refine own_via (T247.setTop (mkF m 349 #[.val (.int p0), .val (.long p1), .second, .val (.int p2), .val (.int p3), .val (.int zn), .val (.int z157), .val (.int z158), .val (.int z160), .val (.int z161), .val (.int z162), .val (.ref b163), .val (.ref b183), .val (.ref b198), .val (.long z242), .second, .val (.int z243), .unset] [(.int (1 : Int32)), (.ref b163), (.int (own_f4 (0 : Int32) zn z243 f180))])) (fun t k => XS.iconst X247.here hx rfl (hb hby at_348) k) ?_
    refine own_via (T247.setTop (mkF m 351 #[.val (.int p0), .val (.long p1), .second, .val (.int p2), .val (.int p3), .val (.int zn), .val (.int z157), .val (.int z158), .val (.int z160), .val (.int z161), .val (.int z162), .val (.ref b163), .val (.ref b183), .val (.ref b198), .val (.long z242), .second, .val (.int z243), .unset] [(.int zn), (.int (1 : Int32)), (.ref b163), (.int (own_f4 (0 : Int32) zn z243 f180))])) (fun t k => XS.iload X247.here hx rfl (hb hby at_349) rfl  k) ?_
    refine own_via (T247.setTop (mkF m 353 #[.val (.int p0), .val (.long p1), .second, .val (.int p2), .val (.int p3), .val (.int zn), .val (.int z157), .val (.int z158), .val (.int z160), .val (.int z161), .val (.int z162), .val (.ref b163), .val (.ref b183), .val (.ref b198), .val (.long z242), .second, .val (.int z243), .unset] [(.int z243), (.int zn), (.int (1 : Int32)), (.ref b163), (.int (own_f4 (0 : Int32) zn z243 f180))])) (fun t k => XS.iload X247.here hx rfl (hb hby at_351) rfl  k) ?_
    obtain ⟨_, _, ⟨T249, L249, k249, n249⟩, -, X249, ⟨Lc249, hQ249, l249, y249, z249⟩, st249⟩ := Jvm.LawKit.callS X247 hx (y := (⟨"com/example/honeyguide/honeyguide/SpansAfterPinLaw", "below", "([IIII)I"⟩ : MethodName)) hown (mvT hZ (hw _ (List.mem_of_getElem? (i := 24) rfl))) (mvT hZ (hw _ (List.mem_of_getElem? (i := 25) rfl))) (mvT hZ (hw _ (List.mem_of_getElem? (i := 21) rfl))) (mvT hZ (hw _ (List.mem_of_getElem? (i := 26) rfl))) (by decide) (backOf (W := 1) (rm4 l Z a0 hw [] b163 (1 : Int32) zn z243 h235 n0 (Nat.le_trans Z0 K237.1) f180 F248 (by decide)) hZ (hw _ (List.mem_of_getElem? (i := 26) rfl)) (hw _ (List.mem_of_getElem? (i := 21) rfl)) (by decide) (by decide)) (g := (mkF m 353 #[.val (.int p0), .val (.long p1), .second, .val (.int p2), .val (.int p3), .val (.int zn), .val (.int z157), .val (.int z158), .val (.int z160), .val (.int z161), .val (.int z162), .val (.ref b163), .val (.ref b183), .val (.ref b198), .val (.long z242), .second, .val (.int z243), .unset] [(.int z243), (.int zn), (.int (1 : Int32)), (.ref b163), (.int (own_f4 (0 : Int32) zn z243 f180))])) rfl (by rw [hml]; rfl) (argsL := [(.ref b163), (.int (1 : Int32)), (.int zn), (.int z243)]) (rest := [(.int (own_f4 (0 : Int32) zn z243 f180))]) (lenOf pd_5 rfl) rfl (by show 2 * 0 + _ ≤ _; exact Nat.le_of_eq rfl) (hb hby at_353) (fun _ _ => ⟨rfl, e247, (by decide : 5 + 0 ≤ _), (by decide : 28 + 0 ≤ _)⟩)
    dsimp only [Pt.U, Pt.locs, Pt.cells, Pt.slots] at X249 l249 y249 z249 st249 hQ249
    rw [y249, z249] at X249
    have X249 : Stand _ _ _ _ _ _ _ _ _ _ T249 L249 5 28 := X249
    obtain ⟨rfl, N249q, e249⟩ := hQ249
    have N249 : Fr n0 L249 := by rw [l249]; exact Fr.app N247 N249q
    refine own_via (T249.setTop (mkF m 356 #[.val (.int p0), .val (.long p1), .second, .val (.int p2), .val (.int p3), .val (.int zn), .val (.int z157), .val (.int z158), .val (.int z160), .val (.int z161), .val (.int z162), .val (.ref b163), .val (.ref b183), .val (.ref b198), .val (.long z242), .second, .val (.int z243), .unset] [(.int (own_f4 (1 : Int32) zn z243 f180)), (.int (own_f4 (0 : Int32) zn z243 f180))])) (fun t k => st249 t k) ?_
    refine own_via (T249.setTop (mkF m 357 #[.val (.int p0), .val (.long p1), .second, .val (.int p2), .val (.int p3), .val (.int zn), .val (.int z157), .val (.int z158), .val (.int z160), .val (.int z161), .val (.int z162), .val (.ref b163), .val (.ref b183), .val (.ref b198), .val (.long z242), .second, .val (.int z243), .unset] [(.int ((own_f4 (0 : Int32) zn z243 f180) + (own_f4 (1 : Int32) zn z243 f180)))])) (fun t k => XS.iadd X249.here hx rfl (hb hby at_356) rfl k) ?_
    refine own_via (T249.setTop (mkF m 359 #[.val (.int p0), .val (.long p1), .second, .val (.int p2), .val (.int p3), .val (.int zn), .val (.int z157), .val (.int z158), .val (.int z160), .val (.int z161), .val (.int z162), .val (.ref b163), .val (.ref b183), .val (.ref b198), .val (.long z242), .second, .val (.int z243), .unset] [(.ref b163), (.int ((own_f4 (0 : Int32) zn z243 f180) + (own_f4 (1 : Int32) zn z243 f180)))])) (fun t k => XS.aload X249.here hx rfl (hb hby at_357) rfl rfl k) ?_
    refine own_via (T249.setTop (mkF m 360 #[.val (.int p0), .val (.long p1), .second, .val (.int p2), .val (.int p3), .val (.int zn), .val (.int z157), .val (.int z158), .val (.int z160), .val (.int z161), .val (.int z162), .val (.ref b163), .val (.ref b183), .val (.ref b198), .val (.long z242), .second, .val (.int z243), .unset] [(.int (2 : Int32)), (.ref b163), (.int ((own_f4 (0 : Int32) zn z243 f180) + (own_f4 (1 : Int32) zn z243 f180)))])) (fun t k => XS.iconst X249.here hx rfl (hb hby at_359) k) ?_
    refine own_via (T249.setTop (mkF m 362 #[.val (.int p0), .val (.long p1), .second, .val (.int p2), .val (.int p3), .val (.int zn), .val (.int z157), .val (.int z158), .val (.int z160), .val (.int z161), .val (.int z162), .val (.ref b163), .val (.ref b183), .val (.ref b198), .val (.long z242), .second, .val (.int z243), .unset] [(.int zn), (.int (2 : Int32)), (.ref b163), (.int ((own_f4 (0 : Int32) zn z243 f180) + (own_f4 (1 : Int32) zn z243 f180)))])) (fun t k => XS.iload X249.here hx rfl (hb hby at_360) rfl  k) ?_
    refine own_via (T249.setTop (mkF m 364 #[.val (.int p0), .val (.long p1), .second, .val (.int p2), .val (.int p3), .val (.int zn), .val (.int z157), .val (.int z158), .val (.int z160), .val (.int z161), .val (.int z162), .val (.ref b163), .val (.ref b183), .val (.ref b198), .val (.long z242), .second, .val (.int z243), .unset] [(.int z243), (.int zn), (.int (2 : Int32)), (.ref b163), (.int ((own_f4 (0 : Int32) zn z243 f180) + (own_f4 (1 : Int32) zn z243 f180)))])) (fun t k => XS.iload X249.here hx rfl (hb hby at_362) rfl  k) ?_
    obtain ⟨_, _, ⟨T250, L250, k250, n250⟩, -, X250, ⟨Lc250, hQ250, l250, y250, z250⟩, st250⟩ := Jvm.LawKit.callS X249 hx (y := (⟨"com/example/honeyguide/honeyguide/SpansAfterPinLaw", "below", "([IIII)I"⟩ : MethodName)) hown (mvT hZ (hw _ (List.mem_of_getElem? (i := 24) rfl))) (mvT hZ (hw _ (List.mem_of_getElem? (i := 25) rfl))) (mvT hZ (hw _ (List.mem_of_getElem? (i := 21) rfl))) (mvT hZ (hw _ (List.mem_of_getElem? (i := 26) rfl))) (by decide) (backOf (W := 1) (rm4 l Z a0 hw [] b163 (2 : Int32) zn z243 h235 n0 (Nat.le_trans Z0 K237.1) f180 F248 (by decide)) hZ (hw _ (List.mem_of_getElem? (i := 26) rfl)) (hw _ (List.mem_of_getElem? (i := 21) rfl)) (by decide) (by decide)) (g := (mkF m 364 #[.val (.int p0), .val (.long p1), .second, .val (.int p2), .val (.int p3), .val (.int zn), .val (.int z157), .val (.int z158), .val (.int z160), .val (.int z161), .val (.int z162), .val (.ref b163), .val (.ref b183), .val (.ref b198), .val (.long z242), .second, .val (.int z243), .unset] [(.int z243), (.int zn), (.int (2 : Int32)), (.ref b163), (.int ((own_f4 (0 : Int32) zn z243 f180) + (own_f4 (1 : Int32) zn z243 f180)))])) rfl (by rw [hml]; rfl) (argsL := [(.ref b163), (.int (2 : Int32)), (.int zn), (.int z243)]) (rest := [(.int ((own_f4 (0 : Int32) zn z243 f180) + (own_f4 (1 : Int32) zn z243 f180)))]) (lenOf pd_5 rfl) rfl (by show 2 * 0 + _ ≤ _; exact Nat.le_of_eq rfl) (hb hby at_364) (fun _ _ => ⟨rfl, e249, (by decide : 5 + 0 ≤ _), (by decide : 28 + 0 ≤ _)⟩)
    dsimp only [Pt.U, Pt.locs, Pt.cells, Pt.slots] at X250 l250 y250 z250 st250 hQ250
    rw [y250, z250] at X250
    have X250 : Stand _ _ _ _ _ _ _ _ _ _ T250 L250 5 28 := X250
    obtain ⟨rfl, N250q, e250⟩ := hQ250
    have N250 : Fr n0 L250 := by rw [l250]; exact Fr.app N249 N250q
    refine own_via (T250.setTop (mkF m 367 #[.val (.int p0), .val (.long p1), .second, .val (.int p2), .val (.int p3), .val (.int zn), .val (.int z157), .val (.int z158), .val (.int z160), .val (.int z161), .val (.int z162), .val (.ref b163), .val (.ref b183), .val (.ref b198), .val (.long z242), .second, .val (.int z243), .unset] [(.int (own_f4 (2 : Int32) zn z243 f180)), (.int ((own_f4 (0 : Int32) zn z243 f180) + (own_f4 (1 : Int32) zn z243 f180)))])) (fun t k => st250 t k) ?_
    refine own_via (T250.setTop (mkF m 368 #[.val (.int p0), .val (.long p1), .second, .val (.int p2), .val (.int p3), .val (.int zn), .val (.int z157), .val (.int z158), .val (.int z160), .val (.int z161), .val (.int z162), .val (.ref b163), .val (.ref b183), .val (.ref b198), .val (.long z242), .second, .val (.int z243), .unset] [(.int (((own_f4 (0 : Int32) zn z243 f180) + (own_f4 (1 : Int32) zn z243 f180)) + (own_f4 (2 : Int32) zn z243 f180)))])) (fun t k => XS.iadd X250.here hx rfl (hb hby at_367) rfl k) ?_
    refine own_via (T250.setTop (mkF m 370 #[.val (.int p0), .val (.long p1), .second, .val (.int p2), .val (.int p3), .val (.int zn), .val (.int z157), .val (.int z158), .val (.int z160), .val (.int z161), .val (.int z162), .val (.ref b163), .val (.ref b183), .val (.ref b198), .val (.long z242), .second, .val (.int z243), .unset] [(.ref b163), (.int (((own_f4 (0 : Int32) zn z243 f180) + (own_f4 (1 : Int32) zn z243 f180)) + (own_f4 (2 : Int32) zn z243 f180)))])) (fun t k => XS.aload X250.here hx rfl (hb hby at_368) rfl rfl k) ?_
    refine own_via (T250.setTop (mkF m 371 #[.val (.int p0), .val (.long p1), .second, .val (.int p2), .val (.int p3), .val (.int zn), .val (.int z157), .val (.int z158), .val (.int z160), .val (.int z161), .val (.int z162), .val (.ref b163), .val (.ref b183), .val (.ref b198), .val (.long z242), .second, .val (.int z243), .unset] [(.int (3 : Int32)), (.ref b163), (.int (((own_f4 (0 : Int32) zn z243 f180) + (own_f4 (1 : Int32) zn z243 f180)) + (own_f4 (2 : Int32) zn z243 f180)))])) (fun t k => XS.iconst X250.here hx rfl (hb hby at_370) k) ?_
    refine own_via (T250.setTop (mkF m 373 #[.val (.int p0), .val (.long p1), .second, .val (.int p2), .val (.int p3), .val (.int zn), .val (.int z157), .val (.int z158), .val (.int z160), .val (.int z161), .val (.int z162), .val (.ref b163), .val (.ref b183), .val (.ref b198), .val (.long z242), .second, .val (.int z243), .unset] [(.int zn), (.int (3 : Int32)), (.ref b163), (.int (((own_f4 (0 : Int32) zn z243 f180) + (own_f4 (1 : Int32) zn z243 f180)) + (own_f4 (2 : Int32) zn z243 f180)))])) (fun t k => XS.iload X250.here hx rfl (hb hby at_371) rfl  k) ?_
    refine own_via (T250.setTop (mkF m 375 #[.val (.int p0), .val (.long p1), .second, .val (.int p2), .val (.int p3), .val (.int zn), .val (.int z157), .val (.int z158), .val (.int z160), .val (.int z161), .val (.int z162), .val (.ref b163), .val (.ref b183), .val (.ref b198), .val (.long z242), .second, .val (.int z243), .unset] [(.int z243), (.int zn), (.int (3 : Int32)), (.ref b163), (.int (((own_f4 (0 : Int32) zn z243 f180) + (own_f4 (1 : Int32) zn z243 f180)) + (own_f4 (2 : Int32) zn z243 f180)))])) (fun t k => XS.iload X250.here hx rfl (hb hby at_373) rfl  k) ?_
    obtain ⟨_, _, ⟨T251, L251, k251, n251⟩, -, X251, ⟨Lc251, hQ251, l251, y251, z251⟩, st251⟩ := Jvm.LawKit.callS X250 hx (y := (⟨"com/example/honeyguide/honeyguide/SpansAfterPinLaw", "below", "([IIII)I"⟩ : MethodName)) hown (mvT hZ (hw _ (List.mem_of_getElem? (i := 24) rfl))) (mvT hZ (hw _ (List.mem_of_getElem? (i := 25) rfl))) (mvT hZ (hw _ (List.mem_of_getElem? (i := 21) rfl))) (mvT hZ (hw _ (List.mem_of_getElem? (i := 26) rfl))) (by decide) (backOf (W := 1) (rm4 l Z a0 hw [] b163 (3 : Int32) zn z243 h235 n0 (Nat.le_trans Z0 K237.1) f180 F248 (by decide)) hZ (hw _ (List.mem_of_getElem? (i := 26) rfl)) (hw _ (List.mem_of_getElem? (i := 21) rfl)) (by decide) (by decide)) (g := (mkF m 375 #[.val (.int p0), .val (.long p1), .second, .val (.int p2), .val (.int p3), .val (.int zn), .val (.int z157), .val (.int z158), .val (.int z160), .val (.int z161), .val (.int z162), .val (.ref b163), .val (.ref b183), .val (.ref b198), .val (.long z242), .second, .val (.int z243), .unset] [(.int z243), (.int zn), (.int (3 : Int32)), (.ref b163), (.int (((own_f4 (0 : Int32) zn z243 f180) + (own_f4 (1 : Int32) zn z243 f180)) + (own_f4 (2 : Int32) zn z243 f180)))])) rfl (by rw [hml]; rfl) (argsL := [(.ref b163), (.int (3 : Int32)), (.int zn), (.int z243)]) (rest := [(.int (((own_f4 (0 : Int32) zn z243 f180) + (own_f4 (1 : Int32) zn z243 f180)) + (own_f4 (2 : Int32) zn z243 f180)))]) (lenOf pd_5 rfl) rfl (by show 2 * 0 + _ ≤ _; exact Nat.le_of_eq rfl) (hb hby at_375) (fun _ _ => ⟨rfl, e250, (by decide : 5 + 0 ≤ _), (by decide : 28 + 0 ≤ _)⟩)
    dsimp only [Pt.U, Pt.locs, Pt.cells, Pt.slots] at X251 l251 y251 z251 st251 hQ251
    rw [y251, z251] at X251
    have X251 : Stand _ _ _ _ _ _ _ _ _ _ T251 L251 5 28 := X251
    obtain ⟨rfl, N251q, e251⟩ := hQ251
    have N251 : Fr n0 L251 := by rw [l251]; exact Fr.app N250 N251q
    refine own_via (T251.setTop (mkF m 378 #[.val (.int p0), .val (.long p1), .second, .val (.int p2), .val (.int p3), .val (.int zn), .val (.int z157), .val (.int z158), .val (.int z160), .val (.int z161), .val (.int z162), .val (.ref b163), .val (.ref b183), .val (.ref b198), .val (.long z242), .second, .val (.int z243), .unset] [(.int (own_f4 (3 : Int32) zn z243 f180)), (.int (((own_f4 (0 : Int32) zn z243 f180) + (own_f4 (1 : Int32) zn z243 f180)) + (own_f4 (2 : Int32) zn z243 f180)))])) (fun t k => st251 t k) ?_
    refine own_via (T251.setTop (mkF m 379 #[.val (.int p0), .val (.long p1), .second, .val (.int p2), .val (.int p3), .val (.int zn), .val (.int z157), .val (.int z158), .val (.int z160), .val (.int z161), .val (.int z162), .val (.ref b163), .val (.ref b183), .val (.ref b198), .val (.long z242), .second, .val (.int z243), .unset] [(.int ((((own_f4 (0 : Int32) zn z243 f180) + (own_f4 (1 : Int32) zn z243 f180)) + (own_f4 (2 : Int32) zn z243 f180)) + (own_f4 (3 : Int32) zn z243 f180)))])) (fun t k => XS.iadd X251.here hx rfl (hb hby at_378) rfl k) ?_
    obtain ⟨zr, hzr⟩ : ∃ z : Int32, z = ((((own_f4 (0 : Int32) zn z243 f180) + (own_f4 (1 : Int32) zn z243 f180)) + (own_f4 (2 : Int32) zn z243 f180)) + (own_f4 (3 : Int32) zn z243 f180)) := ⟨_, rfl⟩
    refine own_via (T251.setTop (mkF m 381 #[.val (.int p0), .val (.long p1), .second, .val (.int p2), .val (.int p3), .val (.int zn), .val (.int z157), .val (.int z158), .val (.int z160), .val (.int z161), .val (.int z162), .val (.ref b163), .val (.ref b183), .val (.ref b198), .val (.long z242), .second, .val (.int z243), .val (.int zr)] [])) (fun t k => XS.istore X251.here hx rfl (hb hby at_379) rfl (l' := #[.val (.int p0), .val (.long p1), .second, .val (.int p2), .val (.int p3), .val (.int zn), .val (.int z157), .val (.int z158), .val (.int z160), .val (.int z161), .val (.int z162), .val (.ref b163), .val (.ref b183), .val (.ref b198), .val (.long z242), .second, .val (.int z243), .val (.int zr)]) (by rw [hzr]; rfl) k) ?_
    have hct : own_f5 z239 = zn := own_cntfin (own_nb hzn) (by have e0 : (0 : Int32).toInt = 0 := rfl; omega)
    have hav : own_a f240 z238 z239 z243 = zr := by
      have hb0 : own_cnt (fun _ => (0 : Int32)) (4 : Int32).toInt.toNat (0 : Int32).toInt.toNat z243 = 0 := rfl
      have a1 := hq1 z243; have a2 := hq2 z243; have a3 := hq3 z243; have a4 := hq4 z243
      exact own_afin (sa := f180) (n := zn) (by omega) hzr
    refine own_via (T251.setTop (mkF m 383 #[.val (.int p0), .val (.long p1), .second, .val (.int p2), .val (.int p3), .val (.int zn), .val (.int z157), .val (.int z158), .val (.int z160), .val (.int z161), .val (.int z162), .val (.ref b163), .val (.ref b183), .val (.ref b198), .val (.long z242), .second, .val (.int z243), .val (.int zr)] [(.ref b198)])) (fun t k => XS.aload X251.here hx rfl (hb hby at_381) rfl rfl k) ?_
    obtain ⟨cq252, kq252, q252a, q252b, q252c⟩ := isOf hZ e251 G235_0
    obtain ⟨_, _, ⟨T252, L252, k252, n252⟩, -, X252, ⟨Lc252, hQ252, l252, y252, z252⟩, st252⟩ := X251.virtualBack hx (y := (⟨"com/example/honeyguide/honeyguide/Spans", "count", "()I"⟩ : MethodName)) (z := (⟨"com/example/honeyguide/honeyguide/Spans", "count", "()I"⟩ : MethodName)) hown (mvT hZ (hw _ (List.mem_of_getElem? (i := 27) rfl))) (mvT hZ (hw _ (List.mem_of_getElem? (i := 28) rfl))) (notFace_of_selects (args := #[]) (mvT hZ (hw _ (List.mem_of_getElem? (i := 30) rfl)))) (mvT hZ (hw _ (List.mem_of_getElem? (i := 30) rfl))) (mvT hZ (hw _ (List.mem_of_getElem? (i := 29) rfl))) (by decide) (backOf (W := 0) (rm5 l Z a0 hw [] b198 h235 n0 (Nat.le_trans Z0 K237.1) z239 G235_2) hZ (hw _ (List.mem_of_getElem? (i := 31) rfl)) (hw _ (List.mem_of_getElem? (i := 6) rfl)) (by decide) (by decide)) q252a q252c (g := (mkF m 383 #[.val (.int p0), .val (.long p1), .second, .val (.int p2), .val (.int p3), .val (.int zn), .val (.int z157), .val (.int z158), .val (.int z160), .val (.int z161), .val (.int z162), .val (.ref b163), .val (.ref b183), .val (.ref b198), .val (.long z242), .second, .val (.int z243), .val (.int zr)] [(.ref b198)])) rfl (by rw [hml]; rfl) (Steps.refl _) (argsL := []) (rest := []) (lenOf pd_6 rfl) rfl (by show 2 * 0 + _ ≤ _; exact Nat.le_of_eq rfl) (hb hby at_383) (fun _ _ => ⟨rfl, e251, (by decide : 5 + 0 ≤ _), (by decide : 28 + 0 ≤ _)⟩)
    dsimp only [Pt.U, Pt.locs, Pt.cells, Pt.slots] at X252 l252 y252 z252 st252 hQ252
    rw [y252, z252] at X252
    have X252 : Stand _ _ _ _ _ _ _ _ _ _ T252 L252 5 28 := X252
    obtain ⟨rfl, N252q, e252⟩ := hQ252
    have N252 : Fr n0 L252 := by rw [l252]; exact Fr.app N251 N252q
    refine own_via (T252.setTop (mkF m 386 #[.val (.int p0), .val (.long p1), .second, .val (.int p2), .val (.int p3), .val (.int zn), .val (.int z157), .val (.int z158), .val (.int z160), .val (.int z161), .val (.int z162), .val (.ref b163), .val (.ref b183), .val (.ref b198), .val (.long z242), .second, .val (.int z243), .val (.int zr)] [(.int (own_f5 z239))])) (fun t k => st252.trans k) ?_
    refine own_via (T252.setTop (mkF m 388 #[.val (.int p0), .val (.long p1), .second, .val (.int p2), .val (.int p3), .val (.int zn), .val (.int z157), .val (.int z158), .val (.int z160), .val (.int z161), .val (.int z162), .val (.ref b163), .val (.ref b183), .val (.ref b198), .val (.long z242), .second, .val (.int z243), .val (.int zr)] [(.int zn), (.int (own_f5 z239))])) (fun t k => XS.iload X252.here hx rfl (hb hby at_386) rfl  k) ?_
    by_cases hc388_253 : (own_f5 z239) = zn
    · refine own_via (T252.setTop (mkF m 391 #[.val (.int p0), .val (.long p1), .second, .val (.int p2), .val (.int p3), .val (.int zn), .val (.int z157), .val (.int z158), .val (.int z160), .val (.int z161), .val (.int z162), .val (.ref b163), .val (.ref b183), .val (.ref b198), .val (.long z242), .second, .val (.int z243), .val (.int zr)] [])) (fun t k => XS.icmpNo X252.here hx rfl (hb hby at_388) rfl (teq hc388_253).2 k) ?_
      refine own_via (T252.setTop (mkF m 393 #[.val (.int p0), .val (.long p1), .second, .val (.int p2), .val (.int p3), .val (.int zn), .val (.int z157), .val (.int z158), .val (.int z160), .val (.int z161), .val (.int z162), .val (.ref b163), .val (.ref b183), .val (.ref b198), .val (.long z242), .second, .val (.int z243), .val (.int zr)] [(.ref b198)])) (fun t k => XS.aload X252.here hx rfl (hb hby at_391) rfl rfl k) ?_
      refine own_via (T252.setTop (mkF m 395 #[.val (.int p0), .val (.long p1), .second, .val (.int p2), .val (.int p3), .val (.int zn), .val (.int z157), .val (.int z158), .val (.int z160), .val (.int z161), .val (.int z162), .val (.ref b163), .val (.ref b183), .val (.ref b198), .val (.long z242), .second, .val (.int z243), .val (.int zr)] [(.int z243), (.ref b198)])) (fun t k => XS.iload X252.here hx rfl (hb hby at_393) rfl  k) ?_
      obtain ⟨cq254, kq254, q254a, q254b, q254c⟩ := isOf hZ e252 G235_0
      obtain ⟨_, _, ⟨T254, L254, k254, n254⟩, -, X254, ⟨Lc254, hQ254, l254, y254, z254⟩, st254⟩ := X252.virtualBack hx (y := (⟨"com/example/honeyguide/honeyguide/Spans", "after", "(I)I"⟩ : MethodName)) (z := (⟨"com/example/honeyguide/honeyguide/Spans", "after", "(I)I"⟩ : MethodName)) hown (mvT hZ (hw _ (List.mem_of_getElem? (i := 34) rfl))) (mvT hZ (hw _ (List.mem_of_getElem? (i := 35) rfl))) (notFace_of_selects (args := #[]) (mvT hZ (hw _ (List.mem_of_getElem? (i := 37) rfl)))) (mvT hZ (hw _ (List.mem_of_getElem? (i := 37) rfl))) (mvT hZ (hw _ (List.mem_of_getElem? (i := 36) rfl))) (by decide) (backOf (W := 0) (rm6 l Z a0 hw [] b198 z243 h235 n0 (Nat.le_trans Z0 K237.1) rs_200 z238 z239 f240 G235_3 G235_1 G235_2 G235_5 hI4) hZ (hw _ (List.mem_of_getElem? (i := 38) rfl)) (hw _ (List.mem_of_getElem? (i := 6) rfl)) (by decide) (by decide)) q254a q254c (g := (mkF m 395 #[.val (.int p0), .val (.long p1), .second, .val (.int p2), .val (.int p3), .val (.int zn), .val (.int z157), .val (.int z158), .val (.int z160), .val (.int z161), .val (.int z162), .val (.ref b163), .val (.ref b183), .val (.ref b198), .val (.long z242), .second, .val (.int z243), .val (.int zr)] [(.int z243), (.ref b198)])) rfl (by rw [hml]; rfl) (Steps.refl _) (argsL := [(.int z243)]) (rest := []) (lenOf pd_0 rfl) rfl (by show 2 * 0 + _ ≤ _; exact Nat.le_of_eq rfl) (hb hby at_395) (fun _ _ => ⟨rfl, e252, (by decide : 5 + 0 ≤ _), (by decide : 28 + 0 ≤ _)⟩)
      dsimp only [Pt.U, Pt.locs, Pt.cells, Pt.slots] at X254 l254 y254 z254 st254 hQ254
      rw [y254, z254] at X254
      have X254 : Stand _ _ _ _ _ _ _ _ _ _ T254 L254 5 28 := X254
      obtain ⟨rfl, N254q, e254⟩ := hQ254
      have N254 : Fr n0 L254 := by rw [l254]; exact Fr.app N252 N254q
      refine own_via (T254.setTop (mkF m 398 #[.val (.int p0), .val (.long p1), .second, .val (.int p2), .val (.int p3), .val (.int zn), .val (.int z157), .val (.int z158), .val (.int z160), .val (.int z161), .val (.int z162), .val (.ref b163), .val (.ref b183), .val (.ref b198), .val (.long z242), .second, .val (.int z243), .val (.int zr)] [(.int (own_a f240 z238 z239 z243))])) (fun t k => st254.trans k) ?_
      refine own_via (T254.setTop (mkF m 400 #[.val (.int p0), .val (.long p1), .second, .val (.int p2), .val (.int p3), .val (.int zn), .val (.int z157), .val (.int z158), .val (.int z160), .val (.int z161), .val (.int z162), .val (.ref b163), .val (.ref b183), .val (.ref b198), .val (.long z242), .second, .val (.int z243), .val (.int zr)] [(.int zr), (.int (own_a f240 z238 z239 z243))])) (fun t k => XS.iload X254.here hx rfl (hb hby at_398) rfl  k) ?_
      obtain ⟨z255, hz255⟩ : ∃ z : Int32, z = (if (own_a f240 z238 z239 z243) = zr then (1 : Int32) else (0 : Int32)) := ⟨_, rfl⟩
      refine own_via (T254.setTop (mkF m 408 #[.val (.int p0), .val (.long p1), .second, .val (.int p2), .val (.int p3), .val (.int zn), .val (.int z157), .val (.int z158), .val (.int z160), .val (.int z161), .val (.int z162), .val (.ref b163), .val (.ref b183), .val (.ref b198), .val (.long z242), .second, .val (.int z243), .val (.int zr)] [(.int z255)])) (fun t k => ?_) ?_
      · skip
        by_cases hj400_256 : (own_a f240 z238 z239 z243) = zr
        · refine XS.icmpNo X254.here hx rfl (hb hby at_400) rfl (teq hj400_256).2 (?_ : Steps p.tables e below (T254.setTop (mkF m 403 #[.val (.int p0), .val (.long p1), .second, .val (.int p2), .val (.int p3), .val (.int zn), .val (.int z157), .val (.int z158), .val (.int z160), .val (.int z161), .val (.int z162), .val (.ref b163), .val (.ref b183), .val (.ref b198), .val (.long z242), .second, .val (.int z243), .val (.int zr)] [])) t)
          refine XS.iconst X254.here hx rfl (hb hby at_403) (?_ : Steps p.tables e below (T254.setTop (mkF m 404 #[.val (.int p0), .val (.long p1), .second, .val (.int p2), .val (.int p3), .val (.int zn), .val (.int z157), .val (.int z158), .val (.int z160), .val (.int z161), .val (.int z162), .val (.ref b163), .val (.ref b183), .val (.ref b198), .val (.long z242), .second, .val (.int z243), .val (.int zr)] [(.int (1 : Int32))])) t)
          refine XS.goto X254.here hx rfl (pc0 := 404) (pc' := 408) rfl (hb hby at_404) (by decide) (by decide) (?_ : Steps p.tables e below (T254.setTop (mkF m 408 #[.val (.int p0), .val (.long p1), .second, .val (.int p2), .val (.int p3), .val (.int zn), .val (.int z157), .val (.int z158), .val (.int z160), .val (.int z161), .val (.int z162), .val (.ref b163), .val (.ref b183), .val (.ref b198), .val (.long z242), .second, .val (.int z243), .val (.int zr)] [(.int (1 : Int32))])) t)
          have q_z255 := (hz255.trans (if_pos hj400_256))
          subst q_z255
          exact k
        · refine XS.icmpYes X254.here hx rfl (pc0 := 400) (pc' := 407) rfl (hb hby at_400) rfl (feq hj400_256).2 (by decide) (by decide) (?_ : Steps p.tables e below (T254.setTop (mkF m 407 #[.val (.int p0), .val (.long p1), .second, .val (.int p2), .val (.int p3), .val (.int zn), .val (.int z157), .val (.int z158), .val (.int z160), .val (.int z161), .val (.int z162), .val (.ref b163), .val (.ref b183), .val (.ref b198), .val (.long z242), .second, .val (.int z243), .val (.int zr)] [])) t)
          refine XS.iconst X254.here hx rfl (hb hby at_407) (?_ : Steps p.tables e below (T254.setTop (mkF m 408 #[.val (.int p0), .val (.long p1), .second, .val (.int p2), .val (.int p3), .val (.int zn), .val (.int z157), .val (.int z158), .val (.int z160), .val (.int z161), .val (.int z162), .val (.ref b163), .val (.ref b183), .val (.ref b198), .val (.long z242), .second, .val (.int z243), .val (.int zr)] [(.int (0 : Int32))])) t)
          have q_z255 := (hz255.trans (if_neg hj400_256))
          subst q_z255
          exact k
      refine own_leave X254 Bd.notSynchronized (v := some (.int (nar .boolean z255))) (fun h => by rw [Bd.returns] at h; cases h) (fun fs hr => retN X254 hx (t := .boolean) Bd.returns (by simp) (hb hby at_408) hr) ?_ (by decide) (by decide)
      refine ⟨?_, N254⟩
      rw [hz255, if_pos hav]; rfl
    · exact absurd hct hc388_253
  · refine own_via (T183.setTop (mkF m 152 #[.val (.int p0), .val (.long p1), .second, .val (.int p2), .val (.int p3), .val (.int zn), .val (.int z157), .val (.int z158), .val (.int z160), .val (.int z161), .val (.int z162), .val (.ref b163), .val (.ref b183), .unset, .unset, .unset, .unset, .unset] [])) (fun t k => XS.ifYes X183.here hx rfl (pc0 := 126) (pc' := 152) rfl (hb hby at_126) rfl ((if0 _ _).trans (feq hc126_185).2) (by decide) (by decide) k) ?_
    refine own_via (T183.setTop (mkF m 154 #[.val (.int p0), .val (.long p1), .second, .val (.int p2), .val (.int p3), .val (.int zn), .val (.int z157), .val (.int z158), .val (.int z160), .val (.int z161), .val (.int z162), .val (.ref b163), .val (.ref b183), .unset, .unset, .unset, .unset, .unset] [(.int z157)])) (fun t k => XS.iload X183.here hx rfl (hb hby at_152) rfl  k) ?_
    refine own_via (T183.setTop (mkF m 155 #[.val (.int p0), .val (.long p1), .second, .val (.int p2), .val (.int p3), .val (.int zn), .val (.int z157), .val (.int z158), .val (.int z160), .val (.int z161), .val (.int z162), .val (.ref b163), .val (.ref b183), .unset, .unset, .unset, .unset, .unset] [(.int (1 : Int32)), (.int z157)])) (fun t k => XS.iconst X183.here hx rfl (hb hby at_154) k) ?_
    by_cases hc155_257 : z157 = (1 : Int32)
    · refine own_via (T183.setTop (mkF m 158 #[.val (.int p0), .val (.long p1), .second, .val (.int p2), .val (.int p3), .val (.int zn), .val (.int z157), .val (.int z158), .val (.int z160), .val (.int z161), .val (.int z162), .val (.ref b163), .val (.ref b183), .unset, .unset, .unset, .unset, .unset] [])) (fun t k => XS.icmpNo X183.here hx rfl (hb hby at_155) rfl (teq hc155_257).2 k) ?_
      refine own_via (T183.setTop (mkF m 160 #[.val (.int p0), .val (.long p1), .second, .val (.int p2), .val (.int p3), .val (.int zn), .val (.int z157), .val (.int z158), .val (.int z160), .val (.int z161), .val (.int z162), .val (.ref b163), .val (.ref b183), .unset, .unset, .unset, .unset, .unset] [(.ref b183)])) (fun t k => XS.aload X183.here hx rfl (hb hby at_158) rfl rfl k) ?_
      refine own_via (T183.setTop (mkF m 161 #[.val (.int p0), .val (.long p1), .second, .val (.int p2), .val (.int p3), .val (.int zn), .val (.int z157), .val (.int z158), .val (.int z160), .val (.int z161), .val (.int z162), .val (.ref b163), .val (.ref b183), .unset, .unset, .unset, .unset, .unset] [(.int (0 : Int32)), (.ref b183)])) (fun t k => XS.iconst X183.here hx rfl (hb hby at_160) k) ?_
      refine own_via (T183.setTop (mkF m 162 #[.val (.int p0), .val (.long p1), .second, .val (.int p2), .val (.int p3), .val (.int zn), .val (.int z157), .val (.int z158), .val (.int z160), .val (.int z161), .val (.int z162), .val (.ref b163), .val (.ref b183), .unset, .unset, .unset, .unset, .unset] [(.int (3 : Int32)), (.int (0 : Int32)), (.ref b183)])) (fun t k => XS.iconst X183.here hx rfl (hb hby at_161) k) ?_
      obtain ⟨cl259, Ar259, q259, S259, M259, H259, G259⟩ := id V183
      obtain ⟨T258, h258, X258, e258, W258, st258⟩ := stI X183 hx hZ e183 Ar259 (j := (0 : Int32)) (inb_of S259 ⟨by decide, by decide⟩) (g := (mkF m 162 #[.val (.int p0), .val (.long p1), .second, .val (.int p2), .val (.int p3), .val (.int zn), .val (.int z157), .val (.int z158), .val (.int z160), .val (.int z161), .val (.int z162), .val (.ref b163), .val (.ref b183), .unset, .unset, .unset, .unset, .unset] [(.int (3 : Int32)), (.int (0 : Int32)), (.ref b183)])) rfl rfl (hb hby at_162)
      have V258 : Arv Z h258 b183 k183 .int (4 : Int32) [(.int (3 : Int32)), (.int (0 : Int32)), (.int (0 : Int32)), (.int (0 : Int32))] (.int (0 : Int32)) := Arv.set Ar259 q259 S259 M259 H259 G259 rfl W258 0 rfl (Nat.le_of_ble_eq_true rfl)
      have N258 := Fr.snoc X258 N180 gg_b183
      have K260 : Keep h0 h258 [] := K184.wr W258 (Or.inr sz_b183)
      refine own_via (T258.setTop (mkF m 163 #[.val (.int p0), .val (.long p1), .second, .val (.int p2), .val (.int p3), .val (.int zn), .val (.int z157), .val (.int z158), .val (.int z160), .val (.int z161), .val (.int z162), .val (.ref b163), .val (.ref b183), .unset, .unset, .unset, .unset, .unset] [])) (fun t k => st258 t k) ?_
      refine own_via (T258.setTop (mkF m 165 #[.val (.int p0), .val (.long p1), .second, .val (.int p2), .val (.int p3), .val (.int zn), .val (.int z157), .val (.int z158), .val (.int z160), .val (.int z161), .val (.int z162), .val (.ref b163), .val (.ref b183), .unset, .unset, .unset, .unset, .unset] [(.ref b183)])) (fun t k => XS.aload X258.here hx rfl (hb hby at_163) rfl rfl k) ?_
      refine own_via (T258.setTop (mkF m 166 #[.val (.int p0), .val (.long p1), .second, .val (.int p2), .val (.int p3), .val (.int zn), .val (.int z157), .val (.int z158), .val (.int z160), .val (.int z161), .val (.int z162), .val (.ref b163), .val (.ref b183), .unset, .unset, .unset, .unset, .unset] [(.int (1 : Int32)), (.ref b183)])) (fun t k => XS.iconst X258.here hx rfl (hb hby at_165) k) ?_
      refine own_via (T258.setTop (mkF m 167 #[.val (.int p0), .val (.long p1), .second, .val (.int p2), .val (.int p3), .val (.int zn), .val (.int z157), .val (.int z158), .val (.int z160), .val (.int z161), .val (.int z162), .val (.ref b163), .val (.ref b183), .unset, .unset, .unset, .unset, .unset] [(.int (2 : Int32)), (.int (1 : Int32)), (.ref b183)])) (fun t k => XS.iconst X258.here hx rfl (hb hby at_166) k) ?_
      obtain ⟨cl262, Ar262, q262, S262, M262, H262, G262⟩ := id V258
      obtain ⟨T261, h261, X261, e261, W261, st261⟩ := stI X258 hx hZ e258 Ar262 (j := (1 : Int32)) (inb_of S262 ⟨by decide, by decide⟩) (g := (mkF m 167 #[.val (.int p0), .val (.long p1), .second, .val (.int p2), .val (.int p3), .val (.int zn), .val (.int z157), .val (.int z158), .val (.int z160), .val (.int z161), .val (.int z162), .val (.ref b163), .val (.ref b183), .unset, .unset, .unset, .unset, .unset] [(.int (2 : Int32)), (.int (1 : Int32)), (.ref b183)])) rfl rfl (hb hby at_167)
      have V261 : Arv Z h261 b183 k183 .int (4 : Int32) [(.int (3 : Int32)), (.int (2 : Int32)), (.int (0 : Int32)), (.int (0 : Int32))] (.int (0 : Int32)) := Arv.set Ar262 q262 S262 M262 H262 G262 rfl W261 1 rfl (Nat.le_of_ble_eq_true rfl)
      have N261 := Fr.snoc X261 N258 gg_b183
      have K263 : Keep h0 h261 [] := K260.wr W261 (Or.inr sz_b183)
      refine own_via (T261.setTop (mkF m 168 #[.val (.int p0), .val (.long p1), .second, .val (.int p2), .val (.int p3), .val (.int zn), .val (.int z157), .val (.int z158), .val (.int z160), .val (.int z161), .val (.int z162), .val (.ref b163), .val (.ref b183), .unset, .unset, .unset, .unset, .unset] [])) (fun t k => st261 t k) ?_
      refine own_via (T261.setTop (mkF m 170 #[.val (.int p0), .val (.long p1), .second, .val (.int p2), .val (.int p3), .val (.int zn), .val (.int z157), .val (.int z158), .val (.int z160), .val (.int z161), .val (.int z162), .val (.ref b163), .val (.ref b183), .unset, .unset, .unset, .unset, .unset] [(.ref b183)])) (fun t k => XS.aload X261.here hx rfl (hb hby at_168) rfl rfl k) ?_
      refine own_via (T261.setTop (mkF m 171 #[.val (.int p0), .val (.long p1), .second, .val (.int p2), .val (.int p3), .val (.int zn), .val (.int z157), .val (.int z158), .val (.int z160), .val (.int z161), .val (.int z162), .val (.ref b163), .val (.ref b183), .unset, .unset, .unset, .unset, .unset] [(.int (2 : Int32)), (.ref b183)])) (fun t k => XS.iconst X261.here hx rfl (hb hby at_170) k) ?_
      refine own_via (T261.setTop (mkF m 172 #[.val (.int p0), .val (.long p1), .second, .val (.int p2), .val (.int p3), .val (.int zn), .val (.int z157), .val (.int z158), .val (.int z160), .val (.int z161), .val (.int z162), .val (.ref b163), .val (.ref b183), .unset, .unset, .unset, .unset, .unset] [(.int (1 : Int32)), (.int (2 : Int32)), (.ref b183)])) (fun t k => XS.iconst X261.here hx rfl (hb hby at_171) k) ?_
      obtain ⟨cl265, Ar265, q265, S265, M265, H265, G265⟩ := id V261
      obtain ⟨T264, h264, X264, e264, W264, st264⟩ := stI X261 hx hZ e261 Ar265 (j := (2 : Int32)) (inb_of S265 ⟨by decide, by decide⟩) (g := (mkF m 172 #[.val (.int p0), .val (.long p1), .second, .val (.int p2), .val (.int p3), .val (.int zn), .val (.int z157), .val (.int z158), .val (.int z160), .val (.int z161), .val (.int z162), .val (.ref b163), .val (.ref b183), .unset, .unset, .unset, .unset, .unset] [(.int (1 : Int32)), (.int (2 : Int32)), (.ref b183)])) rfl rfl (hb hby at_172)
      have V264 : Arv Z h264 b183 k183 .int (4 : Int32) [(.int (3 : Int32)), (.int (2 : Int32)), (.int (1 : Int32)), (.int (0 : Int32))] (.int (0 : Int32)) := Arv.set Ar265 q265 S265 M265 H265 G265 rfl W264 2 rfl (Nat.le_of_ble_eq_true rfl)
      have N264 := Fr.snoc X264 N261 gg_b183
      have K266 : Keep h0 h264 [] := K263.wr W264 (Or.inr sz_b183)
      refine own_via (T264.setTop (mkF m 173 #[.val (.int p0), .val (.long p1), .second, .val (.int p2), .val (.int p3), .val (.int zn), .val (.int z157), .val (.int z158), .val (.int z160), .val (.int z161), .val (.int z162), .val (.ref b163), .val (.ref b183), .unset, .unset, .unset, .unset, .unset] [])) (fun t k => st264 t k) ?_
      refine own_via (T264.setTop (mkF m 175 #[.val (.int p0), .val (.long p1), .second, .val (.int p2), .val (.int p3), .val (.int zn), .val (.int z157), .val (.int z158), .val (.int z160), .val (.int z161), .val (.int z162), .val (.ref b163), .val (.ref b183), .unset, .unset, .unset, .unset, .unset] [(.ref b183)])) (fun t k => XS.aload X264.here hx rfl (hb hby at_173) rfl rfl k) ?_
      refine own_via (T264.setTop (mkF m 176 #[.val (.int p0), .val (.long p1), .second, .val (.int p2), .val (.int p3), .val (.int zn), .val (.int z157), .val (.int z158), .val (.int z160), .val (.int z161), .val (.int z162), .val (.ref b163), .val (.ref b183), .unset, .unset, .unset, .unset, .unset] [(.int (3 : Int32)), (.ref b183)])) (fun t k => XS.iconst X264.here hx rfl (hb hby at_175) k) ?_
      refine own_via (T264.setTop (mkF m 177 #[.val (.int p0), .val (.long p1), .second, .val (.int p2), .val (.int p3), .val (.int zn), .val (.int z157), .val (.int z158), .val (.int z160), .val (.int z161), .val (.int z162), .val (.ref b163), .val (.ref b183), .unset, .unset, .unset, .unset, .unset] [(.int (0 : Int32)), (.int (3 : Int32)), (.ref b183)])) (fun t k => XS.iconst X264.here hx rfl (hb hby at_176) k) ?_
      obtain ⟨cl268, Ar268, q268, S268, M268, H268, G268⟩ := id V264
      obtain ⟨T267, h267, X267, e267, W267, st267⟩ := stI X264 hx hZ e264 Ar268 (j := (3 : Int32)) (inb_of S268 ⟨by decide, by decide⟩) (g := (mkF m 177 #[.val (.int p0), .val (.long p1), .second, .val (.int p2), .val (.int p3), .val (.int zn), .val (.int z157), .val (.int z158), .val (.int z160), .val (.int z161), .val (.int z162), .val (.ref b163), .val (.ref b183), .unset, .unset, .unset, .unset, .unset] [(.int (0 : Int32)), (.int (3 : Int32)), (.ref b183)])) rfl rfl (hb hby at_177)
      have V267 : Arv Z h267 b183 k183 .int (4 : Int32) [(.int (3 : Int32)), (.int (2 : Int32)), (.int (1 : Int32)), (.int (0 : Int32))] (.int (0 : Int32)) := Arv.set Ar268 q268 S268 M268 H268 G268 rfl W267 3 rfl (Nat.le_of_ble_eq_true rfl)
      have N267 := Fr.snoc X267 N264 gg_b183
      have K269 : Keep h0 h267 [] := K266.wr W267 (Or.inr sz_b183)
      refine own_via (T267.setTop (mkF m 178 #[.val (.int p0), .val (.long p1), .second, .val (.int p2), .val (.int p3), .val (.int zn), .val (.int z157), .val (.int z158), .val (.int z160), .val (.int z161), .val (.int z162), .val (.ref b163), .val (.ref b183), .unset, .unset, .unset, .unset, .unset] [])) (fun t k => st267 t k) ?_
      refine own_via (T267.setTop (mkF m 230 #[.val (.int p0), .val (.long p1), .second, .val (.int p2), .val (.int p3), .val (.int zn), .val (.int z157), .val (.int z158), .val (.int z160), .val (.int z161), .val (.int z162), .val (.ref b163), .val (.ref b183), .unset, .unset, .unset, .unset, .unset] [])) (fun t k => XS.goto X267.here hx rfl (pc0 := 178) (pc' := 230) rfl (hb hby at_178) (by decide) (by decide) k) ?_
      obtain ⟨T270, h270, X270, e270, E270, A270, D270, -, st270⟩ := newO X267 hx hZ hown (hw _ (List.mem_of_getElem? (i := 4) rfl)) (hw _ (List.mem_of_getElem? (i := 5) rfl)) (hw _ (List.mem_of_getElem? (i := 6) rfl)) e267 (g := (mkF m 230 #[.val (.int p0), .val (.long p1), .second, .val (.int p2), .val (.int p3), .val (.int zn), .val (.int z157), .val (.int z158), .val (.int z160), .val (.int z161), .val (.int z162), .val (.ref b163), .val (.ref b183), .unset, .unset, .unset, .unset, .unset] [])) rfl (hb hby at_230) (by decide) (by decide)
      obtain ⟨b270, g270⟩ : ∃ z, z = h267.size := ⟨_, rfl⟩
      rw [← g270] at A270 D270 st270
      have gg_b270 : n0 ≤ b270 := Nat.le_trans (Nat.le_trans Z0 K269.1) (Nat.le_of_eq g270.symm)
      have sz_b270 : h0.size ≤ b270 := Nat.le_trans K269.1 (Nat.le_of_eq g270.symm)
      have ne_b163_b270 : b163 ≠ b270 := Nat.ne_of_lt (Nat.lt_of_lt_of_le (((((V180.ext E183).other W258 ne_b163_b183).other W261 ne_b163_b183).other W264 ne_b163_b183).other W267 ne_b163_b183).lt (Nat.le_of_eq g270.symm))
      have ne_b183_b270 : b183 ≠ b270 := Nat.ne_of_lt (Nat.lt_of_lt_of_le V267.lt (Nat.le_of_eq g270.symm))
      have F_starts_b270 : Fld Z h270 b270 "com/example/honeyguide/honeyguide/Spans" "starts" "[I" .null := D270 (Or.inl (hw _ (List.mem_of_getElem? (i := 14) rfl))) (ty := (.array .int)) (by decide)
      have F_ends_b270 : Fld Z h270 b270 "com/example/honeyguide/honeyguide/Spans" "ends" "[I" .null := D270 (Or.inl (hw _ (List.mem_of_getElem? (i := 16) rfl))) (ty := (.array .int)) (by decide)
      have F_head_b270 : Fld Z h270 b270 "com/example/honeyguide/honeyguide/Spans" "head" "I" (.int (0 : Int32)) := D270 (Or.inl (hw _ (List.mem_of_getElem? (i := 18) rfl))) (ty := .int) (by decide)
      have F_count_b270 : Fld Z h270 b270 "com/example/honeyguide/honeyguide/Spans" "count" "I" (.int (0 : Int32)) := D270 (Or.inl (hw _ (List.mem_of_getElem? (i := 33) rfl))) (ty := .int) (by decide)
      have K271 : Keep h0 h270 [] := K269.ext E270
      refine own_via (T270.setTop (mkF m 233 #[.val (.int p0), .val (.long p1), .second, .val (.int p2), .val (.int p3), .val (.int zn), .val (.int z157), .val (.int z158), .val (.int z160), .val (.int z161), .val (.int z162), .val (.ref b163), .val (.ref b183), .unset, .unset, .unset, .unset, .unset] [(.ref b270)])) (fun t k => st270 t k) ?_
      refine own_via (T270.setTop (mkF m 234 #[.val (.int p0), .val (.long p1), .second, .val (.int p2), .val (.int p3), .val (.int zn), .val (.int z157), .val (.int z158), .val (.int z160), .val (.int z161), .val (.int z162), .val (.ref b163), .val (.ref b183), .unset, .unset, .unset, .unset, .unset] [(.ref b270), (.ref b270)])) (fun t k => XS.dup X270.here hx rfl (hb hby at_233) rfl rfl k) ?_
      obtain ⟨_, _, ⟨T272, L272, k272, n272⟩, -, X272, ⟨Lc272, hQ272, l272, y272, z272⟩, st272⟩ := X270.specialBack hx (y := (⟨"com/example/honeyguide/honeyguide/Spans", "<init>", "()V"⟩ : MethodName)) rfl hown (mvT hZ (hw _ (List.mem_of_getElem? (i := 7) rfl))) (mvT hZ (hw _ (List.mem_of_getElem? (i := 8) rfl))) (mvT hZ (hw _ (List.mem_of_getElem? (i := 9) rfl))) (by decide) (backOf (W := 1) (rm1 l Z a0 hw [] b270 h270 n0 (Nat.le_trans Z0 K271.1) F_starts_b270 F_ends_b270 F_head_b270 F_count_b270 A270 gg_b270) hZ (hw _ (List.mem_of_getElem? (i := 9) rfl)) (hw _ (List.mem_of_getElem? (i := 6) rfl)) (by decide) (by decide)) (g := (mkF m 234 #[.val (.int p0), .val (.long p1), .second, .val (.int p2), .val (.int p3), .val (.int zn), .val (.int z157), .val (.int z158), .val (.int z160), .val (.int z161), .val (.int z162), .val (.ref b163), .val (.ref b183), .unset, .unset, .unset, .unset, .unset] [(.ref b270), (.ref b270)])) rfl (by rw [hml]; rfl) (Steps.refl _) (a := b270) (argsL := []) (rest := [(.ref b270)]) (lenOf pd_3 rfl) rfl (by show 2 * 0 + _ ≤ _; exact Nat.le_of_eq rfl) (hb hby at_234) (fun _ _ => ⟨rfl, e270, (by decide : 3 + 2 ≤ _), (by decide : 12 + 16 ≤ _)⟩)
      dsimp only [Pt.U, Pt.locs, Pt.cells, Pt.slots] at X272 l272 y272 z272 st272 hQ272
      rw [y272, z272] at X272
      have X272 : Stand _ _ _ _ _ _ _ _ _ _ T272 L272 5 28 := X272
      obtain ⟨h272, e272⟩ : ∃ h, T272.heap = h := ⟨_, rfl⟩
      rw [e272] at hQ272
      obtain ⟨rs_272, re_272, rfl, N272q, K272q, gg_rs_272, gg_re_272, sq_rs_272, sq_re_272, G272_0, G272_1, G272_2, G272_3, G272_4, G272_5, G272_6, nq272_0⟩ := hQ272
      have N272 : Fr n0 L272 := by rw [l272]; exact Fr.app N267 N272q
      have sz_rs_272 : h0.size ≤ rs_272 := Nat.le_trans K271.1 sq_rs_272
      have ne_b163_rs_272 : b163 ≠ rs_272 := Nat.ne_of_lt (Nat.lt_of_lt_of_le ((((((V180.ext E183).other W258 ne_b163_b183).other W261 ne_b163_b183).other W264 ne_b163_b183).other W267 ne_b163_b183).ext E270).lt sq_rs_272)
      have ne_b183_rs_272 : b183 ≠ rs_272 := Nat.ne_of_lt (Nat.lt_of_lt_of_le (V267.ext E270).lt sq_rs_272)
      have ne_b270_rs_272 : b270 ≠ rs_272 := Nat.ne_of_lt (Nat.lt_of_lt_of_le A270.lt sq_rs_272)
      have sz_re_272 : h0.size ≤ re_272 := Nat.le_trans K271.1 sq_re_272
      have ne_b163_re_272 : b163 ≠ re_272 := Nat.ne_of_lt (Nat.lt_of_lt_of_le ((((((V180.ext E183).other W258 ne_b163_b183).other W261 ne_b163_b183).other W264 ne_b163_b183).other W267 ne_b163_b183).ext E270).lt sq_re_272)
      have ne_b183_re_272 : b183 ≠ re_272 := Nat.ne_of_lt (Nat.lt_of_lt_of_le (V267.ext E270).lt sq_re_272)
      have ne_b270_re_272 : b270 ≠ re_272 := Nat.ne_of_lt (Nat.lt_of_lt_of_le A270.lt sq_re_272)
      have K273 : Keep h0 h272 [] := K271.trans K272q (fun x hx => (List.mem_cons.mp hx).elim (fun e => e ▸ Or.inr sz_b270) (fun hx => nomatch hx))
      refine own_via (T272.setTop (mkF m 237 #[.val (.int p0), .val (.long p1), .second, .val (.int p2), .val (.int p3), .val (.int zn), .val (.int z157), .val (.int z158), .val (.int z160), .val (.int z161), .val (.int z162), .val (.ref b163), .val (.ref b183), .unset, .unset, .unset, .unset, .unset] [(.ref b270)])) (fun t k => st272.trans k) ?_
      refine own_via (T272.setTop (mkF m 239 #[.val (.int p0), .val (.long p1), .second, .val (.int p2), .val (.int p3), .val (.int zn), .val (.int z157), .val (.int z158), .val (.int z160), .val (.int z161), .val (.int z162), .val (.ref b163), .val (.ref b183), .val (.ref b270), .unset, .unset, .unset, .unset] [])) (fun t k => XS.astore X272.here hx rfl (hb hby at_237) rfl rfl (l' := #[.val (.int p0), .val (.long p1), .second, .val (.int p2), .val (.int p3), .val (.int zn), .val (.int z157), .val (.int z158), .val (.int z160), .val (.int z161), .val (.int z162), .val (.ref b163), .val (.ref b183), .val (.ref b270), .unset, .unset, .unset, .unset]) rfl k) ?_
      have hI0 : own_Inv (fun _ => (0 : Int32)) (4 : Int32) (0 : Int32) := own_inv0
      refine own_via (T272.setTop (mkF m 241 #[.val (.int p0), .val (.long p1), .second, .val (.int p2), .val (.int p3), .val (.int zn), .val (.int z157), .val (.int z158), .val (.int z160), .val (.int z161), .val (.int z162), .val (.ref b163), .val (.ref b183), .val (.ref b270), .unset, .unset, .unset, .unset] [(.ref b270)])) (fun t k => XS.aload X272.here hx rfl (hb hby at_239) rfl rfl k) ?_
      refine own_via (T272.setTop (mkF m 243 #[.val (.int p0), .val (.long p1), .second, .val (.int p2), .val (.int p3), .val (.int zn), .val (.int z157), .val (.int z158), .val (.int z160), .val (.int z161), .val (.int z162), .val (.ref b163), .val (.ref b183), .val (.ref b270), .unset, .unset, .unset, .unset] [(.ref b163), (.ref b270)])) (fun t k => XS.aload X272.here hx rfl (hb hby at_241) rfl rfl k) ?_
      refine own_via (T272.setTop (mkF m 245 #[.val (.int p0), .val (.long p1), .second, .val (.int p2), .val (.int p3), .val (.int zn), .val (.int z157), .val (.int z158), .val (.int z160), .val (.int z161), .val (.int z162), .val (.ref b163), .val (.ref b183), .val (.ref b270), .unset, .unset, .unset, .unset] [(.ref b183), (.ref b163), (.ref b270)])) (fun t k => XS.aload X272.here hx rfl (hb hby at_243) rfl rfl k) ?_
      refine own_via (T272.setTop (mkF m 246 #[.val (.int p0), .val (.long p1), .second, .val (.int p2), .val (.int p3), .val (.int zn), .val (.int z157), .val (.int z158), .val (.int z160), .val (.int z161), .val (.int z162), .val (.ref b163), .val (.ref b183), .val (.ref b270), .unset, .unset, .unset, .unset] [(.int (0 : Int32)), (.ref b183), (.ref b163), (.ref b270)])) (fun t k => XS.iconst X272.here hx rfl (hb hby at_245) k) ?_
      have F275 := ((V267.ext E270).keep K272q (fun q => ne_b183_b270 (List.mem_singleton.mp q)))
      obtain ⟨cl276, Ar276, q276, S276, M276, H276, G276⟩ := id F275
      refine own_via (T272.setTop (mkF m 247 #[.val (.int p0), .val (.long p1), .second, .val (.int p2), .val (.int p3), .val (.int zn), .val (.int z157), .val (.int z158), .val (.int z160), .val (.int z161), .val (.int z162), .val (.ref b163), .val (.ref b183), .val (.ref b270), .unset, .unset, .unset, .unset] [(.int (3 : Int32)), (.ref b163), (.ref b270)])) (fun t k => X272.iaload hx (j := (0 : Int32)) (v := (.int (3 : Int32))) (by rw [e272]; exact Ar276.1) (State.isArrayOf_alike hZ.alike Ar276.2.1) Ar276.2.2 (inb_of S276 ⟨by decide, by decide⟩) (H276 0 (by rw [S276]; decide)) (g := (mkF m 246 #[.val (.int p0), .val (.long p1), .second, .val (.int p2), .val (.int p3), .val (.int zn), .val (.int z157), .val (.int z158), .val (.int z160), .val (.int z161), .val (.int z162), .val (.ref b163), .val (.ref b183), .val (.ref b270), .unset, .unset, .unset, .unset] [(.int (0 : Int32)), (.ref b183), (.ref b163), (.ref b270)])) rfl rfl (hb hby at_246) _ k) ?_
      refine own_via (T272.setTop (mkF m 249 #[.val (.int p0), .val (.long p1), .second, .val (.int p2), .val (.int p3), .val (.int zn), .val (.int z157), .val (.int z158), .val (.int z160), .val (.int z161), .val (.int z162), .val (.ref b163), .val (.ref b183), .val (.ref b270), .unset, .unset, .unset, .unset] [(.int zn), (.int (3 : Int32)), (.ref b163), (.ref b270)])) (fun t k => XS.iload X272.here hx rfl (hb hby at_247) rfl  k) ?_
      have F278 := (((((((V180.ext E183).other W258 ne_b163_b183).other W261 ne_b163_b183).other W264 ne_b163_b183).other W267 ne_b163_b183).ext E270).keep K272q (fun q => ne_b163_b270 (List.mem_singleton.mp q)))
      obtain ⟨_, _, ⟨T277, L277, k277, n277⟩, -, X277, ⟨Lc277, hQ277, l277, y277, z277⟩, st277⟩ := Jvm.LawKit.callS X272 hx (y := (⟨"com/example/honeyguide/honeyguide/SpansAfterPinLaw", "addIf", "(Lcom/example/honeyguide/honeyguide/Spans;[III)V"⟩ : MethodName)) hown (mvT hZ (hw _ (List.mem_of_getElem? (i := 19) rfl))) (mvT hZ (hw _ (List.mem_of_getElem? (i := 20) rfl))) (mvT hZ (hw _ (List.mem_of_getElem? (i := 21) rfl))) (mvT hZ (hw _ (List.mem_of_getElem? (i := 22) rfl))) (by decide) (backOf (W := 0) (rm3 l Z a0 hw [] b270 b163 (3 : Int32) zn h272 n0 (Nat.le_trans Z0 K273.1) rs_272 (4 : Int32) (0 : Int32) (fun _ => (0 : Int32)) re_272 (fun _ => (0 : Int32)) f180 G272_3 G272_1 G272_2 G272_5 G272_4 G272_6 G272_0 F278 gg_b270 gg_rs_272 gg_re_272 hI0 (by decide) ne_b270_rs_272 ne_b270_re_272 nq272_0 (by decide)) hZ (hw _ (List.mem_of_getElem? (i := 22) rfl)) (hw _ (List.mem_of_getElem? (i := 21) rfl)) (by decide) (by decide)) (g := (mkF m 249 #[.val (.int p0), .val (.long p1), .second, .val (.int p2), .val (.int p3), .val (.int zn), .val (.int z157), .val (.int z158), .val (.int z160), .val (.int z161), .val (.int z162), .val (.ref b163), .val (.ref b183), .val (.ref b270), .unset, .unset, .unset, .unset] [(.int zn), (.int (3 : Int32)), (.ref b163), (.ref b270)])) rfl (by rw [hml]; rfl) (argsL := [(.ref b270), (.ref b163), (.int (3 : Int32)), (.int zn)]) (rest := []) (lenOf pd_4 rfl) rfl (by show 2 * 0 + _ ≤ _; exact Nat.le_of_eq rfl) (hb hby at_249) (fun _ _ => ⟨rfl, e272, (by decide : 5 + 0 ≤ _), (by decide : 28 + 0 ≤ _)⟩)
      dsimp only [Pt.U, Pt.locs, Pt.cells, Pt.slots] at X277 l277 y277 z277 st277 hQ277
      rw [y277, z277] at X277
      have X277 : Stand _ _ _ _ _ _ _ _ _ _ T277 L277 5 28 := X277
      obtain ⟨h277, e277⟩ : ∃ h, T277.heap = h := ⟨_, rfl⟩
      rw [e277] at hQ277
      obtain ⟨rfl, N277q, K277q, G277_0, G277_1, G277_2, G277_3, G277_4, G277_5, G277_6⟩ := hQ277
      have N277 : Fr n0 L277 := by rw [l277]; exact Fr.app N272 N277q
      have mq277 : ∀ x ∈ [b270, rs_272, re_272], x ∈ [] ∨ h0.size ≤ x := by
        intro x hx
        rcases List.mem_cons.mp hx with e | hx
        · rw [e]; exact Or.inr sz_b270
        rcases List.mem_cons.mp hx with e | hx
        · rw [e]; exact Or.inr sz_rs_272
        rw [List.mem_singleton.mp hx]; exact Or.inr sz_re_272
      have K279 : Keep h0 h277 [] := K273.trans K277q mq277
      obtain ⟨z280, hz280⟩ : ∃ z : Int32, z = (own_ih (fun _ => (0 : Int32)) (4 : Int32) (0 : Int32) (3 : Int32) zn (f180 (3 : Int32).toInt.toNat)) := ⟨_, rfl⟩
      rw [← hz280] at G277_1
      obtain ⟨z281, hz281⟩ : ∃ z : Int32, z = (own_ic (0 : Int32) (3 : Int32) zn) := ⟨_, rfl⟩
      rw [← hz281] at G277_2
      obtain ⟨f282, hf282⟩ : ∃ g : Nat → Int32, g = (own_if (fun _ => (0 : Int32)) (fun _ => (0 : Int32)) (4 : Int32) (0 : Int32) (3 : Int32) zn (f180 (3 : Int32).toInt.toNat) (f180 (3 : Int32).toInt.toNat)) := ⟨_, rfl⟩
      rw [← hf282] at G277_5
      obtain ⟨f283, hf283⟩ : ∃ g : Nat → Int32, g = (own_if (fun _ => (0 : Int32)) (fun _ => (0 : Int32)) (4 : Int32) (0 : Int32) (3 : Int32) zn (f180 (3 : Int32).toInt.toNat) ((f180 (3 : Int32).toInt.toNat) + (1 : Int32))) := ⟨_, rfl⟩
      rw [← hf283] at G277_6
      refine own_via (T277.setTop (mkF m 252 #[.val (.int p0), .val (.long p1), .second, .val (.int p2), .val (.int p3), .val (.int zn), .val (.int z157), .val (.int z158), .val (.int z160), .val (.int z161), .val (.int z162), .val (.ref b163), .val (.ref b183), .val (.ref b270), .unset, .unset, .unset, .unset] [])) (fun t k => st277 t k) ?_
      have hs1 := own_step hI0 (by decide) hz280 hz281 hf282
      have hI1 := hs1.1
      have hc1 := hs1.2.1
      have hq1 := hs1.2.2 
      have hcb1 : z281.toInt ≤ 1 := by split at hc1 <;> (have e0 : (0 : Int32).toInt = 0 := rfl; omega)
      refine own_via (T277.setTop (mkF m 254 #[.val (.int p0), .val (.long p1), .second, .val (.int p2), .val (.int p3), .val (.int zn), .val (.int z157), .val (.int z158), .val (.int z160), .val (.int z161), .val (.int z162), .val (.ref b163), .val (.ref b183), .val (.ref b270), .unset, .unset, .unset, .unset] [(.ref b270)])) (fun t k => XS.aload X277.here hx rfl (hb hby at_252) rfl rfl k) ?_
      refine own_via (T277.setTop (mkF m 256 #[.val (.int p0), .val (.long p1), .second, .val (.int p2), .val (.int p3), .val (.int zn), .val (.int z157), .val (.int z158), .val (.int z160), .val (.int z161), .val (.int z162), .val (.ref b163), .val (.ref b183), .val (.ref b270), .unset, .unset, .unset, .unset] [(.ref b163), (.ref b270)])) (fun t k => XS.aload X277.here hx rfl (hb hby at_254) rfl rfl k) ?_
      refine own_via (T277.setTop (mkF m 258 #[.val (.int p0), .val (.long p1), .second, .val (.int p2), .val (.int p3), .val (.int zn), .val (.int z157), .val (.int z158), .val (.int z160), .val (.int z161), .val (.int z162), .val (.ref b163), .val (.ref b183), .val (.ref b270), .unset, .unset, .unset, .unset] [(.ref b183), (.ref b163), (.ref b270)])) (fun t k => XS.aload X277.here hx rfl (hb hby at_256) rfl rfl k) ?_
      refine own_via (T277.setTop (mkF m 259 #[.val (.int p0), .val (.long p1), .second, .val (.int p2), .val (.int p3), .val (.int zn), .val (.int z157), .val (.int z158), .val (.int z160), .val (.int z161), .val (.int z162), .val (.ref b163), .val (.ref b183), .val (.ref b270), .unset, .unset, .unset, .unset] [(.int (1 : Int32)), (.ref b183), (.ref b163), (.ref b270)])) (fun t k => XS.iconst X277.here hx rfl (hb hby at_258) k) ?_
      have F285 := (F275.keep K277q (fun q => (List.mem_cons.mp q).elim ne_b183_b270 (fun q => (List.mem_cons.mp q).elim ne_b183_rs_272 (fun q => (List.mem_cons.mp q).elim ne_b183_re_272 (fun q => nomatch q)))))
      obtain ⟨cl286, Ar286, q286, S286, M286, H286, G286⟩ := id F285
      refine own_via (T277.setTop (mkF m 260 #[.val (.int p0), .val (.long p1), .second, .val (.int p2), .val (.int p3), .val (.int zn), .val (.int z157), .val (.int z158), .val (.int z160), .val (.int z161), .val (.int z162), .val (.ref b163), .val (.ref b183), .val (.ref b270), .unset, .unset, .unset, .unset] [(.int (2 : Int32)), (.ref b163), (.ref b270)])) (fun t k => X277.iaload hx (j := (1 : Int32)) (v := (.int (2 : Int32))) (by rw [e277]; exact Ar286.1) (State.isArrayOf_alike hZ.alike Ar286.2.1) Ar286.2.2 (inb_of S286 ⟨by decide, by decide⟩) (H286 1 (by rw [S286]; decide)) (g := (mkF m 259 #[.val (.int p0), .val (.long p1), .second, .val (.int p2), .val (.int p3), .val (.int zn), .val (.int z157), .val (.int z158), .val (.int z160), .val (.int z161), .val (.int z162), .val (.ref b163), .val (.ref b183), .val (.ref b270), .unset, .unset, .unset, .unset] [(.int (1 : Int32)), (.ref b183), (.ref b163), (.ref b270)])) rfl rfl (hb hby at_259) _ k) ?_
      refine own_via (T277.setTop (mkF m 262 #[.val (.int p0), .val (.long p1), .second, .val (.int p2), .val (.int p3), .val (.int zn), .val (.int z157), .val (.int z158), .val (.int z160), .val (.int z161), .val (.int z162), .val (.ref b163), .val (.ref b183), .val (.ref b270), .unset, .unset, .unset, .unset] [(.int zn), (.int (2 : Int32)), (.ref b163), (.ref b270)])) (fun t k => XS.iload X277.here hx rfl (hb hby at_260) rfl  k) ?_
      have F288 := (F278.keep K277q (fun q => (List.mem_cons.mp q).elim ne_b163_b270 (fun q => (List.mem_cons.mp q).elim ne_b163_rs_272 (fun q => (List.mem_cons.mp q).elim ne_b163_re_272 (fun q => nomatch q)))))
      obtain ⟨_, _, ⟨T287, L287, k287, n287⟩, -, X287, ⟨Lc287, hQ287, l287, y287, z287⟩, st287⟩ := Jvm.LawKit.callS X277 hx (y := (⟨"com/example/honeyguide/honeyguide/SpansAfterPinLaw", "addIf", "(Lcom/example/honeyguide/honeyguide/Spans;[III)V"⟩ : MethodName)) hown (mvT hZ (hw _ (List.mem_of_getElem? (i := 19) rfl))) (mvT hZ (hw _ (List.mem_of_getElem? (i := 20) rfl))) (mvT hZ (hw _ (List.mem_of_getElem? (i := 21) rfl))) (mvT hZ (hw _ (List.mem_of_getElem? (i := 22) rfl))) (by decide) (backOf (W := 0) (rm3 l Z a0 hw [] b270 b163 (2 : Int32) zn h277 n0 (Nat.le_trans Z0 K279.1) rs_272 z280 z281 f282 re_272 f283 f180 G277_3 G277_1 G277_2 G277_5 G277_4 G277_6 G277_0 F288 gg_b270 gg_rs_272 gg_re_272 hI1 (by omega) ne_b270_rs_272 ne_b270_re_272 nq272_0 (by decide)) hZ (hw _ (List.mem_of_getElem? (i := 22) rfl)) (hw _ (List.mem_of_getElem? (i := 21) rfl)) (by decide) (by decide)) (g := (mkF m 262 #[.val (.int p0), .val (.long p1), .second, .val (.int p2), .val (.int p3), .val (.int zn), .val (.int z157), .val (.int z158), .val (.int z160), .val (.int z161), .val (.int z162), .val (.ref b163), .val (.ref b183), .val (.ref b270), .unset, .unset, .unset, .unset] [(.int zn), (.int (2 : Int32)), (.ref b163), (.ref b270)])) rfl (by rw [hml]; rfl) (argsL := [(.ref b270), (.ref b163), (.int (2 : Int32)), (.int zn)]) (rest := []) (lenOf pd_4 rfl) rfl (by show 2 * 0 + _ ≤ _; exact Nat.le_of_eq rfl) (hb hby at_262) (fun _ _ => ⟨rfl, e277, (by decide : 5 + 0 ≤ _), (by decide : 28 + 0 ≤ _)⟩)
      dsimp only [Pt.U, Pt.locs, Pt.cells, Pt.slots] at X287 l287 y287 z287 st287 hQ287
      rw [y287, z287] at X287
      have X287 : Stand _ _ _ _ _ _ _ _ _ _ T287 L287 5 28 := X287
      obtain ⟨h287, e287⟩ : ∃ h, T287.heap = h := ⟨_, rfl⟩
      rw [e287] at hQ287
      obtain ⟨rfl, N287q, K287q, G287_0, G287_1, G287_2, G287_3, G287_4, G287_5, G287_6⟩ := hQ287
      have N287 : Fr n0 L287 := by rw [l287]; exact Fr.app N277 N287q
      have mq287 : ∀ x ∈ [b270, rs_272, re_272], x ∈ [] ∨ h0.size ≤ x := by
        intro x hx
        rcases List.mem_cons.mp hx with e | hx
        · rw [e]; exact Or.inr sz_b270
        rcases List.mem_cons.mp hx with e | hx
        · rw [e]; exact Or.inr sz_rs_272
        rw [List.mem_singleton.mp hx]; exact Or.inr sz_re_272
      have K289 : Keep h0 h287 [] := K279.trans K287q mq287
      obtain ⟨z290, hz290⟩ : ∃ z : Int32, z = (own_ih f282 z280 z281 (2 : Int32) zn (f180 (2 : Int32).toInt.toNat)) := ⟨_, rfl⟩
      rw [← hz290] at G287_1
      obtain ⟨z291, hz291⟩ : ∃ z : Int32, z = (own_ic z281 (2 : Int32) zn) := ⟨_, rfl⟩
      rw [← hz291] at G287_2
      obtain ⟨f292, hf292⟩ : ∃ g : Nat → Int32, g = (own_if f282 f282 z280 z281 (2 : Int32) zn (f180 (2 : Int32).toInt.toNat) (f180 (2 : Int32).toInt.toNat)) := ⟨_, rfl⟩
      rw [← hf292] at G287_5
      obtain ⟨f293, hf293⟩ : ∃ g : Nat → Int32, g = (own_if f283 f282 z280 z281 (2 : Int32) zn (f180 (2 : Int32).toInt.toNat) ((f180 (2 : Int32).toInt.toNat) + (1 : Int32))) := ⟨_, rfl⟩
      rw [← hf293] at G287_6
      refine own_via (T287.setTop (mkF m 265 #[.val (.int p0), .val (.long p1), .second, .val (.int p2), .val (.int p3), .val (.int zn), .val (.int z157), .val (.int z158), .val (.int z160), .val (.int z161), .val (.int z162), .val (.ref b163), .val (.ref b183), .val (.ref b270), .unset, .unset, .unset, .unset] [])) (fun t k => st287 t k) ?_
      have hs2 := own_step hI1 (by omega) hz290 hz291 hf292
      have hI2 := hs2.1
      have hc2 := hs2.2.1
      have hq2 := hs2.2.2 
      have hcb2 : z291.toInt ≤ 2 := by split at hc2 <;> omega
      refine own_via (T287.setTop (mkF m 267 #[.val (.int p0), .val (.long p1), .second, .val (.int p2), .val (.int p3), .val (.int zn), .val (.int z157), .val (.int z158), .val (.int z160), .val (.int z161), .val (.int z162), .val (.ref b163), .val (.ref b183), .val (.ref b270), .unset, .unset, .unset, .unset] [(.ref b270)])) (fun t k => XS.aload X287.here hx rfl (hb hby at_265) rfl rfl k) ?_
      refine own_via (T287.setTop (mkF m 269 #[.val (.int p0), .val (.long p1), .second, .val (.int p2), .val (.int p3), .val (.int zn), .val (.int z157), .val (.int z158), .val (.int z160), .val (.int z161), .val (.int z162), .val (.ref b163), .val (.ref b183), .val (.ref b270), .unset, .unset, .unset, .unset] [(.ref b163), (.ref b270)])) (fun t k => XS.aload X287.here hx rfl (hb hby at_267) rfl rfl k) ?_
      refine own_via (T287.setTop (mkF m 271 #[.val (.int p0), .val (.long p1), .second, .val (.int p2), .val (.int p3), .val (.int zn), .val (.int z157), .val (.int z158), .val (.int z160), .val (.int z161), .val (.int z162), .val (.ref b163), .val (.ref b183), .val (.ref b270), .unset, .unset, .unset, .unset] [(.ref b183), (.ref b163), (.ref b270)])) (fun t k => XS.aload X287.here hx rfl (hb hby at_269) rfl rfl k) ?_
      refine own_via (T287.setTop (mkF m 272 #[.val (.int p0), .val (.long p1), .second, .val (.int p2), .val (.int p3), .val (.int zn), .val (.int z157), .val (.int z158), .val (.int z160), .val (.int z161), .val (.int z162), .val (.ref b163), .val (.ref b183), .val (.ref b270), .unset, .unset, .unset, .unset] [(.int (2 : Int32)), (.ref b183), (.ref b163), (.ref b270)])) (fun t k => XS.iconst X287.here hx rfl (hb hby at_271) k) ?_
      have F295 := (F285.keep K287q (fun q => (List.mem_cons.mp q).elim ne_b183_b270 (fun q => (List.mem_cons.mp q).elim ne_b183_rs_272 (fun q => (List.mem_cons.mp q).elim ne_b183_re_272 (fun q => nomatch q)))))
      obtain ⟨cl296, Ar296, q296, S296, M296, H296, G296⟩ := id F295
      refine own_via (T287.setTop (mkF m 273 #[.val (.int p0), .val (.long p1), .second, .val (.int p2), .val (.int p3), .val (.int zn), .val (.int z157), .val (.int z158), .val (.int z160), .val (.int z161), .val (.int z162), .val (.ref b163), .val (.ref b183), .val (.ref b270), .unset, .unset, .unset, .unset] [(.int (1 : Int32)), (.ref b163), (.ref b270)])) (fun t k => X287.iaload hx (j := (2 : Int32)) (v := (.int (1 : Int32))) (by rw [e287]; exact Ar296.1) (State.isArrayOf_alike hZ.alike Ar296.2.1) Ar296.2.2 (inb_of S296 ⟨by decide, by decide⟩) (H296 2 (by rw [S296]; decide)) (g := (mkF m 272 #[.val (.int p0), .val (.long p1), .second, .val (.int p2), .val (.int p3), .val (.int zn), .val (.int z157), .val (.int z158), .val (.int z160), .val (.int z161), .val (.int z162), .val (.ref b163), .val (.ref b183), .val (.ref b270), .unset, .unset, .unset, .unset] [(.int (2 : Int32)), (.ref b183), (.ref b163), (.ref b270)])) rfl rfl (hb hby at_272) _ k) ?_
      refine own_via (T287.setTop (mkF m 275 #[.val (.int p0), .val (.long p1), .second, .val (.int p2), .val (.int p3), .val (.int zn), .val (.int z157), .val (.int z158), .val (.int z160), .val (.int z161), .val (.int z162), .val (.ref b163), .val (.ref b183), .val (.ref b270), .unset, .unset, .unset, .unset] [(.int zn), (.int (1 : Int32)), (.ref b163), (.ref b270)])) (fun t k => XS.iload X287.here hx rfl (hb hby at_273) rfl  k) ?_
      have F298 := (F288.keep K287q (fun q => (List.mem_cons.mp q).elim ne_b163_b270 (fun q => (List.mem_cons.mp q).elim ne_b163_rs_272 (fun q => (List.mem_cons.mp q).elim ne_b163_re_272 (fun q => nomatch q)))))
      obtain ⟨_, _, ⟨T297, L297, k297, n297⟩, -, X297, ⟨Lc297, hQ297, l297, y297, z297⟩, st297⟩ := Jvm.LawKit.callS X287 hx (y := (⟨"com/example/honeyguide/honeyguide/SpansAfterPinLaw", "addIf", "(Lcom/example/honeyguide/honeyguide/Spans;[III)V"⟩ : MethodName)) hown (mvT hZ (hw _ (List.mem_of_getElem? (i := 19) rfl))) (mvT hZ (hw _ (List.mem_of_getElem? (i := 20) rfl))) (mvT hZ (hw _ (List.mem_of_getElem? (i := 21) rfl))) (mvT hZ (hw _ (List.mem_of_getElem? (i := 22) rfl))) (by decide) (backOf (W := 0) (rm3 l Z a0 hw [] b270 b163 (1 : Int32) zn h287 n0 (Nat.le_trans Z0 K289.1) rs_272 z290 z291 f292 re_272 f293 f180 G287_3 G287_1 G287_2 G287_5 G287_4 G287_6 G287_0 F298 gg_b270 gg_rs_272 gg_re_272 hI2 (by omega) ne_b270_rs_272 ne_b270_re_272 nq272_0 (by decide)) hZ (hw _ (List.mem_of_getElem? (i := 22) rfl)) (hw _ (List.mem_of_getElem? (i := 21) rfl)) (by decide) (by decide)) (g := (mkF m 275 #[.val (.int p0), .val (.long p1), .second, .val (.int p2), .val (.int p3), .val (.int zn), .val (.int z157), .val (.int z158), .val (.int z160), .val (.int z161), .val (.int z162), .val (.ref b163), .val (.ref b183), .val (.ref b270), .unset, .unset, .unset, .unset] [(.int zn), (.int (1 : Int32)), (.ref b163), (.ref b270)])) rfl (by rw [hml]; rfl) (argsL := [(.ref b270), (.ref b163), (.int (1 : Int32)), (.int zn)]) (rest := []) (lenOf pd_4 rfl) rfl (by show 2 * 0 + _ ≤ _; exact Nat.le_of_eq rfl) (hb hby at_275) (fun _ _ => ⟨rfl, e287, (by decide : 5 + 0 ≤ _), (by decide : 28 + 0 ≤ _)⟩)
      dsimp only [Pt.U, Pt.locs, Pt.cells, Pt.slots] at X297 l297 y297 z297 st297 hQ297
      rw [y297, z297] at X297
      have X297 : Stand _ _ _ _ _ _ _ _ _ _ T297 L297 5 28 := X297
      obtain ⟨h297, e297⟩ : ∃ h, T297.heap = h := ⟨_, rfl⟩
      rw [e297] at hQ297
      obtain ⟨rfl, N297q, K297q, G297_0, G297_1, G297_2, G297_3, G297_4, G297_5, G297_6⟩ := hQ297
      have N297 : Fr n0 L297 := by rw [l297]; exact Fr.app N287 N297q
      have mq297 : ∀ x ∈ [b270, rs_272, re_272], x ∈ [] ∨ h0.size ≤ x := by
        intro x hx
        rcases List.mem_cons.mp hx with e | hx
        · rw [e]; exact Or.inr sz_b270
        rcases List.mem_cons.mp hx with e | hx
        · rw [e]; exact Or.inr sz_rs_272
        rw [List.mem_singleton.mp hx]; exact Or.inr sz_re_272
      have K299 : Keep h0 h297 [] := K289.trans K297q mq297
      obtain ⟨z300, hz300⟩ : ∃ z : Int32, z = (own_ih f292 z290 z291 (1 : Int32) zn (f180 (1 : Int32).toInt.toNat)) := ⟨_, rfl⟩
      rw [← hz300] at G297_1
      obtain ⟨z301, hz301⟩ : ∃ z : Int32, z = (own_ic z291 (1 : Int32) zn) := ⟨_, rfl⟩
      rw [← hz301] at G297_2
      obtain ⟨f302, hf302⟩ : ∃ g : Nat → Int32, g = (own_if f292 f292 z290 z291 (1 : Int32) zn (f180 (1 : Int32).toInt.toNat) (f180 (1 : Int32).toInt.toNat)) := ⟨_, rfl⟩
      rw [← hf302] at G297_5
      obtain ⟨f303, hf303⟩ : ∃ g : Nat → Int32, g = (own_if f293 f292 z290 z291 (1 : Int32) zn (f180 (1 : Int32).toInt.toNat) ((f180 (1 : Int32).toInt.toNat) + (1 : Int32))) := ⟨_, rfl⟩
      rw [← hf303] at G297_6
      refine own_via (T297.setTop (mkF m 278 #[.val (.int p0), .val (.long p1), .second, .val (.int p2), .val (.int p3), .val (.int zn), .val (.int z157), .val (.int z158), .val (.int z160), .val (.int z161), .val (.int z162), .val (.ref b163), .val (.ref b183), .val (.ref b270), .unset, .unset, .unset, .unset] [])) (fun t k => st297 t k) ?_
      have hs3 := own_step hI2 (by omega) hz300 hz301 hf302
      have hI3 := hs3.1
      have hc3 := hs3.2.1
      have hq3 := hs3.2.2 
      have hcb3 : z301.toInt ≤ 3 := by split at hc3 <;> omega
      refine own_via (T297.setTop (mkF m 280 #[.val (.int p0), .val (.long p1), .second, .val (.int p2), .val (.int p3), .val (.int zn), .val (.int z157), .val (.int z158), .val (.int z160), .val (.int z161), .val (.int z162), .val (.ref b163), .val (.ref b183), .val (.ref b270), .unset, .unset, .unset, .unset] [(.ref b270)])) (fun t k => XS.aload X297.here hx rfl (hb hby at_278) rfl rfl k) ?_
      refine own_via (T297.setTop (mkF m 282 #[.val (.int p0), .val (.long p1), .second, .val (.int p2), .val (.int p3), .val (.int zn), .val (.int z157), .val (.int z158), .val (.int z160), .val (.int z161), .val (.int z162), .val (.ref b163), .val (.ref b183), .val (.ref b270), .unset, .unset, .unset, .unset] [(.ref b163), (.ref b270)])) (fun t k => XS.aload X297.here hx rfl (hb hby at_280) rfl rfl k) ?_
      refine own_via (T297.setTop (mkF m 284 #[.val (.int p0), .val (.long p1), .second, .val (.int p2), .val (.int p3), .val (.int zn), .val (.int z157), .val (.int z158), .val (.int z160), .val (.int z161), .val (.int z162), .val (.ref b163), .val (.ref b183), .val (.ref b270), .unset, .unset, .unset, .unset] [(.ref b183), (.ref b163), (.ref b270)])) (fun t k => XS.aload X297.here hx rfl (hb hby at_282) rfl rfl k) ?_
      refine own_via (T297.setTop (mkF m 285 #[.val (.int p0), .val (.long p1), .second, .val (.int p2), .val (.int p3), .val (.int zn), .val (.int z157), .val (.int z158), .val (.int z160), .val (.int z161), .val (.int z162), .val (.ref b163), .val (.ref b183), .val (.ref b270), .unset, .unset, .unset, .unset] [(.int (3 : Int32)), (.ref b183), (.ref b163), (.ref b270)])) (fun t k => XS.iconst X297.here hx rfl (hb hby at_284) k) ?_
      have F305 := (F295.keep K297q (fun q => (List.mem_cons.mp q).elim ne_b183_b270 (fun q => (List.mem_cons.mp q).elim ne_b183_rs_272 (fun q => (List.mem_cons.mp q).elim ne_b183_re_272 (fun q => nomatch q)))))
      obtain ⟨cl306, Ar306, q306, S306, M306, H306, G306⟩ := id F305
      refine own_via (T297.setTop (mkF m 286 #[.val (.int p0), .val (.long p1), .second, .val (.int p2), .val (.int p3), .val (.int zn), .val (.int z157), .val (.int z158), .val (.int z160), .val (.int z161), .val (.int z162), .val (.ref b163), .val (.ref b183), .val (.ref b270), .unset, .unset, .unset, .unset] [(.int (0 : Int32)), (.ref b163), (.ref b270)])) (fun t k => X297.iaload hx (j := (3 : Int32)) (v := (.int (0 : Int32))) (by rw [e297]; exact Ar306.1) (State.isArrayOf_alike hZ.alike Ar306.2.1) Ar306.2.2 (inb_of S306 ⟨by decide, by decide⟩) (H306 3 (by rw [S306]; decide)) (g := (mkF m 285 #[.val (.int p0), .val (.long p1), .second, .val (.int p2), .val (.int p3), .val (.int zn), .val (.int z157), .val (.int z158), .val (.int z160), .val (.int z161), .val (.int z162), .val (.ref b163), .val (.ref b183), .val (.ref b270), .unset, .unset, .unset, .unset] [(.int (3 : Int32)), (.ref b183), (.ref b163), (.ref b270)])) rfl rfl (hb hby at_285) _ k) ?_
      refine own_via (T297.setTop (mkF m 288 #[.val (.int p0), .val (.long p1), .second, .val (.int p2), .val (.int p3), .val (.int zn), .val (.int z157), .val (.int z158), .val (.int z160), .val (.int z161), .val (.int z162), .val (.ref b163), .val (.ref b183), .val (.ref b270), .unset, .unset, .unset, .unset] [(.int zn), (.int (0 : Int32)), (.ref b163), (.ref b270)])) (fun t k => XS.iload X297.here hx rfl (hb hby at_286) rfl  k) ?_
      have F308 := (F298.keep K297q (fun q => (List.mem_cons.mp q).elim ne_b163_b270 (fun q => (List.mem_cons.mp q).elim ne_b163_rs_272 (fun q => (List.mem_cons.mp q).elim ne_b163_re_272 (fun q => nomatch q)))))
      obtain ⟨_, _, ⟨T307, L307, k307, n307⟩, -, X307, ⟨Lc307, hQ307, l307, y307, z307⟩, st307⟩ := Jvm.LawKit.callS X297 hx (y := (⟨"com/example/honeyguide/honeyguide/SpansAfterPinLaw", "addIf", "(Lcom/example/honeyguide/honeyguide/Spans;[III)V"⟩ : MethodName)) hown (mvT hZ (hw _ (List.mem_of_getElem? (i := 19) rfl))) (mvT hZ (hw _ (List.mem_of_getElem? (i := 20) rfl))) (mvT hZ (hw _ (List.mem_of_getElem? (i := 21) rfl))) (mvT hZ (hw _ (List.mem_of_getElem? (i := 22) rfl))) (by decide) (backOf (W := 0) (rm3 l Z a0 hw [] b270 b163 (0 : Int32) zn h297 n0 (Nat.le_trans Z0 K299.1) rs_272 z300 z301 f302 re_272 f303 f180 G297_3 G297_1 G297_2 G297_5 G297_4 G297_6 G297_0 F308 gg_b270 gg_rs_272 gg_re_272 hI3 (by omega) ne_b270_rs_272 ne_b270_re_272 nq272_0 (by decide)) hZ (hw _ (List.mem_of_getElem? (i := 22) rfl)) (hw _ (List.mem_of_getElem? (i := 21) rfl)) (by decide) (by decide)) (g := (mkF m 288 #[.val (.int p0), .val (.long p1), .second, .val (.int p2), .val (.int p3), .val (.int zn), .val (.int z157), .val (.int z158), .val (.int z160), .val (.int z161), .val (.int z162), .val (.ref b163), .val (.ref b183), .val (.ref b270), .unset, .unset, .unset, .unset] [(.int zn), (.int (0 : Int32)), (.ref b163), (.ref b270)])) rfl (by rw [hml]; rfl) (argsL := [(.ref b270), (.ref b163), (.int (0 : Int32)), (.int zn)]) (rest := []) (lenOf pd_4 rfl) rfl (by show 2 * 0 + _ ≤ _; exact Nat.le_of_eq rfl) (hb hby at_288) (fun _ _ => ⟨rfl, e297, (by decide : 5 + 0 ≤ _), (by decide : 28 + 0 ≤ _)⟩)
      dsimp only [Pt.U, Pt.locs, Pt.cells, Pt.slots] at X307 l307 y307 z307 st307 hQ307
      rw [y307, z307] at X307
      have X307 : Stand _ _ _ _ _ _ _ _ _ _ T307 L307 5 28 := X307
      obtain ⟨h307, e307⟩ : ∃ h, T307.heap = h := ⟨_, rfl⟩
      rw [e307] at hQ307
      obtain ⟨rfl, N307q, K307q, G307_0, G307_1, G307_2, G307_3, G307_4, G307_5, G307_6⟩ := hQ307
      have N307 : Fr n0 L307 := by rw [l307]; exact Fr.app N297 N307q
      have mq307 : ∀ x ∈ [b270, rs_272, re_272], x ∈ [] ∨ h0.size ≤ x := by
        intro x hx
        rcases List.mem_cons.mp hx with e | hx
        · rw [e]; exact Or.inr sz_b270
        rcases List.mem_cons.mp hx with e | hx
        · rw [e]; exact Or.inr sz_rs_272
        rw [List.mem_singleton.mp hx]; exact Or.inr sz_re_272
      have K309 : Keep h0 h307 [] := K299.trans K307q mq307
      obtain ⟨z310, hz310⟩ : ∃ z : Int32, z = (own_ih f302 z300 z301 (0 : Int32) zn (f180 (0 : Int32).toInt.toNat)) := ⟨_, rfl⟩
      rw [← hz310] at G307_1
      obtain ⟨z311, hz311⟩ : ∃ z : Int32, z = (own_ic z301 (0 : Int32) zn) := ⟨_, rfl⟩
      rw [← hz311] at G307_2
      obtain ⟨f312, hf312⟩ : ∃ g : Nat → Int32, g = (own_if f302 f302 z300 z301 (0 : Int32) zn (f180 (0 : Int32).toInt.toNat) (f180 (0 : Int32).toInt.toNat)) := ⟨_, rfl⟩
      rw [← hf312] at G307_5
      obtain ⟨f313, hf313⟩ : ∃ g : Nat → Int32, g = (own_if f303 f302 z300 z301 (0 : Int32) zn (f180 (0 : Int32).toInt.toNat) ((f180 (0 : Int32).toInt.toNat) + (1 : Int32))) := ⟨_, rfl⟩
      rw [← hf313] at G307_6
      refine own_via (T307.setTop (mkF m 291 #[.val (.int p0), .val (.long p1), .second, .val (.int p2), .val (.int p3), .val (.int zn), .val (.int z157), .val (.int z158), .val (.int z160), .val (.int z161), .val (.int z162), .val (.ref b163), .val (.ref b183), .val (.ref b270), .unset, .unset, .unset, .unset] [])) (fun t k => st307 t k) ?_
      have hs4 := own_step hI3 (by omega) hz310 hz311 hf312
      have hI4 := hs4.1
      have hc4 := hs4.2.1
      have hq4 := hs4.2.2 
      refine own_via (T307.setTop (mkF m 293 #[.val (.int p0), .val (.long p1), .second, .val (.int p2), .val (.int p3), .val (.int zn), .val (.int z157), .val (.int z158), .val (.int z160), .val (.int z161), .val (.int z162), .val (.ref b163), .val (.ref b183), .val (.ref b270), .unset, .unset, .unset, .unset] [(.int z158)])) (fun t k => XS.iload X307.here hx rfl (hb hby at_291) rfl  k) ?_
      refine own_via (T307.setTop (mkF m 294 #[.val (.int p0), .val (.long p1), .second, .val (.int p2), .val (.int p3), .val (.int zn), .val (.int z157), .val (.int z158), .val (.int z160), .val (.int z161), .val (.int z162), .val (.ref b163), .val (.ref b183), .val (.ref b270), .unset, .unset, .unset, .unset] [(.long (z158.toInt64))])) (fun t k => XS.i2l X307.here hx rfl (hb hby at_293) rfl k) ?_
      refine own_via (T307.setTop (mkF m 295 #[.val (.int p0), .val (.long p1), .second, .val (.int p2), .val (.int p3), .val (.int zn), .val (.int z157), .val (.int z158), .val (.int z160), .val (.int z161), .val (.int z162), .val (.ref b163), .val (.ref b183), .val (.ref b270), .unset, .unset, .unset, .unset] [(.int p2), (.long (z158.toInt64))])) (fun t k => XS.iloadN X307.here hx rfl (hb hby at_294) rfl  k) ?_
      refine own_via (T307.setTop (mkF m 297 #[.val (.int p0), .val (.long p1), .second, .val (.int p2), .val (.int p3), .val (.int zn), .val (.int z157), .val (.int z158), .val (.int z160), .val (.int z161), .val (.int z162), .val (.ref b163), .val (.ref b183), .val (.ref b270), .unset, .unset, .unset, .unset] [(.int (65536 : Int32)), (.int p2), (.long (z158.toInt64))])) (fun t k => X307.ldcInt hx hown (mvT hZ (hw _ (List.mem_of_getElem? (i := 23) rfl))) (g := (mkF m 295 #[.val (.int p0), .val (.long p1), .second, .val (.int p2), .val (.int p3), .val (.int zn), .val (.int z157), .val (.int z158), .val (.int z160), .val (.int z161), .val (.int z162), .val (.ref b163), .val (.ref b183), .val (.ref b270), .unset, .unset, .unset, .unset] [(.int p2), (.long (z158.toInt64))])) rfl (hb hby at_295) _ k) ?_
      refine own_via (T307.setTop (mkF m 298 #[.val (.int p0), .val (.long p1), .second, .val (.int p2), .val (.int p3), .val (.int zn), .val (.int z157), .val (.int z158), .val (.int z160), .val (.int z161), .val (.int z162), .val (.ref b163), .val (.ref b183), .val (.ref b270), .unset, .unset, .unset, .unset] [(.int (p2 % (65536 : Int32))), (.long (z158.toInt64))])) (fun t k => Jvm.RoadKit.iremM X307 hx rfl (hb hby at_297) rfl (by decide) k) ?_
      refine own_via (T307.setTop (mkF m 299 #[.val (.int p0), .val (.long p1), .second, .val (.int p2), .val (.int p3), .val (.int zn), .val (.int z157), .val (.int z158), .val (.int z160), .val (.int z161), .val (.int z162), .val (.ref b163), .val (.ref b183), .val (.ref b270), .unset, .unset, .unset, .unset] [(.long ((p2 % (65536 : Int32)).toInt64)), (.long (z158.toInt64))])) (fun t k => XS.i2l X307.here hx rfl (hb hby at_298) rfl k) ?_
      refine own_via (T307.setTop (mkF m 300 #[.val (.int p0), .val (.long p1), .second, .val (.int p2), .val (.int p3), .val (.int zn), .val (.int z157), .val (.int z158), .val (.int z160), .val (.int z161), .val (.int z162), .val (.ref b163), .val (.ref b183), .val (.ref b270), .unset, .unset, .unset, .unset] [(.long ((z158.toInt64) + ((p2 % (65536 : Int32)).toInt64)))])) (fun t k => XS.ladd X307.here hx rfl (hb hby at_299) rfl k) ?_
      obtain ⟨z314, hz314⟩ : ∃ z : Int64, z = ((z158.toInt64) + ((p2 % (65536 : Int32)).toInt64)) := ⟨_, rfl⟩
      refine own_via (T307.setTop (mkF m 302 #[.val (.int p0), .val (.long p1), .second, .val (.int p2), .val (.int p3), .val (.int zn), .val (.int z157), .val (.int z158), .val (.int z160), .val (.int z161), .val (.int z162), .val (.ref b163), .val (.ref b183), .val (.ref b270), .val (.long z314), .second, .unset, .unset] [])) (fun t k => XS.lstore X307.here hx rfl (hb hby at_300) rfl (l' := #[.val (.int p0), .val (.long p1), .second, .val (.int p2), .val (.int p3), .val (.int zn), .val (.int z157), .val (.int z158), .val (.int z160), .val (.int z161), .val (.int z162), .val (.ref b163), .val (.ref b183), .val (.ref b270), .val (.long z314), .second, .unset, .unset]) (by rw [hz314]; rfl) k) ?_
      refine own_via (T307.setTop (mkF m 304 #[.val (.int p0), .val (.long p1), .second, .val (.int p2), .val (.int p3), .val (.int zn), .val (.int z157), .val (.int z158), .val (.int z160), .val (.int z161), .val (.int z162), .val (.ref b163), .val (.ref b183), .val (.ref b270), .val (.long z314), .second, .unset, .unset] [(.int p3)])) (fun t k => XS.iload X307.here hx rfl (hb hby at_302) rfl  k) ?_
      refine own_via (T307.setTop (mkF m 305 #[.val (.int p0), .val (.long p1), .second, .val (.int p2), .val (.int p3), .val (.int zn), .val (.int z157), .val (.int z158), .val (.int z160), .val (.int z161), .val (.int z162), .val (.ref b163), .val (.ref b183), .val (.ref b270), .val (.long z314), .second, .unset, .unset] [(.int (1 : Int32)), (.int p3)])) (fun t k => XS.iconst X307.here hx rfl (hb hby at_304) k) ?_
      refine own_via (T307.setTop (mkF m 306 #[.val (.int p0), .val (.long p1), .second, .val (.int p2), .val (.int p3), .val (.int zn), .val (.int z157), .val (.int z158), .val (.int z160), .val (.int z161), .val (.int z162), .val (.ref b163), .val (.ref b183), .val (.ref b270), .val (.long z314), .second, .unset, .unset] [(.int (p3 &&& (1 : Int32)))])) (fun t k => XS.iand X307.here hx rfl (hb hby at_305) rfl k) ?_
      obtain ⟨z315, hz315⟩ : ∃ z : Int32, z = (if (p3 &&& (1 : Int32)) = (0 : Int32) then p2 else (if z314 < (-2147483648 : Int64) then p2 else (if (2147483647 : Int64) < z314 then p2 else (z314.toInt32)))) := ⟨_, rfl⟩
      refine own_via (T307.setTop (mkF m 334 #[.val (.int p0), .val (.long p1), .second, .val (.int p2), .val (.int p3), .val (.int zn), .val (.int z157), .val (.int z158), .val (.int z160), .val (.int z161), .val (.int z162), .val (.ref b163), .val (.ref b183), .val (.ref b270), .val (.long z314), .second, .unset, .unset] [(.int z315)])) (fun t k => ?_) ?_
      · skip
        by_cases hj306_316 : (p3 &&& (1 : Int32)) = (0 : Int32)
        · refine XS.ifYes X307.here hx rfl (pc0 := 306) (pc' := 327) rfl (hb hby at_306) rfl ((if0 _ _).trans (teq hj306_316).1) (by decide) (by decide) (?_ : Steps p.tables e below (T307.setTop (mkF m 327 #[.val (.int p0), .val (.long p1), .second, .val (.int p2), .val (.int p3), .val (.int zn), .val (.int z157), .val (.int z158), .val (.int z160), .val (.int z161), .val (.int z162), .val (.ref b163), .val (.ref b183), .val (.ref b270), .val (.long z314), .second, .unset, .unset] [])) t)
          refine XS.iloadN X307.here hx rfl (hb hby at_327) rfl  (?_ : Steps p.tables e below (T307.setTop (mkF m 328 #[.val (.int p0), .val (.long p1), .second, .val (.int p2), .val (.int p3), .val (.int zn), .val (.int z157), .val (.int z158), .val (.int z160), .val (.int z161), .val (.int z162), .val (.ref b163), .val (.ref b183), .val (.ref b270), .val (.long z314), .second, .unset, .unset] [(.int p2)])) t)
          refine XS.goto X307.here hx rfl (pc0 := 328) (pc' := 334) rfl (hb hby at_328) (by decide) (by decide) (?_ : Steps p.tables e below (T307.setTop (mkF m 334 #[.val (.int p0), .val (.long p1), .second, .val (.int p2), .val (.int p3), .val (.int zn), .val (.int z157), .val (.int z158), .val (.int z160), .val (.int z161), .val (.int z162), .val (.ref b163), .val (.ref b183), .val (.ref b270), .val (.long z314), .second, .unset, .unset] [(.int p2)])) t)
          have q_z315 := (hz315.trans (if_pos hj306_316))
          subst q_z315
          exact k
        · refine XS.ifNo X307.here hx rfl (hb hby at_306) rfl ((if0 _ _).trans (feq hj306_316).1) (?_ : Steps p.tables e below (T307.setTop (mkF m 309 #[.val (.int p0), .val (.long p1), .second, .val (.int p2), .val (.int p3), .val (.int zn), .val (.int z157), .val (.int z158), .val (.int z160), .val (.int z161), .val (.int z162), .val (.ref b163), .val (.ref b183), .val (.ref b270), .val (.long z314), .second, .unset, .unset] [])) t)
          refine XS.lload X307.here hx rfl (hb hby at_309) rfl  (?_ : Steps p.tables e below (T307.setTop (mkF m 311 #[.val (.int p0), .val (.long p1), .second, .val (.int p2), .val (.int p3), .val (.int zn), .val (.int z157), .val (.int z158), .val (.int z160), .val (.int z161), .val (.int z162), .val (.ref b163), .val (.ref b183), .val (.ref b270), .val (.long z314), .second, .unset, .unset] [(.long z314)])) t)
          refine X307.ldc2Long hx hown (mvT hZ (hw _ (List.mem_of_getElem? (i := 54) rfl))) (g := (mkF m 311 #[.val (.int p0), .val (.long p1), .second, .val (.int p2), .val (.int p3), .val (.int zn), .val (.int z157), .val (.int z158), .val (.int z160), .val (.int z161), .val (.int z162), .val (.ref b163), .val (.ref b183), .val (.ref b270), .val (.long z314), .second, .unset, .unset] [(.long z314)])) rfl (hb hby at_311) _ (?_ : Steps p.tables e below (T307.setTop (mkF m 314 #[.val (.int p0), .val (.long p1), .second, .val (.int p2), .val (.int p3), .val (.int zn), .val (.int z157), .val (.int z158), .val (.int z160), .val (.int z161), .val (.int z162), .val (.ref b163), .val (.ref b183), .val (.ref b270), .val (.long z314), .second, .unset, .unset] [(.long (-2147483648 : Int64)), (.long z314)])) t)
          refine XS.lcmp X307.here hx rfl (hb hby at_314) rfl (?_ : Steps p.tables e below (T307.setTop (mkF m 315 #[.val (.int p0), .val (.long p1), .second, .val (.int p2), .val (.int p3), .val (.int zn), .val (.int z157), .val (.int z158), .val (.int z160), .val (.int z161), .val (.int z162), .val (.ref b163), .val (.ref b183), .val (.ref b270), .val (.long z314), .second, .unset, .unset] [(.int (lcmpW z314 (-2147483648 : Int64)))])) t)
          by_cases hj315_317 : z314 < (-2147483648 : Int64)
          · refine XS.ifYes X307.here hx rfl (pc0 := 315) (pc' := 327) rfl (hb hby at_315) rfl ((if0 _ _).trans (tlt ((lw_lt z314 (-2147483648 : Int64)).mpr hj315_317)).1) (by decide) (by decide) (?_ : Steps p.tables e below (T307.setTop (mkF m 327 #[.val (.int p0), .val (.long p1), .second, .val (.int p2), .val (.int p3), .val (.int zn), .val (.int z157), .val (.int z158), .val (.int z160), .val (.int z161), .val (.int z162), .val (.ref b163), .val (.ref b183), .val (.ref b270), .val (.long z314), .second, .unset, .unset] [])) t)
            refine XS.iloadN X307.here hx rfl (hb hby at_327) rfl  (?_ : Steps p.tables e below (T307.setTop (mkF m 328 #[.val (.int p0), .val (.long p1), .second, .val (.int p2), .val (.int p3), .val (.int zn), .val (.int z157), .val (.int z158), .val (.int z160), .val (.int z161), .val (.int z162), .val (.ref b163), .val (.ref b183), .val (.ref b270), .val (.long z314), .second, .unset, .unset] [(.int p2)])) t)
            refine XS.goto X307.here hx rfl (pc0 := 328) (pc' := 334) rfl (hb hby at_328) (by decide) (by decide) (?_ : Steps p.tables e below (T307.setTop (mkF m 334 #[.val (.int p0), .val (.long p1), .second, .val (.int p2), .val (.int p3), .val (.int zn), .val (.int z157), .val (.int z158), .val (.int z160), .val (.int z161), .val (.int z162), .val (.ref b163), .val (.ref b183), .val (.ref b270), .val (.long z314), .second, .unset, .unset] [(.int p2)])) t)
            have q_z315 := ((hz315.trans (if_neg hj306_316)).trans (if_pos hj315_317))
            subst q_z315
            exact k
          · refine XS.ifNo X307.here hx rfl (hb hby at_315) rfl ((if0 _ _).trans (flt (fun q => hj315_317 ((lw_lt z314 (-2147483648 : Int64)).mp q))).1) (?_ : Steps p.tables e below (T307.setTop (mkF m 318 #[.val (.int p0), .val (.long p1), .second, .val (.int p2), .val (.int p3), .val (.int zn), .val (.int z157), .val (.int z158), .val (.int z160), .val (.int z161), .val (.int z162), .val (.ref b163), .val (.ref b183), .val (.ref b270), .val (.long z314), .second, .unset, .unset] [])) t)
            refine XS.lload X307.here hx rfl (hb hby at_318) rfl  (?_ : Steps p.tables e below (T307.setTop (mkF m 320 #[.val (.int p0), .val (.long p1), .second, .val (.int p2), .val (.int p3), .val (.int zn), .val (.int z157), .val (.int z158), .val (.int z160), .val (.int z161), .val (.int z162), .val (.ref b163), .val (.ref b183), .val (.ref b270), .val (.long z314), .second, .unset, .unset] [(.long z314)])) t)
            refine X307.ldc2Long hx hown (mvT hZ (hw _ (List.mem_of_getElem? (i := 1) rfl))) (g := (mkF m 320 #[.val (.int p0), .val (.long p1), .second, .val (.int p2), .val (.int p3), .val (.int zn), .val (.int z157), .val (.int z158), .val (.int z160), .val (.int z161), .val (.int z162), .val (.ref b163), .val (.ref b183), .val (.ref b270), .val (.long z314), .second, .unset, .unset] [(.long z314)])) rfl (hb hby at_320) _ (?_ : Steps p.tables e below (T307.setTop (mkF m 323 #[.val (.int p0), .val (.long p1), .second, .val (.int p2), .val (.int p3), .val (.int zn), .val (.int z157), .val (.int z158), .val (.int z160), .val (.int z161), .val (.int z162), .val (.ref b163), .val (.ref b183), .val (.ref b270), .val (.long z314), .second, .unset, .unset] [(.long (2147483647 : Int64)), (.long z314)])) t)
            refine XS.lcmp X307.here hx rfl (hb hby at_323) rfl (?_ : Steps p.tables e below (T307.setTop (mkF m 324 #[.val (.int p0), .val (.long p1), .second, .val (.int p2), .val (.int p3), .val (.int zn), .val (.int z157), .val (.int z158), .val (.int z160), .val (.int z161), .val (.int z162), .val (.ref b163), .val (.ref b183), .val (.ref b270), .val (.long z314), .second, .unset, .unset] [(.int (lcmpW z314 (2147483647 : Int64)))])) t)
            by_cases hj324_318 : (2147483647 : Int64) < z314
            · refine XS.ifNo X307.here hx rfl (hb hby at_324) rfl ((if0 _ _).trans (tlt ((lw_gt z314 (2147483647 : Int64)).mpr hj324_318)).2.2.2) (?_ : Steps p.tables e below (T307.setTop (mkF m 327 #[.val (.int p0), .val (.long p1), .second, .val (.int p2), .val (.int p3), .val (.int zn), .val (.int z157), .val (.int z158), .val (.int z160), .val (.int z161), .val (.int z162), .val (.ref b163), .val (.ref b183), .val (.ref b270), .val (.long z314), .second, .unset, .unset] [])) t)
              refine XS.iloadN X307.here hx rfl (hb hby at_327) rfl  (?_ : Steps p.tables e below (T307.setTop (mkF m 328 #[.val (.int p0), .val (.long p1), .second, .val (.int p2), .val (.int p3), .val (.int zn), .val (.int z157), .val (.int z158), .val (.int z160), .val (.int z161), .val (.int z162), .val (.ref b163), .val (.ref b183), .val (.ref b270), .val (.long z314), .second, .unset, .unset] [(.int p2)])) t)
              refine XS.goto X307.here hx rfl (pc0 := 328) (pc' := 334) rfl (hb hby at_328) (by decide) (by decide) (?_ : Steps p.tables e below (T307.setTop (mkF m 334 #[.val (.int p0), .val (.long p1), .second, .val (.int p2), .val (.int p3), .val (.int zn), .val (.int z157), .val (.int z158), .val (.int z160), .val (.int z161), .val (.int z162), .val (.ref b163), .val (.ref b183), .val (.ref b270), .val (.long z314), .second, .unset, .unset] [(.int p2)])) t)
              have q_z315 := (((hz315.trans (if_neg hj306_316)).trans (if_neg hj315_317)).trans (if_pos hj324_318))
              subst q_z315
              exact k
            · refine XS.ifYes X307.here hx rfl (pc0 := 324) (pc' := 331) rfl (hb hby at_324) rfl ((if0 _ _).trans (flt (fun q => hj324_318 ((lw_gt z314 (2147483647 : Int64)).mp q))).2.2.2) (by decide) (by decide) (?_ : Steps p.tables e below (T307.setTop (mkF m 331 #[.val (.int p0), .val (.long p1), .second, .val (.int p2), .val (.int p3), .val (.int zn), .val (.int z157), .val (.int z158), .val (.int z160), .val (.int z161), .val (.int z162), .val (.ref b163), .val (.ref b183), .val (.ref b270), .val (.long z314), .second, .unset, .unset] [])) t)
              refine XS.lload X307.here hx rfl (hb hby at_331) rfl  (?_ : Steps p.tables e below (T307.setTop (mkF m 333 #[.val (.int p0), .val (.long p1), .second, .val (.int p2), .val (.int p3), .val (.int zn), .val (.int z157), .val (.int z158), .val (.int z160), .val (.int z161), .val (.int z162), .val (.ref b163), .val (.ref b183), .val (.ref b270), .val (.long z314), .second, .unset, .unset] [(.long z314)])) t)
              refine XS.l2i X307.here hx rfl (hb hby at_333) rfl (?_ : Steps p.tables e below (T307.setTop (mkF m 334 #[.val (.int p0), .val (.long p1), .second, .val (.int p2), .val (.int p3), .val (.int zn), .val (.int z157), .val (.int z158), .val (.int z160), .val (.int z161), .val (.int z162), .val (.ref b163), .val (.ref b183), .val (.ref b270), .val (.long z314), .second, .unset, .unset] [(.int (z314.toInt32))])) t)
              have q_z315 := (((hz315.trans (if_neg hj306_316)).trans (if_neg hj315_317)).trans (if_neg hj324_318))
              subst q_z315
              exact k
      refine own_via (T307.setTop (mkF m 336 #[.val (.int p0), .val (.long p1), .second, .val (.int p2), .val (.int p3), .val (.int zn), .val (.int z157), .val (.int z158), .val (.int z160), .val (.int z161), .val (.int z162), .val (.ref b163), .val (.ref b183), .val (.ref b270), .val (.long z314), .second, .val (.int z315), .unset] [])) (fun t k => XS.istore X307.here hx rfl (hb hby at_334) rfl (l' := #[.val (.int p0), .val (.long p1), .second, .val (.int p2), .val (.int p3), .val (.int zn), .val (.int z157), .val (.int z158), .val (.int z160), .val (.int z161), .val (.int z162), .val (.ref b163), .val (.ref b183), .val (.ref b270), .val (.long z314), .second, .val (.int z315), .unset]) rfl k) ?_
      refine own_via (T307.setTop (mkF m 338 #[.val (.int p0), .val (.long p1), .second, .val (.int p2), .val (.int p3), .val (.int zn), .val (.int z157), .val (.int z158), .val (.int z160), .val (.int z161), .val (.int z162), .val (.ref b163), .val (.ref b183), .val (.ref b270), .val (.long z314), .second, .val (.int z315), .unset] [(.ref b163)])) (fun t k => XS.aload X307.here hx rfl (hb hby at_336) rfl rfl k) ?_
      refine own_via (T307.setTop (mkF m 339 #[.val (.int p0), .val (.long p1), .second, .val (.int p2), .val (.int p3), .val (.int zn), .val (.int z157), .val (.int z158), .val (.int z160), .val (.int z161), .val (.int z162), .val (.ref b163), .val (.ref b183), .val (.ref b270), .val (.long z314), .second, .val (.int z315), .unset] [(.int (0 : Int32)), (.ref b163)])) (fun t k => XS.iconst X307.here hx rfl (hb hby at_338) k) ?_
      refine own_via (T307.setTop (mkF m 341 #[.val (.int p0), .val (.long p1), .second, .val (.int p2), .val (.int p3), .val (.int zn), .val (.int z157), .val (.int z158), .val (.int z160), .val (.int z161), .val (.int z162), .val (.ref b163), .val (.ref b183), .val (.ref b270), .val (.long z314), .second, .val (.int z315), .unset] [(.int zn), (.int (0 : Int32)), (.ref b163)])) (fun t k => XS.iload X307.here hx rfl (hb hby at_339) rfl  k) ?_
      refine own_via (T307.setTop (mkF m 343 #[.val (.int p0), .val (.long p1), .second, .val (.int p2), .val (.int p3), .val (.int zn), .val (.int z157), .val (.int z158), .val (.int z160), .val (.int z161), .val (.int z162), .val (.ref b163), .val (.ref b183), .val (.ref b270), .val (.long z314), .second, .val (.int z315), .unset] [(.int z315), (.int zn), (.int (0 : Int32)), (.ref b163)])) (fun t k => XS.iload X307.here hx rfl (hb hby at_341) rfl  k) ?_
      have F320 := (F308.keep K307q (fun q => (List.mem_cons.mp q).elim ne_b163_b270 (fun q => (List.mem_cons.mp q).elim ne_b163_rs_272 (fun q => (List.mem_cons.mp q).elim ne_b163_re_272 (fun q => nomatch q)))))
      obtain ⟨_, _, ⟨T319, L319, k319, n319⟩, -, X319, ⟨Lc319, hQ319, l319, y319, z319⟩, st319⟩ := Jvm.LawKit.callS X307 hx (y := (⟨"com/example/honeyguide/honeyguide/SpansAfterPinLaw", "below", "([IIII)I"⟩ : MethodName)) hown (mvT hZ (hw _ (List.mem_of_getElem? (i := 24) rfl))) (mvT hZ (hw _ (List.mem_of_getElem? (i := 25) rfl))) (mvT hZ (hw _ (List.mem_of_getElem? (i := 21) rfl))) (mvT hZ (hw _ (List.mem_of_getElem? (i := 26) rfl))) (by decide) (backOf (W := 0) (rm4 l Z a0 hw [] b163 (0 : Int32) zn z315 h307 n0 (Nat.le_trans Z0 K309.1) f180 F320 (by decide)) hZ (hw _ (List.mem_of_getElem? (i := 26) rfl)) (hw _ (List.mem_of_getElem? (i := 21) rfl)) (by decide) (by decide)) (g := (mkF m 343 #[.val (.int p0), .val (.long p1), .second, .val (.int p2), .val (.int p3), .val (.int zn), .val (.int z157), .val (.int z158), .val (.int z160), .val (.int z161), .val (.int z162), .val (.ref b163), .val (.ref b183), .val (.ref b270), .val (.long z314), .second, .val (.int z315), .unset] [(.int z315), (.int zn), (.int (0 : Int32)), (.ref b163)])) rfl (by rw [hml]; rfl) (argsL := [(.ref b163), (.int (0 : Int32)), (.int zn), (.int z315)]) (rest := []) (lenOf pd_5 rfl) rfl (by show 2 * 0 + _ ≤ _; exact Nat.le_of_eq rfl) (hb hby at_343) (fun _ _ => ⟨rfl, e307, (by decide : 5 + 0 ≤ _), (by decide : 28 + 0 ≤ _)⟩)
      dsimp only [Pt.U, Pt.locs, Pt.cells, Pt.slots] at X319 l319 y319 z319 st319 hQ319
      rw [y319, z319] at X319
      have X319 : Stand _ _ _ _ _ _ _ _ _ _ T319 L319 5 28 := X319
      obtain ⟨rfl, N319q, e319⟩ := hQ319
      have N319 : Fr n0 L319 := by rw [l319]; exact Fr.app N307 N319q
      refine own_via (T319.setTop (mkF m 346 #[.val (.int p0), .val (.long p1), .second, .val (.int p2), .val (.int p3), .val (.int zn), .val (.int z157), .val (.int z158), .val (.int z160), .val (.int z161), .val (.int z162), .val (.ref b163), .val (.ref b183), .val (.ref b270), .val (.long z314), .second, .val (.int z315), .unset] [(.int (own_f4 (0 : Int32) zn z315 f180))])) (fun t k => st319 t k) ?_
      refine own_via (T319.setTop (mkF m 348 #[.val (.int p0), .val (.long p1), .second, .val (.int p2), .val (.int p3), .val (.int zn), .val (.int z157), .val (.int z158), .val (.int z160), .val (.int z161), .val (.int z162), .val (.ref b163), .val (.ref b183), .val (.ref b270), .val (.long z314), .second, .val (.int z315), .unset] [(.ref b163), (.int (own_f4 (0 : Int32) zn z315 f180))])) (fun t k => XS.aload X319.here hx rfl (hb hby at_346) rfl rfl k) ?_
      refine own_via (T319.setTop (mkF m 349 #[.val (.int p0), .val (.long p1), .second, .val (.int p2), .val (.int p3), .val (.int zn), .val (.int z157), .val (.int z158), .val (.int z160), .val (.int z161), .val (.int z162), .val (.ref b163), .val (.ref b183), .val (.ref b270), .val (.long z314), .second, .val (.int z315), .unset] [(.int (1 : Int32)), (.ref b163), (.int (own_f4 (0 : Int32) zn z315 f180))])) (fun t k => XS.iconst X319.here hx rfl (hb hby at_348) k) ?_
      refine own_via (T319.setTop (mkF m 351 #[.val (.int p0), .val (.long p1), .second, .val (.int p2), .val (.int p3), .val (.int zn), .val (.int z157), .val (.int z158), .val (.int z160), .val (.int z161), .val (.int z162), .val (.ref b163), .val (.ref b183), .val (.ref b270), .val (.long z314), .second, .val (.int z315), .unset] [(.int zn), (.int (1 : Int32)), (.ref b163), (.int (own_f4 (0 : Int32) zn z315 f180))])) (fun t k => XS.iload X319.here hx rfl (hb hby at_349) rfl  k) ?_
      refine own_via (T319.setTop (mkF m 353 #[.val (.int p0), .val (.long p1), .second, .val (.int p2), .val (.int p3), .val (.int zn), .val (.int z157), .val (.int z158), .val (.int z160), .val (.int z161), .val (.int z162), .val (.ref b163), .val (.ref b183), .val (.ref b270), .val (.long z314), .second, .val (.int z315), .unset] [(.int z315), (.int zn), (.int (1 : Int32)), (.ref b163), (.int (own_f4 (0 : Int32) zn z315 f180))])) (fun t k => XS.iload X319.here hx rfl (hb hby at_351) rfl  k) ?_
      obtain ⟨_, _, ⟨T321, L321, k321, n321⟩, -, X321, ⟨Lc321, hQ321, l321, y321, z321⟩, st321⟩ := Jvm.LawKit.callS X319 hx (y := (⟨"com/example/honeyguide/honeyguide/SpansAfterPinLaw", "below", "([IIII)I"⟩ : MethodName)) hown (mvT hZ (hw _ (List.mem_of_getElem? (i := 24) rfl))) (mvT hZ (hw _ (List.mem_of_getElem? (i := 25) rfl))) (mvT hZ (hw _ (List.mem_of_getElem? (i := 21) rfl))) (mvT hZ (hw _ (List.mem_of_getElem? (i := 26) rfl))) (by decide) (backOf (W := 1) (rm4 l Z a0 hw [] b163 (1 : Int32) zn z315 h307 n0 (Nat.le_trans Z0 K309.1) f180 F320 (by decide)) hZ (hw _ (List.mem_of_getElem? (i := 26) rfl)) (hw _ (List.mem_of_getElem? (i := 21) rfl)) (by decide) (by decide)) (g := (mkF m 353 #[.val (.int p0), .val (.long p1), .second, .val (.int p2), .val (.int p3), .val (.int zn), .val (.int z157), .val (.int z158), .val (.int z160), .val (.int z161), .val (.int z162), .val (.ref b163), .val (.ref b183), .val (.ref b270), .val (.long z314), .second, .val (.int z315), .unset] [(.int z315), (.int zn), (.int (1 : Int32)), (.ref b163), (.int (own_f4 (0 : Int32) zn z315 f180))])) rfl (by rw [hml]; rfl) (argsL := [(.ref b163), (.int (1 : Int32)), (.int zn), (.int z315)]) (rest := [(.int (own_f4 (0 : Int32) zn z315 f180))]) (lenOf pd_5 rfl) rfl (by show 2 * 0 + _ ≤ _; exact Nat.le_of_eq rfl) (hb hby at_353) (fun _ _ => ⟨rfl, e319, (by decide : 5 + 0 ≤ _), (by decide : 28 + 0 ≤ _)⟩)
      dsimp only [Pt.U, Pt.locs, Pt.cells, Pt.slots] at X321 l321 y321 z321 st321 hQ321
      rw [y321, z321] at X321
      have X321 : Stand _ _ _ _ _ _ _ _ _ _ T321 L321 5 28 := X321
      obtain ⟨rfl, N321q, e321⟩ := hQ321
      have N321 : Fr n0 L321 := by rw [l321]; exact Fr.app N319 N321q
      refine own_via (T321.setTop (mkF m 356 #[.val (.int p0), .val (.long p1), .second, .val (.int p2), .val (.int p3), .val (.int zn), .val (.int z157), .val (.int z158), .val (.int z160), .val (.int z161), .val (.int z162), .val (.ref b163), .val (.ref b183), .val (.ref b270), .val (.long z314), .second, .val (.int z315), .unset] [(.int (own_f4 (1 : Int32) zn z315 f180)), (.int (own_f4 (0 : Int32) zn z315 f180))])) (fun t k => st321 t k) ?_
      refine own_via (T321.setTop (mkF m 357 #[.val (.int p0), .val (.long p1), .second, .val (.int p2), .val (.int p3), .val (.int zn), .val (.int z157), .val (.int z158), .val (.int z160), .val (.int z161), .val (.int z162), .val (.ref b163), .val (.ref b183), .val (.ref b270), .val (.long z314), .second, .val (.int z315), .unset] [(.int ((own_f4 (0 : Int32) zn z315 f180) + (own_f4 (1 : Int32) zn z315 f180)))])) (fun t k => XS.iadd X321.here hx rfl (hb hby at_356) rfl k) ?_
      refine own_via (T321.setTop (mkF m 359 #[.val (.int p0), .val (.long p1), .second, .val (.int p2), .val (.int p3), .val (.int zn), .val (.int z157), .val (.int z158), .val (.int z160), .val (.int z161), .val (.int z162), .val (.ref b163), .val (.ref b183), .val (.ref b270), .val (.long z314), .second, .val (.int z315), .unset] [(.ref b163), (.int ((own_f4 (0 : Int32) zn z315 f180) + (own_f4 (1 : Int32) zn z315 f180)))])) (fun t k => XS.aload X321.here hx rfl (hb hby at_357) rfl rfl k) ?_
      refine own_via (T321.setTop (mkF m 360 #[.val (.int p0), .val (.long p1), .second, .val (.int p2), .val (.int p3), .val (.int zn), .val (.int z157), .val (.int z158), .val (.int z160), .val (.int z161), .val (.int z162), .val (.ref b163), .val (.ref b183), .val (.ref b270), .val (.long z314), .second, .val (.int z315), .unset] [(.int (2 : Int32)), (.ref b163), (.int ((own_f4 (0 : Int32) zn z315 f180) + (own_f4 (1 : Int32) zn z315 f180)))])) (fun t k => XS.iconst X321.here hx rfl (hb hby at_359) k) ?_
      refine own_via (T321.setTop (mkF m 362 #[.val (.int p0), .val (.long p1), .second, .val (.int p2), .val (.int p3), .val (.int zn), .val (.int z157), .val (.int z158), .val (.int z160), .val (.int z161), .val (.int z162), .val (.ref b163), .val (.ref b183), .val (.ref b270), .val (.long z314), .second, .val (.int z315), .unset] [(.int zn), (.int (2 : Int32)), (.ref b163), (.int ((own_f4 (0 : Int32) zn z315 f180) + (own_f4 (1 : Int32) zn z315 f180)))])) (fun t k => XS.iload X321.here hx rfl (hb hby at_360) rfl  k) ?_
      refine own_via (T321.setTop (mkF m 364 #[.val (.int p0), .val (.long p1), .second, .val (.int p2), .val (.int p3), .val (.int zn), .val (.int z157), .val (.int z158), .val (.int z160), .val (.int z161), .val (.int z162), .val (.ref b163), .val (.ref b183), .val (.ref b270), .val (.long z314), .second, .val (.int z315), .unset] [(.int z315), (.int zn), (.int (2 : Int32)), (.ref b163), (.int ((own_f4 (0 : Int32) zn z315 f180) + (own_f4 (1 : Int32) zn z315 f180)))])) (fun t k => XS.iload X321.here hx rfl (hb hby at_362) rfl  k) ?_
      obtain ⟨_, _, ⟨T322, L322, k322, n322⟩, -, X322, ⟨Lc322, hQ322, l322, y322, z322⟩, st322⟩ := Jvm.LawKit.callS X321 hx (y := (⟨"com/example/honeyguide/honeyguide/SpansAfterPinLaw", "below", "([IIII)I"⟩ : MethodName)) hown (mvT hZ (hw _ (List.mem_of_getElem? (i := 24) rfl))) (mvT hZ (hw _ (List.mem_of_getElem? (i := 25) rfl))) (mvT hZ (hw _ (List.mem_of_getElem? (i := 21) rfl))) (mvT hZ (hw _ (List.mem_of_getElem? (i := 26) rfl))) (by decide) (backOf (W := 1) (rm4 l Z a0 hw [] b163 (2 : Int32) zn z315 h307 n0 (Nat.le_trans Z0 K309.1) f180 F320 (by decide)) hZ (hw _ (List.mem_of_getElem? (i := 26) rfl)) (hw _ (List.mem_of_getElem? (i := 21) rfl)) (by decide) (by decide)) (g := (mkF m 364 #[.val (.int p0), .val (.long p1), .second, .val (.int p2), .val (.int p3), .val (.int zn), .val (.int z157), .val (.int z158), .val (.int z160), .val (.int z161), .val (.int z162), .val (.ref b163), .val (.ref b183), .val (.ref b270), .val (.long z314), .second, .val (.int z315), .unset] [(.int z315), (.int zn), (.int (2 : Int32)), (.ref b163), (.int ((own_f4 (0 : Int32) zn z315 f180) + (own_f4 (1 : Int32) zn z315 f180)))])) rfl (by rw [hml]; rfl) (argsL := [(.ref b163), (.int (2 : Int32)), (.int zn), (.int z315)]) (rest := [(.int ((own_f4 (0 : Int32) zn z315 f180) + (own_f4 (1 : Int32) zn z315 f180)))]) (lenOf pd_5 rfl) rfl (by show 2 * 0 + _ ≤ _; exact Nat.le_of_eq rfl) (hb hby at_364) (fun _ _ => ⟨rfl, e321, (by decide : 5 + 0 ≤ _), (by decide : 28 + 0 ≤ _)⟩)
      dsimp only [Pt.U, Pt.locs, Pt.cells, Pt.slots] at X322 l322 y322 z322 st322 hQ322
      rw [y322, z322] at X322
      have X322 : Stand _ _ _ _ _ _ _ _ _ _ T322 L322 5 28 := X322
      obtain ⟨rfl, N322q, e322⟩ := hQ322
      have N322 : Fr n0 L322 := by rw [l322]; exact Fr.app N321 N322q
      refine own_via (T322.setTop (mkF m 367 #[.val (.int p0), .val (.long p1), .second, .val (.int p2), .val (.int p3), .val (.int zn), .val (.int z157), .val (.int z158), .val (.int z160), .val (.int z161), .val (.int z162), .val (.ref b163), .val (.ref b183), .val (.ref b270), .val (.long z314), .second, .val (.int z315), .unset] [(.int (own_f4 (2 : Int32) zn z315 f180)), (.int ((own_f4 (0 : Int32) zn z315 f180) + (own_f4 (1 : Int32) zn z315 f180)))])) (fun t k => st322 t k) ?_
      refine own_via (T322.setTop (mkF m 368 #[.val (.int p0), .val (.long p1), .second, .val (.int p2), .val (.int p3), .val (.int zn), .val (.int z157), .val (.int z158), .val (.int z160), .val (.int z161), .val (.int z162), .val (.ref b163), .val (.ref b183), .val (.ref b270), .val (.long z314), .second, .val (.int z315), .unset] [(.int (((own_f4 (0 : Int32) zn z315 f180) + (own_f4 (1 : Int32) zn z315 f180)) + (own_f4 (2 : Int32) zn z315 f180)))])) (fun t k => XS.iadd X322.here hx rfl (hb hby at_367) rfl k) ?_
      refine own_via (T322.setTop (mkF m 370 #[.val (.int p0), .val (.long p1), .second, .val (.int p2), .val (.int p3), .val (.int zn), .val (.int z157), .val (.int z158), .val (.int z160), .val (.int z161), .val (.int z162), .val (.ref b163), .val (.ref b183), .val (.ref b270), .val (.long z314), .second, .val (.int z315), .unset] [(.ref b163), (.int (((own_f4 (0 : Int32) zn z315 f180) + (own_f4 (1 : Int32) zn z315 f180)) + (own_f4 (2 : Int32) zn z315 f180)))])) (fun t k => XS.aload X322.here hx rfl (hb hby at_368) rfl rfl k) ?_
      refine own_via (T322.setTop (mkF m 371 #[.val (.int p0), .val (.long p1), .second, .val (.int p2), .val (.int p3), .val (.int zn), .val (.int z157), .val (.int z158), .val (.int z160), .val (.int z161), .val (.int z162), .val (.ref b163), .val (.ref b183), .val (.ref b270), .val (.long z314), .second, .val (.int z315), .unset] [(.int (3 : Int32)), (.ref b163), (.int (((own_f4 (0 : Int32) zn z315 f180) + (own_f4 (1 : Int32) zn z315 f180)) + (own_f4 (2 : Int32) zn z315 f180)))])) (fun t k => XS.iconst X322.here hx rfl (hb hby at_370) k) ?_
      refine own_via (T322.setTop (mkF m 373 #[.val (.int p0), .val (.long p1), .second, .val (.int p2), .val (.int p3), .val (.int zn), .val (.int z157), .val (.int z158), .val (.int z160), .val (.int z161), .val (.int z162), .val (.ref b163), .val (.ref b183), .val (.ref b270), .val (.long z314), .second, .val (.int z315), .unset] [(.int zn), (.int (3 : Int32)), (.ref b163), (.int (((own_f4 (0 : Int32) zn z315 f180) + (own_f4 (1 : Int32) zn z315 f180)) + (own_f4 (2 : Int32) zn z315 f180)))])) (fun t k => XS.iload X322.here hx rfl (hb hby at_371) rfl  k) ?_
      refine own_via (T322.setTop (mkF m 375 #[.val (.int p0), .val (.long p1), .second, .val (.int p2), .val (.int p3), .val (.int zn), .val (.int z157), .val (.int z158), .val (.int z160), .val (.int z161), .val (.int z162), .val (.ref b163), .val (.ref b183), .val (.ref b270), .val (.long z314), .second, .val (.int z315), .unset] [(.int z315), (.int zn), (.int (3 : Int32)), (.ref b163), (.int (((own_f4 (0 : Int32) zn z315 f180) + (own_f4 (1 : Int32) zn z315 f180)) + (own_f4 (2 : Int32) zn z315 f180)))])) (fun t k => XS.iload X322.here hx rfl (hb hby at_373) rfl  k) ?_
      obtain ⟨_, _, ⟨T323, L323, k323, n323⟩, -, X323, ⟨Lc323, hQ323, l323, y323, z323⟩, st323⟩ := Jvm.LawKit.callS X322 hx (y := (⟨"com/example/honeyguide/honeyguide/SpansAfterPinLaw", "below", "([IIII)I"⟩ : MethodName)) hown (mvT hZ (hw _ (List.mem_of_getElem? (i := 24) rfl))) (mvT hZ (hw _ (List.mem_of_getElem? (i := 25) rfl))) (mvT hZ (hw _ (List.mem_of_getElem? (i := 21) rfl))) (mvT hZ (hw _ (List.mem_of_getElem? (i := 26) rfl))) (by decide) (backOf (W := 1) (rm4 l Z a0 hw [] b163 (3 : Int32) zn z315 h307 n0 (Nat.le_trans Z0 K309.1) f180 F320 (by decide)) hZ (hw _ (List.mem_of_getElem? (i := 26) rfl)) (hw _ (List.mem_of_getElem? (i := 21) rfl)) (by decide) (by decide)) (g := (mkF m 375 #[.val (.int p0), .val (.long p1), .second, .val (.int p2), .val (.int p3), .val (.int zn), .val (.int z157), .val (.int z158), .val (.int z160), .val (.int z161), .val (.int z162), .val (.ref b163), .val (.ref b183), .val (.ref b270), .val (.long z314), .second, .val (.int z315), .unset] [(.int z315), (.int zn), (.int (3 : Int32)), (.ref b163), (.int (((own_f4 (0 : Int32) zn z315 f180) + (own_f4 (1 : Int32) zn z315 f180)) + (own_f4 (2 : Int32) zn z315 f180)))])) rfl (by rw [hml]; rfl) (argsL := [(.ref b163), (.int (3 : Int32)), (.int zn), (.int z315)]) (rest := [(.int (((own_f4 (0 : Int32) zn z315 f180) + (own_f4 (1 : Int32) zn z315 f180)) + (own_f4 (2 : Int32) zn z315 f180)))]) (lenOf pd_5 rfl) rfl (by show 2 * 0 + _ ≤ _; exact Nat.le_of_eq rfl) (hb hby at_375) (fun _ _ => ⟨rfl, e322, (by decide : 5 + 0 ≤ _), (by decide : 28 + 0 ≤ _)⟩)
      dsimp only [Pt.U, Pt.locs, Pt.cells, Pt.slots] at X323 l323 y323 z323 st323 hQ323
      rw [y323, z323] at X323
      have X323 : Stand _ _ _ _ _ _ _ _ _ _ T323 L323 5 28 := X323
      obtain ⟨rfl, N323q, e323⟩ := hQ323
      have N323 : Fr n0 L323 := by rw [l323]; exact Fr.app N322 N323q
      refine own_via (T323.setTop (mkF m 378 #[.val (.int p0), .val (.long p1), .second, .val (.int p2), .val (.int p3), .val (.int zn), .val (.int z157), .val (.int z158), .val (.int z160), .val (.int z161), .val (.int z162), .val (.ref b163), .val (.ref b183), .val (.ref b270), .val (.long z314), .second, .val (.int z315), .unset] [(.int (own_f4 (3 : Int32) zn z315 f180)), (.int (((own_f4 (0 : Int32) zn z315 f180) + (own_f4 (1 : Int32) zn z315 f180)) + (own_f4 (2 : Int32) zn z315 f180)))])) (fun t k => st323 t k) ?_
      refine own_via (T323.setTop (mkF m 379 #[.val (.int p0), .val (.long p1), .second, .val (.int p2), .val (.int p3), .val (.int zn), .val (.int z157), .val (.int z158), .val (.int z160), .val (.int z161), .val (.int z162), .val (.ref b163), .val (.ref b183), .val (.ref b270), .val (.long z314), .second, .val (.int z315), .unset] [(.int ((((own_f4 (0 : Int32) zn z315 f180) + (own_f4 (1 : Int32) zn z315 f180)) + (own_f4 (2 : Int32) zn z315 f180)) + (own_f4 (3 : Int32) zn z315 f180)))])) (fun t k => XS.iadd X323.here hx rfl (hb hby at_378) rfl k) ?_
      obtain ⟨zr, hzr⟩ : ∃ z : Int32, z = ((((own_f4 (0 : Int32) zn z315 f180) + (own_f4 (1 : Int32) zn z315 f180)) + (own_f4 (2 : Int32) zn z315 f180)) + (own_f4 (3 : Int32) zn z315 f180)) := ⟨_, rfl⟩
      refine own_via (T323.setTop (mkF m 381 #[.val (.int p0), .val (.long p1), .second, .val (.int p2), .val (.int p3), .val (.int zn), .val (.int z157), .val (.int z158), .val (.int z160), .val (.int z161), .val (.int z162), .val (.ref b163), .val (.ref b183), .val (.ref b270), .val (.long z314), .second, .val (.int z315), .val (.int zr)] [])) (fun t k => XS.istore X323.here hx rfl (hb hby at_379) rfl (l' := #[.val (.int p0), .val (.long p1), .second, .val (.int p2), .val (.int p3), .val (.int zn), .val (.int z157), .val (.int z158), .val (.int z160), .val (.int z161), .val (.int z162), .val (.ref b163), .val (.ref b183), .val (.ref b270), .val (.long z314), .second, .val (.int z315), .val (.int zr)]) (by rw [hzr]; rfl) k) ?_
      have hct : own_f5 z311 = zn := own_cntfin (own_nb hzn) (by have e0 : (0 : Int32).toInt = 0 := rfl; omega)
      have hav : own_a f312 z310 z311 z315 = zr := by
        have hb0 : own_cnt (fun _ => (0 : Int32)) (4 : Int32).toInt.toNat (0 : Int32).toInt.toNat z315 = 0 := rfl
        have a1 := hq1 z315; have a2 := hq2 z315; have a3 := hq3 z315; have a4 := hq4 z315
        exact own_afin (sa := f180) (n := zn) (by omega) hzr
      refine own_via (T323.setTop (mkF m 383 #[.val (.int p0), .val (.long p1), .second, .val (.int p2), .val (.int p3), .val (.int zn), .val (.int z157), .val (.int z158), .val (.int z160), .val (.int z161), .val (.int z162), .val (.ref b163), .val (.ref b183), .val (.ref b270), .val (.long z314), .second, .val (.int z315), .val (.int zr)] [(.ref b270)])) (fun t k => XS.aload X323.here hx rfl (hb hby at_381) rfl rfl k) ?_
      obtain ⟨cq324, kq324, q324a, q324b, q324c⟩ := isOf hZ e323 G307_0
      obtain ⟨_, _, ⟨T324, L324, k324, n324⟩, -, X324, ⟨Lc324, hQ324, l324, y324, z324⟩, st324⟩ := X323.virtualBack hx (y := (⟨"com/example/honeyguide/honeyguide/Spans", "count", "()I"⟩ : MethodName)) (z := (⟨"com/example/honeyguide/honeyguide/Spans", "count", "()I"⟩ : MethodName)) hown (mvT hZ (hw _ (List.mem_of_getElem? (i := 27) rfl))) (mvT hZ (hw _ (List.mem_of_getElem? (i := 28) rfl))) (notFace_of_selects (args := #[]) (mvT hZ (hw _ (List.mem_of_getElem? (i := 30) rfl)))) (mvT hZ (hw _ (List.mem_of_getElem? (i := 30) rfl))) (mvT hZ (hw _ (List.mem_of_getElem? (i := 29) rfl))) (by decide) (backOf (W := 0) (rm5 l Z a0 hw [] b270 h307 n0 (Nat.le_trans Z0 K309.1) z311 G307_2) hZ (hw _ (List.mem_of_getElem? (i := 31) rfl)) (hw _ (List.mem_of_getElem? (i := 6) rfl)) (by decide) (by decide)) q324a q324c (g := (mkF m 383 #[.val (.int p0), .val (.long p1), .second, .val (.int p2), .val (.int p3), .val (.int zn), .val (.int z157), .val (.int z158), .val (.int z160), .val (.int z161), .val (.int z162), .val (.ref b163), .val (.ref b183), .val (.ref b270), .val (.long z314), .second, .val (.int z315), .val (.int zr)] [(.ref b270)])) rfl (by rw [hml]; rfl) (Steps.refl _) (argsL := []) (rest := []) (lenOf pd_6 rfl) rfl (by show 2 * 0 + _ ≤ _; exact Nat.le_of_eq rfl) (hb hby at_383) (fun _ _ => ⟨rfl, e323, (by decide : 5 + 0 ≤ _), (by decide : 28 + 0 ≤ _)⟩)
      dsimp only [Pt.U, Pt.locs, Pt.cells, Pt.slots] at X324 l324 y324 z324 st324 hQ324
      rw [y324, z324] at X324
      have X324 : Stand _ _ _ _ _ _ _ _ _ _ T324 L324 5 28 := X324
      obtain ⟨rfl, N324q, e324⟩ := hQ324
      have N324 : Fr n0 L324 := by rw [l324]; exact Fr.app N323 N324q
      refine own_via (T324.setTop (mkF m 386 #[.val (.int p0), .val (.long p1), .second, .val (.int p2), .val (.int p3), .val (.int zn), .val (.int z157), .val (.int z158), .val (.int z160), .val (.int z161), .val (.int z162), .val (.ref b163), .val (.ref b183), .val (.ref b270), .val (.long z314), .second, .val (.int z315), .val (.int zr)] [(.int (own_f5 z311))])) (fun t k => st324.trans k) ?_
      refine own_via (T324.setTop (mkF m 388 #[.val (.int p0), .val (.long p1), .second, .val (.int p2), .val (.int p3), .val (.int zn), .val (.int z157), .val (.int z158), .val (.int z160), .val (.int z161), .val (.int z162), .val (.ref b163), .val (.ref b183), .val (.ref b270), .val (.long z314), .second, .val (.int z315), .val (.int zr)] [(.int zn), (.int (own_f5 z311))])) (fun t k => XS.iload X324.here hx rfl (hb hby at_386) rfl  k) ?_
      by_cases hc388_325 : (own_f5 z311) = zn
      · refine own_via (T324.setTop (mkF m 391 #[.val (.int p0), .val (.long p1), .second, .val (.int p2), .val (.int p3), .val (.int zn), .val (.int z157), .val (.int z158), .val (.int z160), .val (.int z161), .val (.int z162), .val (.ref b163), .val (.ref b183), .val (.ref b270), .val (.long z314), .second, .val (.int z315), .val (.int zr)] [])) (fun t k => XS.icmpNo X324.here hx rfl (hb hby at_388) rfl (teq hc388_325).2 k) ?_
        refine own_via (T324.setTop (mkF m 393 #[.val (.int p0), .val (.long p1), .second, .val (.int p2), .val (.int p3), .val (.int zn), .val (.int z157), .val (.int z158), .val (.int z160), .val (.int z161), .val (.int z162), .val (.ref b163), .val (.ref b183), .val (.ref b270), .val (.long z314), .second, .val (.int z315), .val (.int zr)] [(.ref b270)])) (fun t k => XS.aload X324.here hx rfl (hb hby at_391) rfl rfl k) ?_
        refine own_via (T324.setTop (mkF m 395 #[.val (.int p0), .val (.long p1), .second, .val (.int p2), .val (.int p3), .val (.int zn), .val (.int z157), .val (.int z158), .val (.int z160), .val (.int z161), .val (.int z162), .val (.ref b163), .val (.ref b183), .val (.ref b270), .val (.long z314), .second, .val (.int z315), .val (.int zr)] [(.int z315), (.ref b270)])) (fun t k => XS.iload X324.here hx rfl (hb hby at_393) rfl  k) ?_
        obtain ⟨cq326, kq326, q326a, q326b, q326c⟩ := isOf hZ e324 G307_0
        obtain ⟨_, _, ⟨T326, L326, k326, n326⟩, -, X326, ⟨Lc326, hQ326, l326, y326, z326⟩, st326⟩ := X324.virtualBack hx (y := (⟨"com/example/honeyguide/honeyguide/Spans", "after", "(I)I"⟩ : MethodName)) (z := (⟨"com/example/honeyguide/honeyguide/Spans", "after", "(I)I"⟩ : MethodName)) hown (mvT hZ (hw _ (List.mem_of_getElem? (i := 34) rfl))) (mvT hZ (hw _ (List.mem_of_getElem? (i := 35) rfl))) (notFace_of_selects (args := #[]) (mvT hZ (hw _ (List.mem_of_getElem? (i := 37) rfl)))) (mvT hZ (hw _ (List.mem_of_getElem? (i := 37) rfl))) (mvT hZ (hw _ (List.mem_of_getElem? (i := 36) rfl))) (by decide) (backOf (W := 0) (rm6 l Z a0 hw [] b270 z315 h307 n0 (Nat.le_trans Z0 K309.1) rs_272 z310 z311 f312 G307_3 G307_1 G307_2 G307_5 hI4) hZ (hw _ (List.mem_of_getElem? (i := 38) rfl)) (hw _ (List.mem_of_getElem? (i := 6) rfl)) (by decide) (by decide)) q326a q326c (g := (mkF m 395 #[.val (.int p0), .val (.long p1), .second, .val (.int p2), .val (.int p3), .val (.int zn), .val (.int z157), .val (.int z158), .val (.int z160), .val (.int z161), .val (.int z162), .val (.ref b163), .val (.ref b183), .val (.ref b270), .val (.long z314), .second, .val (.int z315), .val (.int zr)] [(.int z315), (.ref b270)])) rfl (by rw [hml]; rfl) (Steps.refl _) (argsL := [(.int z315)]) (rest := []) (lenOf pd_0 rfl) rfl (by show 2 * 0 + _ ≤ _; exact Nat.le_of_eq rfl) (hb hby at_395) (fun _ _ => ⟨rfl, e324, (by decide : 5 + 0 ≤ _), (by decide : 28 + 0 ≤ _)⟩)
        dsimp only [Pt.U, Pt.locs, Pt.cells, Pt.slots] at X326 l326 y326 z326 st326 hQ326
        rw [y326, z326] at X326
        have X326 : Stand _ _ _ _ _ _ _ _ _ _ T326 L326 5 28 := X326
        obtain ⟨rfl, N326q, e326⟩ := hQ326
        have N326 : Fr n0 L326 := by rw [l326]; exact Fr.app N324 N326q
        refine own_via (T326.setTop (mkF m 398 #[.val (.int p0), .val (.long p1), .second, .val (.int p2), .val (.int p3), .val (.int zn), .val (.int z157), .val (.int z158), .val (.int z160), .val (.int z161), .val (.int z162), .val (.ref b163), .val (.ref b183), .val (.ref b270), .val (.long z314), .second, .val (.int z315), .val (.int zr)] [(.int (own_a f312 z310 z311 z315))])) (fun t k => st326.trans k) ?_
        refine own_via (T326.setTop (mkF m 400 #[.val (.int p0), .val (.long p1), .second, .val (.int p2), .val (.int p3), .val (.int zn), .val (.int z157), .val (.int z158), .val (.int z160), .val (.int z161), .val (.int z162), .val (.ref b163), .val (.ref b183), .val (.ref b270), .val (.long z314), .second, .val (.int z315), .val (.int zr)] [(.int zr), (.int (own_a f312 z310 z311 z315))])) (fun t k => XS.iload X326.here hx rfl (hb hby at_398) rfl  k) ?_
        obtain ⟨z327, hz327⟩ : ∃ z : Int32, z = (if (own_a f312 z310 z311 z315) = zr then (1 : Int32) else (0 : Int32)) := ⟨_, rfl⟩
        refine own_via (T326.setTop (mkF m 408 #[.val (.int p0), .val (.long p1), .second, .val (.int p2), .val (.int p3), .val (.int zn), .val (.int z157), .val (.int z158), .val (.int z160), .val (.int z161), .val (.int z162), .val (.ref b163), .val (.ref b183), .val (.ref b270), .val (.long z314), .second, .val (.int z315), .val (.int zr)] [(.int z327)])) (fun t k => ?_) ?_
        · skip
          by_cases hj400_328 : (own_a f312 z310 z311 z315) = zr
          · refine XS.icmpNo X326.here hx rfl (hb hby at_400) rfl (teq hj400_328).2 (?_ : Steps p.tables e below (T326.setTop (mkF m 403 #[.val (.int p0), .val (.long p1), .second, .val (.int p2), .val (.int p3), .val (.int zn), .val (.int z157), .val (.int z158), .val (.int z160), .val (.int z161), .val (.int z162), .val (.ref b163), .val (.ref b183), .val (.ref b270), .val (.long z314), .second, .val (.int z315), .val (.int zr)] [])) t)
            refine XS.iconst X326.here hx rfl (hb hby at_403) (?_ : Steps p.tables e below (T326.setTop (mkF m 404 #[.val (.int p0), .val (.long p1), .second, .val (.int p2), .val (.int p3), .val (.int zn), .val (.int z157), .val (.int z158), .val (.int z160), .val (.int z161), .val (.int z162), .val (.ref b163), .val (.ref b183), .val (.ref b270), .val (.long z314), .second, .val (.int z315), .val (.int zr)] [(.int (1 : Int32))])) t)
            refine XS.goto X326.here hx rfl (pc0 := 404) (pc' := 408) rfl (hb hby at_404) (by decide) (by decide) (?_ : Steps p.tables e below (T326.setTop (mkF m 408 #[.val (.int p0), .val (.long p1), .second, .val (.int p2), .val (.int p3), .val (.int zn), .val (.int z157), .val (.int z158), .val (.int z160), .val (.int z161), .val (.int z162), .val (.ref b163), .val (.ref b183), .val (.ref b270), .val (.long z314), .second, .val (.int z315), .val (.int zr)] [(.int (1 : Int32))])) t)
            have q_z327 := (hz327.trans (if_pos hj400_328))
            subst q_z327
            exact k
          · refine XS.icmpYes X326.here hx rfl (pc0 := 400) (pc' := 407) rfl (hb hby at_400) rfl (feq hj400_328).2 (by decide) (by decide) (?_ : Steps p.tables e below (T326.setTop (mkF m 407 #[.val (.int p0), .val (.long p1), .second, .val (.int p2), .val (.int p3), .val (.int zn), .val (.int z157), .val (.int z158), .val (.int z160), .val (.int z161), .val (.int z162), .val (.ref b163), .val (.ref b183), .val (.ref b270), .val (.long z314), .second, .val (.int z315), .val (.int zr)] [])) t)
            refine XS.iconst X326.here hx rfl (hb hby at_407) (?_ : Steps p.tables e below (T326.setTop (mkF m 408 #[.val (.int p0), .val (.long p1), .second, .val (.int p2), .val (.int p3), .val (.int zn), .val (.int z157), .val (.int z158), .val (.int z160), .val (.int z161), .val (.int z162), .val (.ref b163), .val (.ref b183), .val (.ref b270), .val (.long z314), .second, .val (.int z315), .val (.int zr)] [(.int (0 : Int32))])) t)
            have q_z327 := (hz327.trans (if_neg hj400_328))
            subst q_z327
            exact k
        refine own_leave X326 Bd.notSynchronized (v := some (.int (nar .boolean z327))) (fun h => by rw [Bd.returns] at h; cases h) (fun fs hr => retN X326 hx (t := .boolean) Bd.returns (by simp) (hb hby at_408) hr) ?_ (by decide) (by decide)
        refine ⟨?_, N326⟩
        rw [hz327, if_pos hav]; rfl
      · exact absurd hct hc388_325
    · refine own_via (T183.setTop (mkF m 181 #[.val (.int p0), .val (.long p1), .second, .val (.int p2), .val (.int p3), .val (.int zn), .val (.int z157), .val (.int z158), .val (.int z160), .val (.int z161), .val (.int z162), .val (.ref b163), .val (.ref b183), .unset, .unset, .unset, .unset, .unset] [])) (fun t k => XS.icmpYes X183.here hx rfl (pc0 := 155) (pc' := 181) rfl (hb hby at_155) rfl (feq hc155_257).2 (by decide) (by decide) k) ?_
      refine own_via (T183.setTop (mkF m 183 #[.val (.int p0), .val (.long p1), .second, .val (.int p2), .val (.int p3), .val (.int zn), .val (.int z157), .val (.int z158), .val (.int z160), .val (.int z161), .val (.int z162), .val (.ref b163), .val (.ref b183), .unset, .unset, .unset, .unset, .unset] [(.int z157)])) (fun t k => XS.iload X183.here hx rfl (hb hby at_181) rfl  k) ?_
      refine own_via (T183.setTop (mkF m 184 #[.val (.int p0), .val (.long p1), .second, .val (.int p2), .val (.int p3), .val (.int zn), .val (.int z157), .val (.int z158), .val (.int z160), .val (.int z161), .val (.int z162), .val (.ref b163), .val (.ref b183), .unset, .unset, .unset, .unset, .unset] [(.int (2 : Int32)), (.int z157)])) (fun t k => XS.iconst X183.here hx rfl (hb hby at_183) k) ?_
      by_cases hc184_329 : z157 = (2 : Int32)
      · refine own_via (T183.setTop (mkF m 187 #[.val (.int p0), .val (.long p1), .second, .val (.int p2), .val (.int p3), .val (.int zn), .val (.int z157), .val (.int z158), .val (.int z160), .val (.int z161), .val (.int z162), .val (.ref b163), .val (.ref b183), .unset, .unset, .unset, .unset, .unset] [])) (fun t k => XS.icmpNo X183.here hx rfl (hb hby at_184) rfl (teq hc184_329).2 k) ?_
        refine own_via (T183.setTop (mkF m 189 #[.val (.int p0), .val (.long p1), .second, .val (.int p2), .val (.int p3), .val (.int zn), .val (.int z157), .val (.int z158), .val (.int z160), .val (.int z161), .val (.int z162), .val (.ref b163), .val (.ref b183), .unset, .unset, .unset, .unset, .unset] [(.ref b183)])) (fun t k => XS.aload X183.here hx rfl (hb hby at_187) rfl rfl k) ?_
        refine own_via (T183.setTop (mkF m 190 #[.val (.int p0), .val (.long p1), .second, .val (.int p2), .val (.int p3), .val (.int zn), .val (.int z157), .val (.int z158), .val (.int z160), .val (.int z161), .val (.int z162), .val (.ref b163), .val (.ref b183), .unset, .unset, .unset, .unset, .unset] [(.int (0 : Int32)), (.ref b183)])) (fun t k => XS.iconst X183.here hx rfl (hb hby at_189) k) ?_
        refine own_via (T183.setTop (mkF m 191 #[.val (.int p0), .val (.long p1), .second, .val (.int p2), .val (.int p3), .val (.int zn), .val (.int z157), .val (.int z158), .val (.int z160), .val (.int z161), .val (.int z162), .val (.ref b163), .val (.ref b183), .unset, .unset, .unset, .unset, .unset] [(.int (1 : Int32)), (.int (0 : Int32)), (.ref b183)])) (fun t k => XS.iconst X183.here hx rfl (hb hby at_190) k) ?_
        obtain ⟨cl331, Ar331, q331, S331, M331, H331, G331⟩ := id V183
        obtain ⟨T330, h330, X330, e330, W330, st330⟩ := stI X183 hx hZ e183 Ar331 (j := (0 : Int32)) (inb_of S331 ⟨by decide, by decide⟩) (g := (mkF m 191 #[.val (.int p0), .val (.long p1), .second, .val (.int p2), .val (.int p3), .val (.int zn), .val (.int z157), .val (.int z158), .val (.int z160), .val (.int z161), .val (.int z162), .val (.ref b163), .val (.ref b183), .unset, .unset, .unset, .unset, .unset] [(.int (1 : Int32)), (.int (0 : Int32)), (.ref b183)])) rfl rfl (hb hby at_191)
        have V330 : Arv Z h330 b183 k183 .int (4 : Int32) [(.int (1 : Int32)), (.int (0 : Int32)), (.int (0 : Int32)), (.int (0 : Int32))] (.int (0 : Int32)) := Arv.set Ar331 q331 S331 M331 H331 G331 rfl W330 0 rfl (Nat.le_of_ble_eq_true rfl)
        have N330 := Fr.snoc X330 N180 gg_b183
        have K332 : Keep h0 h330 [] := K184.wr W330 (Or.inr sz_b183)
        refine own_via (T330.setTop (mkF m 192 #[.val (.int p0), .val (.long p1), .second, .val (.int p2), .val (.int p3), .val (.int zn), .val (.int z157), .val (.int z158), .val (.int z160), .val (.int z161), .val (.int z162), .val (.ref b163), .val (.ref b183), .unset, .unset, .unset, .unset, .unset] [])) (fun t k => st330 t k) ?_
        refine own_via (T330.setTop (mkF m 194 #[.val (.int p0), .val (.long p1), .second, .val (.int p2), .val (.int p3), .val (.int zn), .val (.int z157), .val (.int z158), .val (.int z160), .val (.int z161), .val (.int z162), .val (.ref b163), .val (.ref b183), .unset, .unset, .unset, .unset, .unset] [(.ref b183)])) (fun t k => XS.aload X330.here hx rfl (hb hby at_192) rfl rfl k) ?_
        refine own_via (T330.setTop (mkF m 195 #[.val (.int p0), .val (.long p1), .second, .val (.int p2), .val (.int p3), .val (.int zn), .val (.int z157), .val (.int z158), .val (.int z160), .val (.int z161), .val (.int z162), .val (.ref b163), .val (.ref b183), .unset, .unset, .unset, .unset, .unset] [(.int (1 : Int32)), (.ref b183)])) (fun t k => XS.iconst X330.here hx rfl (hb hby at_194) k) ?_
        refine own_via (T330.setTop (mkF m 196 #[.val (.int p0), .val (.long p1), .second, .val (.int p2), .val (.int p3), .val (.int zn), .val (.int z157), .val (.int z158), .val (.int z160), .val (.int z161), .val (.int z162), .val (.ref b163), .val (.ref b183), .unset, .unset, .unset, .unset, .unset] [(.int (2 : Int32)), (.int (1 : Int32)), (.ref b183)])) (fun t k => XS.iconst X330.here hx rfl (hb hby at_195) k) ?_
        obtain ⟨cl334, Ar334, q334, S334, M334, H334, G334⟩ := id V330
        obtain ⟨T333, h333, X333, e333, W333, st333⟩ := stI X330 hx hZ e330 Ar334 (j := (1 : Int32)) (inb_of S334 ⟨by decide, by decide⟩) (g := (mkF m 196 #[.val (.int p0), .val (.long p1), .second, .val (.int p2), .val (.int p3), .val (.int zn), .val (.int z157), .val (.int z158), .val (.int z160), .val (.int z161), .val (.int z162), .val (.ref b163), .val (.ref b183), .unset, .unset, .unset, .unset, .unset] [(.int (2 : Int32)), (.int (1 : Int32)), (.ref b183)])) rfl rfl (hb hby at_196)
        have V333 : Arv Z h333 b183 k183 .int (4 : Int32) [(.int (1 : Int32)), (.int (2 : Int32)), (.int (0 : Int32)), (.int (0 : Int32))] (.int (0 : Int32)) := Arv.set Ar334 q334 S334 M334 H334 G334 rfl W333 1 rfl (Nat.le_of_ble_eq_true rfl)
        have N333 := Fr.snoc X333 N330 gg_b183
        have K335 : Keep h0 h333 [] := K332.wr W333 (Or.inr sz_b183)
        refine own_via (T333.setTop (mkF m 197 #[.val (.int p0), .val (.long p1), .second, .val (.int p2), .val (.int p3), .val (.int zn), .val (.int z157), .val (.int z158), .val (.int z160), .val (.int z161), .val (.int z162), .val (.ref b163), .val (.ref b183), .unset, .unset, .unset, .unset, .unset] [])) (fun t k => st333 t k) ?_
        refine own_via (T333.setTop (mkF m 199 #[.val (.int p0), .val (.long p1), .second, .val (.int p2), .val (.int p3), .val (.int zn), .val (.int z157), .val (.int z158), .val (.int z160), .val (.int z161), .val (.int z162), .val (.ref b163), .val (.ref b183), .unset, .unset, .unset, .unset, .unset] [(.ref b183)])) (fun t k => XS.aload X333.here hx rfl (hb hby at_197) rfl rfl k) ?_
        refine own_via (T333.setTop (mkF m 200 #[.val (.int p0), .val (.long p1), .second, .val (.int p2), .val (.int p3), .val (.int zn), .val (.int z157), .val (.int z158), .val (.int z160), .val (.int z161), .val (.int z162), .val (.ref b163), .val (.ref b183), .unset, .unset, .unset, .unset, .unset] [(.int (2 : Int32)), (.ref b183)])) (fun t k => XS.iconst X333.here hx rfl (hb hby at_199) k) ?_
        refine own_via (T333.setTop (mkF m 201 #[.val (.int p0), .val (.long p1), .second, .val (.int p2), .val (.int p3), .val (.int zn), .val (.int z157), .val (.int z158), .val (.int z160), .val (.int z161), .val (.int z162), .val (.ref b163), .val (.ref b183), .unset, .unset, .unset, .unset, .unset] [(.int (0 : Int32)), (.int (2 : Int32)), (.ref b183)])) (fun t k => XS.iconst X333.here hx rfl (hb hby at_200) k) ?_
        obtain ⟨cl337, Ar337, q337, S337, M337, H337, G337⟩ := id V333
        obtain ⟨T336, h336, X336, e336, W336, st336⟩ := stI X333 hx hZ e333 Ar337 (j := (2 : Int32)) (inb_of S337 ⟨by decide, by decide⟩) (g := (mkF m 201 #[.val (.int p0), .val (.long p1), .second, .val (.int p2), .val (.int p3), .val (.int zn), .val (.int z157), .val (.int z158), .val (.int z160), .val (.int z161), .val (.int z162), .val (.ref b163), .val (.ref b183), .unset, .unset, .unset, .unset, .unset] [(.int (0 : Int32)), (.int (2 : Int32)), (.ref b183)])) rfl rfl (hb hby at_201)
        have V336 : Arv Z h336 b183 k183 .int (4 : Int32) [(.int (1 : Int32)), (.int (2 : Int32)), (.int (0 : Int32)), (.int (0 : Int32))] (.int (0 : Int32)) := Arv.set Ar337 q337 S337 M337 H337 G337 rfl W336 2 rfl (Nat.le_of_ble_eq_true rfl)
        have N336 := Fr.snoc X336 N333 gg_b183
        have K338 : Keep h0 h336 [] := K335.wr W336 (Or.inr sz_b183)
        refine own_via (T336.setTop (mkF m 202 #[.val (.int p0), .val (.long p1), .second, .val (.int p2), .val (.int p3), .val (.int zn), .val (.int z157), .val (.int z158), .val (.int z160), .val (.int z161), .val (.int z162), .val (.ref b163), .val (.ref b183), .unset, .unset, .unset, .unset, .unset] [])) (fun t k => st336 t k) ?_
        refine own_via (T336.setTop (mkF m 204 #[.val (.int p0), .val (.long p1), .second, .val (.int p2), .val (.int p3), .val (.int zn), .val (.int z157), .val (.int z158), .val (.int z160), .val (.int z161), .val (.int z162), .val (.ref b163), .val (.ref b183), .unset, .unset, .unset, .unset, .unset] [(.ref b183)])) (fun t k => XS.aload X336.here hx rfl (hb hby at_202) rfl rfl k) ?_
        refine own_via (T336.setTop (mkF m 205 #[.val (.int p0), .val (.long p1), .second, .val (.int p2), .val (.int p3), .val (.int zn), .val (.int z157), .val (.int z158), .val (.int z160), .val (.int z161), .val (.int z162), .val (.ref b163), .val (.ref b183), .unset, .unset, .unset, .unset, .unset] [(.int (3 : Int32)), (.ref b183)])) (fun t k => XS.iconst X336.here hx rfl (hb hby at_204) k) ?_
        refine own_via (T336.setTop (mkF m 206 #[.val (.int p0), .val (.long p1), .second, .val (.int p2), .val (.int p3), .val (.int zn), .val (.int z157), .val (.int z158), .val (.int z160), .val (.int z161), .val (.int z162), .val (.ref b163), .val (.ref b183), .unset, .unset, .unset, .unset, .unset] [(.int (3 : Int32)), (.int (3 : Int32)), (.ref b183)])) (fun t k => XS.iconst X336.here hx rfl (hb hby at_205) k) ?_
        obtain ⟨cl340, Ar340, q340, S340, M340, H340, G340⟩ := id V336
        obtain ⟨T339, h339, X339, e339, W339, st339⟩ := stI X336 hx hZ e336 Ar340 (j := (3 : Int32)) (inb_of S340 ⟨by decide, by decide⟩) (g := (mkF m 206 #[.val (.int p0), .val (.long p1), .second, .val (.int p2), .val (.int p3), .val (.int zn), .val (.int z157), .val (.int z158), .val (.int z160), .val (.int z161), .val (.int z162), .val (.ref b163), .val (.ref b183), .unset, .unset, .unset, .unset, .unset] [(.int (3 : Int32)), (.int (3 : Int32)), (.ref b183)])) rfl rfl (hb hby at_206)
        have V339 : Arv Z h339 b183 k183 .int (4 : Int32) [(.int (1 : Int32)), (.int (2 : Int32)), (.int (0 : Int32)), (.int (3 : Int32))] (.int (0 : Int32)) := Arv.set Ar340 q340 S340 M340 H340 G340 rfl W339 3 rfl (Nat.le_of_ble_eq_true rfl)
        have N339 := Fr.snoc X339 N336 gg_b183
        have K341 : Keep h0 h339 [] := K338.wr W339 (Or.inr sz_b183)
        refine own_via (T339.setTop (mkF m 207 #[.val (.int p0), .val (.long p1), .second, .val (.int p2), .val (.int p3), .val (.int zn), .val (.int z157), .val (.int z158), .val (.int z160), .val (.int z161), .val (.int z162), .val (.ref b163), .val (.ref b183), .unset, .unset, .unset, .unset, .unset] [])) (fun t k => st339 t k) ?_
        refine own_via (T339.setTop (mkF m 230 #[.val (.int p0), .val (.long p1), .second, .val (.int p2), .val (.int p3), .val (.int zn), .val (.int z157), .val (.int z158), .val (.int z160), .val (.int z161), .val (.int z162), .val (.ref b163), .val (.ref b183), .unset, .unset, .unset, .unset, .unset] [])) (fun t k => XS.goto X339.here hx rfl (pc0 := 207) (pc' := 230) rfl (hb hby at_207) (by decide) (by decide) k) ?_
        obtain ⟨T342, h342, X342, e342, E342, A342, D342, -, st342⟩ := newO X339 hx hZ hown (hw _ (List.mem_of_getElem? (i := 4) rfl)) (hw _ (List.mem_of_getElem? (i := 5) rfl)) (hw _ (List.mem_of_getElem? (i := 6) rfl)) e339 (g := (mkF m 230 #[.val (.int p0), .val (.long p1), .second, .val (.int p2), .val (.int p3), .val (.int zn), .val (.int z157), .val (.int z158), .val (.int z160), .val (.int z161), .val (.int z162), .val (.ref b163), .val (.ref b183), .unset, .unset, .unset, .unset, .unset] [])) rfl (hb hby at_230) (by decide) (by decide)
        obtain ⟨b342, g342⟩ : ∃ z, z = h339.size := ⟨_, rfl⟩
        rw [← g342] at A342 D342 st342
        have gg_b342 : n0 ≤ b342 := Nat.le_trans (Nat.le_trans Z0 K341.1) (Nat.le_of_eq g342.symm)
        have sz_b342 : h0.size ≤ b342 := Nat.le_trans K341.1 (Nat.le_of_eq g342.symm)
        have ne_b163_b342 : b163 ≠ b342 := Nat.ne_of_lt (Nat.lt_of_lt_of_le (((((V180.ext E183).other W330 ne_b163_b183).other W333 ne_b163_b183).other W336 ne_b163_b183).other W339 ne_b163_b183).lt (Nat.le_of_eq g342.symm))
        have ne_b183_b342 : b183 ≠ b342 := Nat.ne_of_lt (Nat.lt_of_lt_of_le V339.lt (Nat.le_of_eq g342.symm))
        have F_starts_b342 : Fld Z h342 b342 "com/example/honeyguide/honeyguide/Spans" "starts" "[I" .null := D342 (Or.inl (hw _ (List.mem_of_getElem? (i := 14) rfl))) (ty := (.array .int)) (by decide)
        have F_ends_b342 : Fld Z h342 b342 "com/example/honeyguide/honeyguide/Spans" "ends" "[I" .null := D342 (Or.inl (hw _ (List.mem_of_getElem? (i := 16) rfl))) (ty := (.array .int)) (by decide)
        have F_head_b342 : Fld Z h342 b342 "com/example/honeyguide/honeyguide/Spans" "head" "I" (.int (0 : Int32)) := D342 (Or.inl (hw _ (List.mem_of_getElem? (i := 18) rfl))) (ty := .int) (by decide)
        have F_count_b342 : Fld Z h342 b342 "com/example/honeyguide/honeyguide/Spans" "count" "I" (.int (0 : Int32)) := D342 (Or.inl (hw _ (List.mem_of_getElem? (i := 33) rfl))) (ty := .int) (by decide)
        have K343 : Keep h0 h342 [] := K341.ext E342
        refine own_via (T342.setTop (mkF m 233 #[.val (.int p0), .val (.long p1), .second, .val (.int p2), .val (.int p3), .val (.int zn), .val (.int z157), .val (.int z158), .val (.int z160), .val (.int z161), .val (.int z162), .val (.ref b163), .val (.ref b183), .unset, .unset, .unset, .unset, .unset] [(.ref b342)])) (fun t k => st342 t k) ?_
        refine own_via (T342.setTop (mkF m 234 #[.val (.int p0), .val (.long p1), .second, .val (.int p2), .val (.int p3), .val (.int zn), .val (.int z157), .val (.int z158), .val (.int z160), .val (.int z161), .val (.int z162), .val (.ref b163), .val (.ref b183), .unset, .unset, .unset, .unset, .unset] [(.ref b342), (.ref b342)])) (fun t k => XS.dup X342.here hx rfl (hb hby at_233) rfl rfl k) ?_
        obtain ⟨_, _, ⟨T344, L344, k344, n344⟩, -, X344, ⟨Lc344, hQ344, l344, y344, z344⟩, st344⟩ := X342.specialBack hx (y := (⟨"com/example/honeyguide/honeyguide/Spans", "<init>", "()V"⟩ : MethodName)) rfl hown (mvT hZ (hw _ (List.mem_of_getElem? (i := 7) rfl))) (mvT hZ (hw _ (List.mem_of_getElem? (i := 8) rfl))) (mvT hZ (hw _ (List.mem_of_getElem? (i := 9) rfl))) (by decide) (backOf (W := 1) (rm1 l Z a0 hw [] b342 h342 n0 (Nat.le_trans Z0 K343.1) F_starts_b342 F_ends_b342 F_head_b342 F_count_b342 A342 gg_b342) hZ (hw _ (List.mem_of_getElem? (i := 9) rfl)) (hw _ (List.mem_of_getElem? (i := 6) rfl)) (by decide) (by decide)) (g := (mkF m 234 #[.val (.int p0), .val (.long p1), .second, .val (.int p2), .val (.int p3), .val (.int zn), .val (.int z157), .val (.int z158), .val (.int z160), .val (.int z161), .val (.int z162), .val (.ref b163), .val (.ref b183), .unset, .unset, .unset, .unset, .unset] [(.ref b342), (.ref b342)])) rfl (by rw [hml]; rfl) (Steps.refl _) (a := b342) (argsL := []) (rest := [(.ref b342)]) (lenOf pd_3 rfl) rfl (by show 2 * 0 + _ ≤ _; exact Nat.le_of_eq rfl) (hb hby at_234) (fun _ _ => ⟨rfl, e342, (by decide : 3 + 2 ≤ _), (by decide : 12 + 16 ≤ _)⟩)
        dsimp only [Pt.U, Pt.locs, Pt.cells, Pt.slots] at X344 l344 y344 z344 st344 hQ344
        rw [y344, z344] at X344
        have X344 : Stand _ _ _ _ _ _ _ _ _ _ T344 L344 5 28 := X344
        obtain ⟨h344, e344⟩ : ∃ h, T344.heap = h := ⟨_, rfl⟩
        rw [e344] at hQ344
        obtain ⟨rs_344, re_344, rfl, N344q, K344q, gg_rs_344, gg_re_344, sq_rs_344, sq_re_344, G344_0, G344_1, G344_2, G344_3, G344_4, G344_5, G344_6, nq344_0⟩ := hQ344
        have N344 : Fr n0 L344 := by rw [l344]; exact Fr.app N339 N344q
        have sz_rs_344 : h0.size ≤ rs_344 := Nat.le_trans K343.1 sq_rs_344
        have ne_b163_rs_344 : b163 ≠ rs_344 := Nat.ne_of_lt (Nat.lt_of_lt_of_le ((((((V180.ext E183).other W330 ne_b163_b183).other W333 ne_b163_b183).other W336 ne_b163_b183).other W339 ne_b163_b183).ext E342).lt sq_rs_344)
        have ne_b183_rs_344 : b183 ≠ rs_344 := Nat.ne_of_lt (Nat.lt_of_lt_of_le (V339.ext E342).lt sq_rs_344)
        have ne_b342_rs_344 : b342 ≠ rs_344 := Nat.ne_of_lt (Nat.lt_of_lt_of_le A342.lt sq_rs_344)
        have sz_re_344 : h0.size ≤ re_344 := Nat.le_trans K343.1 sq_re_344
        have ne_b163_re_344 : b163 ≠ re_344 := Nat.ne_of_lt (Nat.lt_of_lt_of_le ((((((V180.ext E183).other W330 ne_b163_b183).other W333 ne_b163_b183).other W336 ne_b163_b183).other W339 ne_b163_b183).ext E342).lt sq_re_344)
        have ne_b183_re_344 : b183 ≠ re_344 := Nat.ne_of_lt (Nat.lt_of_lt_of_le (V339.ext E342).lt sq_re_344)
        have ne_b342_re_344 : b342 ≠ re_344 := Nat.ne_of_lt (Nat.lt_of_lt_of_le A342.lt sq_re_344)
        have K345 : Keep h0 h344 [] := K343.trans K344q (fun x hx => (List.mem_cons.mp hx).elim (fun e => e ▸ Or.inr sz_b342) (fun hx => nomatch hx))
        refine own_via (T344.setTop (mkF m 237 #[.val (.int p0), .val (.long p1), .second, .val (.int p2), .val (.int p3), .val (.int zn), .val (.int z157), .val (.int z158), .val (.int z160), .val (.int z161), .val (.int z162), .val (.ref b163), .val (.ref b183), .unset, .unset, .unset, .unset, .unset] [(.ref b342)])) (fun t k => st344.trans k) ?_
        refine own_via (T344.setTop (mkF m 239 #[.val (.int p0), .val (.long p1), .second, .val (.int p2), .val (.int p3), .val (.int zn), .val (.int z157), .val (.int z158), .val (.int z160), .val (.int z161), .val (.int z162), .val (.ref b163), .val (.ref b183), .val (.ref b342), .unset, .unset, .unset, .unset] [])) (fun t k => XS.astore X344.here hx rfl (hb hby at_237) rfl rfl (l' := #[.val (.int p0), .val (.long p1), .second, .val (.int p2), .val (.int p3), .val (.int zn), .val (.int z157), .val (.int z158), .val (.int z160), .val (.int z161), .val (.int z162), .val (.ref b163), .val (.ref b183), .val (.ref b342), .unset, .unset, .unset, .unset]) rfl k) ?_
        have hI0 : own_Inv (fun _ => (0 : Int32)) (4 : Int32) (0 : Int32) := own_inv0
        refine own_via (T344.setTop (mkF m 241 #[.val (.int p0), .val (.long p1), .second, .val (.int p2), .val (.int p3), .val (.int zn), .val (.int z157), .val (.int z158), .val (.int z160), .val (.int z161), .val (.int z162), .val (.ref b163), .val (.ref b183), .val (.ref b342), .unset, .unset, .unset, .unset] [(.ref b342)])) (fun t k => XS.aload X344.here hx rfl (hb hby at_239) rfl rfl k) ?_
        refine own_via (T344.setTop (mkF m 243 #[.val (.int p0), .val (.long p1), .second, .val (.int p2), .val (.int p3), .val (.int zn), .val (.int z157), .val (.int z158), .val (.int z160), .val (.int z161), .val (.int z162), .val (.ref b163), .val (.ref b183), .val (.ref b342), .unset, .unset, .unset, .unset] [(.ref b163), (.ref b342)])) (fun t k => XS.aload X344.here hx rfl (hb hby at_241) rfl rfl k) ?_
        refine own_via (T344.setTop (mkF m 245 #[.val (.int p0), .val (.long p1), .second, .val (.int p2), .val (.int p3), .val (.int zn), .val (.int z157), .val (.int z158), .val (.int z160), .val (.int z161), .val (.int z162), .val (.ref b163), .val (.ref b183), .val (.ref b342), .unset, .unset, .unset, .unset] [(.ref b183), (.ref b163), (.ref b342)])) (fun t k => XS.aload X344.here hx rfl (hb hby at_243) rfl rfl k) ?_
        refine own_via (T344.setTop (mkF m 246 #[.val (.int p0), .val (.long p1), .second, .val (.int p2), .val (.int p3), .val (.int zn), .val (.int z157), .val (.int z158), .val (.int z160), .val (.int z161), .val (.int z162), .val (.ref b163), .val (.ref b183), .val (.ref b342), .unset, .unset, .unset, .unset] [(.int (0 : Int32)), (.ref b183), (.ref b163), (.ref b342)])) (fun t k => XS.iconst X344.here hx rfl (hb hby at_245) k) ?_
        have F347 := ((V339.ext E342).keep K344q (fun q => ne_b183_b342 (List.mem_singleton.mp q)))
        obtain ⟨cl348, Ar348, q348, S348, M348, H348, G348⟩ := id F347
        refine own_via (T344.setTop (mkF m 247 #[.val (.int p0), .val (.long p1), .second, .val (.int p2), .val (.int p3), .val (.int zn), .val (.int z157), .val (.int z158), .val (.int z160), .val (.int z161), .val (.int z162), .val (.ref b163), .val (.ref b183), .val (.ref b342), .unset, .unset, .unset, .unset] [(.int (1 : Int32)), (.ref b163), (.ref b342)])) (fun t k => X344.iaload hx (j := (0 : Int32)) (v := (.int (1 : Int32))) (by rw [e344]; exact Ar348.1) (State.isArrayOf_alike hZ.alike Ar348.2.1) Ar348.2.2 (inb_of S348 ⟨by decide, by decide⟩) (H348 0 (by rw [S348]; decide)) (g := (mkF m 246 #[.val (.int p0), .val (.long p1), .second, .val (.int p2), .val (.int p3), .val (.int zn), .val (.int z157), .val (.int z158), .val (.int z160), .val (.int z161), .val (.int z162), .val (.ref b163), .val (.ref b183), .val (.ref b342), .unset, .unset, .unset, .unset] [(.int (0 : Int32)), (.ref b183), (.ref b163), (.ref b342)])) rfl rfl (hb hby at_246) _ k) ?_
        refine own_via (T344.setTop (mkF m 249 #[.val (.int p0), .val (.long p1), .second, .val (.int p2), .val (.int p3), .val (.int zn), .val (.int z157), .val (.int z158), .val (.int z160), .val (.int z161), .val (.int z162), .val (.ref b163), .val (.ref b183), .val (.ref b342), .unset, .unset, .unset, .unset] [(.int zn), (.int (1 : Int32)), (.ref b163), (.ref b342)])) (fun t k => XS.iload X344.here hx rfl (hb hby at_247) rfl  k) ?_
        have F350 := (((((((V180.ext E183).other W330 ne_b163_b183).other W333 ne_b163_b183).other W336 ne_b163_b183).other W339 ne_b163_b183).ext E342).keep K344q (fun q => ne_b163_b342 (List.mem_singleton.mp q)))
        obtain ⟨_, _, ⟨T349, L349, k349, n349⟩, -, X349, ⟨Lc349, hQ349, l349, y349, z349⟩, st349⟩ := Jvm.LawKit.callS X344 hx (y := (⟨"com/example/honeyguide/honeyguide/SpansAfterPinLaw", "addIf", "(Lcom/example/honeyguide/honeyguide/Spans;[III)V"⟩ : MethodName)) hown (mvT hZ (hw _ (List.mem_of_getElem? (i := 19) rfl))) (mvT hZ (hw _ (List.mem_of_getElem? (i := 20) rfl))) (mvT hZ (hw _ (List.mem_of_getElem? (i := 21) rfl))) (mvT hZ (hw _ (List.mem_of_getElem? (i := 22) rfl))) (by decide) (backOf (W := 0) (rm3 l Z a0 hw [] b342 b163 (1 : Int32) zn h344 n0 (Nat.le_trans Z0 K345.1) rs_344 (4 : Int32) (0 : Int32) (fun _ => (0 : Int32)) re_344 (fun _ => (0 : Int32)) f180 G344_3 G344_1 G344_2 G344_5 G344_4 G344_6 G344_0 F350 gg_b342 gg_rs_344 gg_re_344 hI0 (by decide) ne_b342_rs_344 ne_b342_re_344 nq344_0 (by decide)) hZ (hw _ (List.mem_of_getElem? (i := 22) rfl)) (hw _ (List.mem_of_getElem? (i := 21) rfl)) (by decide) (by decide)) (g := (mkF m 249 #[.val (.int p0), .val (.long p1), .second, .val (.int p2), .val (.int p3), .val (.int zn), .val (.int z157), .val (.int z158), .val (.int z160), .val (.int z161), .val (.int z162), .val (.ref b163), .val (.ref b183), .val (.ref b342), .unset, .unset, .unset, .unset] [(.int zn), (.int (1 : Int32)), (.ref b163), (.ref b342)])) rfl (by rw [hml]; rfl) (argsL := [(.ref b342), (.ref b163), (.int (1 : Int32)), (.int zn)]) (rest := []) (lenOf pd_4 rfl) rfl (by show 2 * 0 + _ ≤ _; exact Nat.le_of_eq rfl) (hb hby at_249) (fun _ _ => ⟨rfl, e344, (by decide : 5 + 0 ≤ _), (by decide : 28 + 0 ≤ _)⟩)
        dsimp only [Pt.U, Pt.locs, Pt.cells, Pt.slots] at X349 l349 y349 z349 st349 hQ349
        rw [y349, z349] at X349
        have X349 : Stand _ _ _ _ _ _ _ _ _ _ T349 L349 5 28 := X349
        obtain ⟨h349, e349⟩ : ∃ h, T349.heap = h := ⟨_, rfl⟩
        rw [e349] at hQ349
        obtain ⟨rfl, N349q, K349q, G349_0, G349_1, G349_2, G349_3, G349_4, G349_5, G349_6⟩ := hQ349
        have N349 : Fr n0 L349 := by rw [l349]; exact Fr.app N344 N349q
        have mq349 : ∀ x ∈ [b342, rs_344, re_344], x ∈ [] ∨ h0.size ≤ x := by
          intro x hx
          rcases List.mem_cons.mp hx with e | hx
          · rw [e]; exact Or.inr sz_b342
          rcases List.mem_cons.mp hx with e | hx
          · rw [e]; exact Or.inr sz_rs_344
          rw [List.mem_singleton.mp hx]; exact Or.inr sz_re_344
        have K351 : Keep h0 h349 [] := K345.trans K349q mq349
        obtain ⟨z352, hz352⟩ : ∃ z : Int32, z = (own_ih (fun _ => (0 : Int32)) (4 : Int32) (0 : Int32) (1 : Int32) zn (f180 (1 : Int32).toInt.toNat)) := ⟨_, rfl⟩
        rw [← hz352] at G349_1
        obtain ⟨z353, hz353⟩ : ∃ z : Int32, z = (own_ic (0 : Int32) (1 : Int32) zn) := ⟨_, rfl⟩
        rw [← hz353] at G349_2
        obtain ⟨f354, hf354⟩ : ∃ g : Nat → Int32, g = (own_if (fun _ => (0 : Int32)) (fun _ => (0 : Int32)) (4 : Int32) (0 : Int32) (1 : Int32) zn (f180 (1 : Int32).toInt.toNat) (f180 (1 : Int32).toInt.toNat)) := ⟨_, rfl⟩
        rw [← hf354] at G349_5
        obtain ⟨f355, hf355⟩ : ∃ g : Nat → Int32, g = (own_if (fun _ => (0 : Int32)) (fun _ => (0 : Int32)) (4 : Int32) (0 : Int32) (1 : Int32) zn (f180 (1 : Int32).toInt.toNat) ((f180 (1 : Int32).toInt.toNat) + (1 : Int32))) := ⟨_, rfl⟩
        rw [← hf355] at G349_6
        refine own_via (T349.setTop (mkF m 252 #[.val (.int p0), .val (.long p1), .second, .val (.int p2), .val (.int p3), .val (.int zn), .val (.int z157), .val (.int z158), .val (.int z160), .val (.int z161), .val (.int z162), .val (.ref b163), .val (.ref b183), .val (.ref b342), .unset, .unset, .unset, .unset] [])) (fun t k => st349 t k) ?_
        have hs1 := own_step hI0 (by decide) hz352 hz353 hf354
        have hI1 := hs1.1
        have hc1 := hs1.2.1
        have hq1 := hs1.2.2 
        have hcb1 : z353.toInt ≤ 1 := by split at hc1 <;> (have e0 : (0 : Int32).toInt = 0 := rfl; omega)
        refine own_via (T349.setTop (mkF m 254 #[.val (.int p0), .val (.long p1), .second, .val (.int p2), .val (.int p3), .val (.int zn), .val (.int z157), .val (.int z158), .val (.int z160), .val (.int z161), .val (.int z162), .val (.ref b163), .val (.ref b183), .val (.ref b342), .unset, .unset, .unset, .unset] [(.ref b342)])) (fun t k => XS.aload X349.here hx rfl (hb hby at_252) rfl rfl k) ?_
        refine own_via (T349.setTop (mkF m 256 #[.val (.int p0), .val (.long p1), .second, .val (.int p2), .val (.int p3), .val (.int zn), .val (.int z157), .val (.int z158), .val (.int z160), .val (.int z161), .val (.int z162), .val (.ref b163), .val (.ref b183), .val (.ref b342), .unset, .unset, .unset, .unset] [(.ref b163), (.ref b342)])) (fun t k => XS.aload X349.here hx rfl (hb hby at_254) rfl rfl k) ?_
        refine own_via (T349.setTop (mkF m 258 #[.val (.int p0), .val (.long p1), .second, .val (.int p2), .val (.int p3), .val (.int zn), .val (.int z157), .val (.int z158), .val (.int z160), .val (.int z161), .val (.int z162), .val (.ref b163), .val (.ref b183), .val (.ref b342), .unset, .unset, .unset, .unset] [(.ref b183), (.ref b163), (.ref b342)])) (fun t k => XS.aload X349.here hx rfl (hb hby at_256) rfl rfl k) ?_
        refine own_via (T349.setTop (mkF m 259 #[.val (.int p0), .val (.long p1), .second, .val (.int p2), .val (.int p3), .val (.int zn), .val (.int z157), .val (.int z158), .val (.int z160), .val (.int z161), .val (.int z162), .val (.ref b163), .val (.ref b183), .val (.ref b342), .unset, .unset, .unset, .unset] [(.int (1 : Int32)), (.ref b183), (.ref b163), (.ref b342)])) (fun t k => XS.iconst X349.here hx rfl (hb hby at_258) k) ?_
        have F357 := (F347.keep K349q (fun q => (List.mem_cons.mp q).elim ne_b183_b342 (fun q => (List.mem_cons.mp q).elim ne_b183_rs_344 (fun q => (List.mem_cons.mp q).elim ne_b183_re_344 (fun q => nomatch q)))))
        obtain ⟨cl358, Ar358, q358, S358, M358, H358, G358⟩ := id F357
        refine own_via (T349.setTop (mkF m 260 #[.val (.int p0), .val (.long p1), .second, .val (.int p2), .val (.int p3), .val (.int zn), .val (.int z157), .val (.int z158), .val (.int z160), .val (.int z161), .val (.int z162), .val (.ref b163), .val (.ref b183), .val (.ref b342), .unset, .unset, .unset, .unset] [(.int (2 : Int32)), (.ref b163), (.ref b342)])) (fun t k => X349.iaload hx (j := (1 : Int32)) (v := (.int (2 : Int32))) (by rw [e349]; exact Ar358.1) (State.isArrayOf_alike hZ.alike Ar358.2.1) Ar358.2.2 (inb_of S358 ⟨by decide, by decide⟩) (H358 1 (by rw [S358]; decide)) (g := (mkF m 259 #[.val (.int p0), .val (.long p1), .second, .val (.int p2), .val (.int p3), .val (.int zn), .val (.int z157), .val (.int z158), .val (.int z160), .val (.int z161), .val (.int z162), .val (.ref b163), .val (.ref b183), .val (.ref b342), .unset, .unset, .unset, .unset] [(.int (1 : Int32)), (.ref b183), (.ref b163), (.ref b342)])) rfl rfl (hb hby at_259) _ k) ?_
        refine own_via (T349.setTop (mkF m 262 #[.val (.int p0), .val (.long p1), .second, .val (.int p2), .val (.int p3), .val (.int zn), .val (.int z157), .val (.int z158), .val (.int z160), .val (.int z161), .val (.int z162), .val (.ref b163), .val (.ref b183), .val (.ref b342), .unset, .unset, .unset, .unset] [(.int zn), (.int (2 : Int32)), (.ref b163), (.ref b342)])) (fun t k => XS.iload X349.here hx rfl (hb hby at_260) rfl  k) ?_
        have F360 := (F350.keep K349q (fun q => (List.mem_cons.mp q).elim ne_b163_b342 (fun q => (List.mem_cons.mp q).elim ne_b163_rs_344 (fun q => (List.mem_cons.mp q).elim ne_b163_re_344 (fun q => nomatch q)))))
        obtain ⟨_, _, ⟨T359, L359, k359, n359⟩, -, X359, ⟨Lc359, hQ359, l359, y359, z359⟩, st359⟩ := Jvm.LawKit.callS X349 hx (y := (⟨"com/example/honeyguide/honeyguide/SpansAfterPinLaw", "addIf", "(Lcom/example/honeyguide/honeyguide/Spans;[III)V"⟩ : MethodName)) hown (mvT hZ (hw _ (List.mem_of_getElem? (i := 19) rfl))) (mvT hZ (hw _ (List.mem_of_getElem? (i := 20) rfl))) (mvT hZ (hw _ (List.mem_of_getElem? (i := 21) rfl))) (mvT hZ (hw _ (List.mem_of_getElem? (i := 22) rfl))) (by decide) (backOf (W := 0) (rm3 l Z a0 hw [] b342 b163 (2 : Int32) zn h349 n0 (Nat.le_trans Z0 K351.1) rs_344 z352 z353 f354 re_344 f355 f180 G349_3 G349_1 G349_2 G349_5 G349_4 G349_6 G349_0 F360 gg_b342 gg_rs_344 gg_re_344 hI1 (by omega) ne_b342_rs_344 ne_b342_re_344 nq344_0 (by decide)) hZ (hw _ (List.mem_of_getElem? (i := 22) rfl)) (hw _ (List.mem_of_getElem? (i := 21) rfl)) (by decide) (by decide)) (g := (mkF m 262 #[.val (.int p0), .val (.long p1), .second, .val (.int p2), .val (.int p3), .val (.int zn), .val (.int z157), .val (.int z158), .val (.int z160), .val (.int z161), .val (.int z162), .val (.ref b163), .val (.ref b183), .val (.ref b342), .unset, .unset, .unset, .unset] [(.int zn), (.int (2 : Int32)), (.ref b163), (.ref b342)])) rfl (by rw [hml]; rfl) (argsL := [(.ref b342), (.ref b163), (.int (2 : Int32)), (.int zn)]) (rest := []) (lenOf pd_4 rfl) rfl (by show 2 * 0 + _ ≤ _; exact Nat.le_of_eq rfl) (hb hby at_262) (fun _ _ => ⟨rfl, e349, (by decide : 5 + 0 ≤ _), (by decide : 28 + 0 ≤ _)⟩)
        dsimp only [Pt.U, Pt.locs, Pt.cells, Pt.slots] at X359 l359 y359 z359 st359 hQ359
        rw [y359, z359] at X359
        have X359 : Stand _ _ _ _ _ _ _ _ _ _ T359 L359 5 28 := X359
        obtain ⟨h359, e359⟩ : ∃ h, T359.heap = h := ⟨_, rfl⟩
        rw [e359] at hQ359
        obtain ⟨rfl, N359q, K359q, G359_0, G359_1, G359_2, G359_3, G359_4, G359_5, G359_6⟩ := hQ359
        have N359 : Fr n0 L359 := by rw [l359]; exact Fr.app N349 N359q
        have mq359 : ∀ x ∈ [b342, rs_344, re_344], x ∈ [] ∨ h0.size ≤ x := by
          intro x hx
          rcases List.mem_cons.mp hx with e | hx
          · rw [e]; exact Or.inr sz_b342
          rcases List.mem_cons.mp hx with e | hx
          · rw [e]; exact Or.inr sz_rs_344
          rw [List.mem_singleton.mp hx]; exact Or.inr sz_re_344
        have K361 : Keep h0 h359 [] := K351.trans K359q mq359
        obtain ⟨z362, hz362⟩ : ∃ z : Int32, z = (own_ih f354 z352 z353 (2 : Int32) zn (f180 (2 : Int32).toInt.toNat)) := ⟨_, rfl⟩
        rw [← hz362] at G359_1
        obtain ⟨z363, hz363⟩ : ∃ z : Int32, z = (own_ic z353 (2 : Int32) zn) := ⟨_, rfl⟩
        rw [← hz363] at G359_2
        obtain ⟨f364, hf364⟩ : ∃ g : Nat → Int32, g = (own_if f354 f354 z352 z353 (2 : Int32) zn (f180 (2 : Int32).toInt.toNat) (f180 (2 : Int32).toInt.toNat)) := ⟨_, rfl⟩
        rw [← hf364] at G359_5
        obtain ⟨f365, hf365⟩ : ∃ g : Nat → Int32, g = (own_if f355 f354 z352 z353 (2 : Int32) zn (f180 (2 : Int32).toInt.toNat) ((f180 (2 : Int32).toInt.toNat) + (1 : Int32))) := ⟨_, rfl⟩
        rw [← hf365] at G359_6
        refine own_via (T359.setTop (mkF m 265 #[.val (.int p0), .val (.long p1), .second, .val (.int p2), .val (.int p3), .val (.int zn), .val (.int z157), .val (.int z158), .val (.int z160), .val (.int z161), .val (.int z162), .val (.ref b163), .val (.ref b183), .val (.ref b342), .unset, .unset, .unset, .unset] [])) (fun t k => st359 t k) ?_
        have hs2 := own_step hI1 (by omega) hz362 hz363 hf364
        have hI2 := hs2.1
        have hc2 := hs2.2.1
        have hq2 := hs2.2.2 
        have hcb2 : z363.toInt ≤ 2 := by split at hc2 <;> omega
        refine own_via (T359.setTop (mkF m 267 #[.val (.int p0), .val (.long p1), .second, .val (.int p2), .val (.int p3), .val (.int zn), .val (.int z157), .val (.int z158), .val (.int z160), .val (.int z161), .val (.int z162), .val (.ref b163), .val (.ref b183), .val (.ref b342), .unset, .unset, .unset, .unset] [(.ref b342)])) (fun t k => XS.aload X359.here hx rfl (hb hby at_265) rfl rfl k) ?_
        refine own_via (T359.setTop (mkF m 269 #[.val (.int p0), .val (.long p1), .second, .val (.int p2), .val (.int p3), .val (.int zn), .val (.int z157), .val (.int z158), .val (.int z160), .val (.int z161), .val (.int z162), .val (.ref b163), .val (.ref b183), .val (.ref b342), .unset, .unset, .unset, .unset] [(.ref b163), (.ref b342)])) (fun t k => XS.aload X359.here hx rfl (hb hby at_267) rfl rfl k) ?_
        refine own_via (T359.setTop (mkF m 271 #[.val (.int p0), .val (.long p1), .second, .val (.int p2), .val (.int p3), .val (.int zn), .val (.int z157), .val (.int z158), .val (.int z160), .val (.int z161), .val (.int z162), .val (.ref b163), .val (.ref b183), .val (.ref b342), .unset, .unset, .unset, .unset] [(.ref b183), (.ref b163), (.ref b342)])) (fun t k => XS.aload X359.here hx rfl (hb hby at_269) rfl rfl k) ?_
        refine own_via (T359.setTop (mkF m 272 #[.val (.int p0), .val (.long p1), .second, .val (.int p2), .val (.int p3), .val (.int zn), .val (.int z157), .val (.int z158), .val (.int z160), .val (.int z161), .val (.int z162), .val (.ref b163), .val (.ref b183), .val (.ref b342), .unset, .unset, .unset, .unset] [(.int (2 : Int32)), (.ref b183), (.ref b163), (.ref b342)])) (fun t k => XS.iconst X359.here hx rfl (hb hby at_271) k) ?_
        have F367 := (F357.keep K359q (fun q => (List.mem_cons.mp q).elim ne_b183_b342 (fun q => (List.mem_cons.mp q).elim ne_b183_rs_344 (fun q => (List.mem_cons.mp q).elim ne_b183_re_344 (fun q => nomatch q)))))
        obtain ⟨cl368, Ar368, q368, S368, M368, H368, G368⟩ := id F367
        refine own_via (T359.setTop (mkF m 273 #[.val (.int p0), .val (.long p1), .second, .val (.int p2), .val (.int p3), .val (.int zn), .val (.int z157), .val (.int z158), .val (.int z160), .val (.int z161), .val (.int z162), .val (.ref b163), .val (.ref b183), .val (.ref b342), .unset, .unset, .unset, .unset] [(.int (0 : Int32)), (.ref b163), (.ref b342)])) (fun t k => X359.iaload hx (j := (2 : Int32)) (v := (.int (0 : Int32))) (by rw [e359]; exact Ar368.1) (State.isArrayOf_alike hZ.alike Ar368.2.1) Ar368.2.2 (inb_of S368 ⟨by decide, by decide⟩) (H368 2 (by rw [S368]; decide)) (g := (mkF m 272 #[.val (.int p0), .val (.long p1), .second, .val (.int p2), .val (.int p3), .val (.int zn), .val (.int z157), .val (.int z158), .val (.int z160), .val (.int z161), .val (.int z162), .val (.ref b163), .val (.ref b183), .val (.ref b342), .unset, .unset, .unset, .unset] [(.int (2 : Int32)), (.ref b183), (.ref b163), (.ref b342)])) rfl rfl (hb hby at_272) _ k) ?_
        refine own_via (T359.setTop (mkF m 275 #[.val (.int p0), .val (.long p1), .second, .val (.int p2), .val (.int p3), .val (.int zn), .val (.int z157), .val (.int z158), .val (.int z160), .val (.int z161), .val (.int z162), .val (.ref b163), .val (.ref b183), .val (.ref b342), .unset, .unset, .unset, .unset] [(.int zn), (.int (0 : Int32)), (.ref b163), (.ref b342)])) (fun t k => XS.iload X359.here hx rfl (hb hby at_273) rfl  k) ?_
        have F370 := (F360.keep K359q (fun q => (List.mem_cons.mp q).elim ne_b163_b342 (fun q => (List.mem_cons.mp q).elim ne_b163_rs_344 (fun q => (List.mem_cons.mp q).elim ne_b163_re_344 (fun q => nomatch q)))))
        obtain ⟨_, _, ⟨T369, L369, k369, n369⟩, -, X369, ⟨Lc369, hQ369, l369, y369, z369⟩, st369⟩ := Jvm.LawKit.callS X359 hx (y := (⟨"com/example/honeyguide/honeyguide/SpansAfterPinLaw", "addIf", "(Lcom/example/honeyguide/honeyguide/Spans;[III)V"⟩ : MethodName)) hown (mvT hZ (hw _ (List.mem_of_getElem? (i := 19) rfl))) (mvT hZ (hw _ (List.mem_of_getElem? (i := 20) rfl))) (mvT hZ (hw _ (List.mem_of_getElem? (i := 21) rfl))) (mvT hZ (hw _ (List.mem_of_getElem? (i := 22) rfl))) (by decide) (backOf (W := 0) (rm3 l Z a0 hw [] b342 b163 (0 : Int32) zn h359 n0 (Nat.le_trans Z0 K361.1) rs_344 z362 z363 f364 re_344 f365 f180 G359_3 G359_1 G359_2 G359_5 G359_4 G359_6 G359_0 F370 gg_b342 gg_rs_344 gg_re_344 hI2 (by omega) ne_b342_rs_344 ne_b342_re_344 nq344_0 (by decide)) hZ (hw _ (List.mem_of_getElem? (i := 22) rfl)) (hw _ (List.mem_of_getElem? (i := 21) rfl)) (by decide) (by decide)) (g := (mkF m 275 #[.val (.int p0), .val (.long p1), .second, .val (.int p2), .val (.int p3), .val (.int zn), .val (.int z157), .val (.int z158), .val (.int z160), .val (.int z161), .val (.int z162), .val (.ref b163), .val (.ref b183), .val (.ref b342), .unset, .unset, .unset, .unset] [(.int zn), (.int (0 : Int32)), (.ref b163), (.ref b342)])) rfl (by rw [hml]; rfl) (argsL := [(.ref b342), (.ref b163), (.int (0 : Int32)), (.int zn)]) (rest := []) (lenOf pd_4 rfl) rfl (by show 2 * 0 + _ ≤ _; exact Nat.le_of_eq rfl) (hb hby at_275) (fun _ _ => ⟨rfl, e359, (by decide : 5 + 0 ≤ _), (by decide : 28 + 0 ≤ _)⟩)
        dsimp only [Pt.U, Pt.locs, Pt.cells, Pt.slots] at X369 l369 y369 z369 st369 hQ369
        rw [y369, z369] at X369
        have X369 : Stand _ _ _ _ _ _ _ _ _ _ T369 L369 5 28 := X369
        obtain ⟨h369, e369⟩ : ∃ h, T369.heap = h := ⟨_, rfl⟩
        rw [e369] at hQ369
        obtain ⟨rfl, N369q, K369q, G369_0, G369_1, G369_2, G369_3, G369_4, G369_5, G369_6⟩ := hQ369
        have N369 : Fr n0 L369 := by rw [l369]; exact Fr.app N359 N369q
        have mq369 : ∀ x ∈ [b342, rs_344, re_344], x ∈ [] ∨ h0.size ≤ x := by
          intro x hx
          rcases List.mem_cons.mp hx with e | hx
          · rw [e]; exact Or.inr sz_b342
          rcases List.mem_cons.mp hx with e | hx
          · rw [e]; exact Or.inr sz_rs_344
          rw [List.mem_singleton.mp hx]; exact Or.inr sz_re_344
        have K371 : Keep h0 h369 [] := K361.trans K369q mq369
        obtain ⟨z372, hz372⟩ : ∃ z : Int32, z = (own_ih f364 z362 z363 (0 : Int32) zn (f180 (0 : Int32).toInt.toNat)) := ⟨_, rfl⟩
        rw [← hz372] at G369_1
        obtain ⟨z373, hz373⟩ : ∃ z : Int32, z = (own_ic z363 (0 : Int32) zn) := ⟨_, rfl⟩
        rw [← hz373] at G369_2
        obtain ⟨f374, hf374⟩ : ∃ g : Nat → Int32, g = (own_if f364 f364 z362 z363 (0 : Int32) zn (f180 (0 : Int32).toInt.toNat) (f180 (0 : Int32).toInt.toNat)) := ⟨_, rfl⟩
        rw [← hf374] at G369_5
        obtain ⟨f375, hf375⟩ : ∃ g : Nat → Int32, g = (own_if f365 f364 z362 z363 (0 : Int32) zn (f180 (0 : Int32).toInt.toNat) ((f180 (0 : Int32).toInt.toNat) + (1 : Int32))) := ⟨_, rfl⟩
        rw [← hf375] at G369_6
        refine own_via (T369.setTop (mkF m 278 #[.val (.int p0), .val (.long p1), .second, .val (.int p2), .val (.int p3), .val (.int zn), .val (.int z157), .val (.int z158), .val (.int z160), .val (.int z161), .val (.int z162), .val (.ref b163), .val (.ref b183), .val (.ref b342), .unset, .unset, .unset, .unset] [])) (fun t k => st369 t k) ?_
        have hs3 := own_step hI2 (by omega) hz372 hz373 hf374
        have hI3 := hs3.1
        have hc3 := hs3.2.1
        have hq3 := hs3.2.2 
        have hcb3 : z373.toInt ≤ 3 := by split at hc3 <;> omega
        refine own_via (T369.setTop (mkF m 280 #[.val (.int p0), .val (.long p1), .second, .val (.int p2), .val (.int p3), .val (.int zn), .val (.int z157), .val (.int z158), .val (.int z160), .val (.int z161), .val (.int z162), .val (.ref b163), .val (.ref b183), .val (.ref b342), .unset, .unset, .unset, .unset] [(.ref b342)])) (fun t k => XS.aload X369.here hx rfl (hb hby at_278) rfl rfl k) ?_
        refine own_via (T369.setTop (mkF m 282 #[.val (.int p0), .val (.long p1), .second, .val (.int p2), .val (.int p3), .val (.int zn), .val (.int z157), .val (.int z158), .val (.int z160), .val (.int z161), .val (.int z162), .val (.ref b163), .val (.ref b183), .val (.ref b342), .unset, .unset, .unset, .unset] [(.ref b163), (.ref b342)])) (fun t k => XS.aload X369.here hx rfl (hb hby at_280) rfl rfl k) ?_
        refine own_via (T369.setTop (mkF m 284 #[.val (.int p0), .val (.long p1), .second, .val (.int p2), .val (.int p3), .val (.int zn), .val (.int z157), .val (.int z158), .val (.int z160), .val (.int z161), .val (.int z162), .val (.ref b163), .val (.ref b183), .val (.ref b342), .unset, .unset, .unset, .unset] [(.ref b183), (.ref b163), (.ref b342)])) (fun t k => XS.aload X369.here hx rfl (hb hby at_282) rfl rfl k) ?_
        refine own_via (T369.setTop (mkF m 285 #[.val (.int p0), .val (.long p1), .second, .val (.int p2), .val (.int p3), .val (.int zn), .val (.int z157), .val (.int z158), .val (.int z160), .val (.int z161), .val (.int z162), .val (.ref b163), .val (.ref b183), .val (.ref b342), .unset, .unset, .unset, .unset] [(.int (3 : Int32)), (.ref b183), (.ref b163), (.ref b342)])) (fun t k => XS.iconst X369.here hx rfl (hb hby at_284) k) ?_
        have F377 := (F367.keep K369q (fun q => (List.mem_cons.mp q).elim ne_b183_b342 (fun q => (List.mem_cons.mp q).elim ne_b183_rs_344 (fun q => (List.mem_cons.mp q).elim ne_b183_re_344 (fun q => nomatch q)))))
        obtain ⟨cl378, Ar378, q378, S378, M378, H378, G378⟩ := id F377
        refine own_via (T369.setTop (mkF m 286 #[.val (.int p0), .val (.long p1), .second, .val (.int p2), .val (.int p3), .val (.int zn), .val (.int z157), .val (.int z158), .val (.int z160), .val (.int z161), .val (.int z162), .val (.ref b163), .val (.ref b183), .val (.ref b342), .unset, .unset, .unset, .unset] [(.int (3 : Int32)), (.ref b163), (.ref b342)])) (fun t k => X369.iaload hx (j := (3 : Int32)) (v := (.int (3 : Int32))) (by rw [e369]; exact Ar378.1) (State.isArrayOf_alike hZ.alike Ar378.2.1) Ar378.2.2 (inb_of S378 ⟨by decide, by decide⟩) (H378 3 (by rw [S378]; decide)) (g := (mkF m 285 #[.val (.int p0), .val (.long p1), .second, .val (.int p2), .val (.int p3), .val (.int zn), .val (.int z157), .val (.int z158), .val (.int z160), .val (.int z161), .val (.int z162), .val (.ref b163), .val (.ref b183), .val (.ref b342), .unset, .unset, .unset, .unset] [(.int (3 : Int32)), (.ref b183), (.ref b163), (.ref b342)])) rfl rfl (hb hby at_285) _ k) ?_
        refine own_via (T369.setTop (mkF m 288 #[.val (.int p0), .val (.long p1), .second, .val (.int p2), .val (.int p3), .val (.int zn), .val (.int z157), .val (.int z158), .val (.int z160), .val (.int z161), .val (.int z162), .val (.ref b163), .val (.ref b183), .val (.ref b342), .unset, .unset, .unset, .unset] [(.int zn), (.int (3 : Int32)), (.ref b163), (.ref b342)])) (fun t k => XS.iload X369.here hx rfl (hb hby at_286) rfl  k) ?_
        have F380 := (F370.keep K369q (fun q => (List.mem_cons.mp q).elim ne_b163_b342 (fun q => (List.mem_cons.mp q).elim ne_b163_rs_344 (fun q => (List.mem_cons.mp q).elim ne_b163_re_344 (fun q => nomatch q)))))
        obtain ⟨_, _, ⟨T379, L379, k379, n379⟩, -, X379, ⟨Lc379, hQ379, l379, y379, z379⟩, st379⟩ := Jvm.LawKit.callS X369 hx (y := (⟨"com/example/honeyguide/honeyguide/SpansAfterPinLaw", "addIf", "(Lcom/example/honeyguide/honeyguide/Spans;[III)V"⟩ : MethodName)) hown (mvT hZ (hw _ (List.mem_of_getElem? (i := 19) rfl))) (mvT hZ (hw _ (List.mem_of_getElem? (i := 20) rfl))) (mvT hZ (hw _ (List.mem_of_getElem? (i := 21) rfl))) (mvT hZ (hw _ (List.mem_of_getElem? (i := 22) rfl))) (by decide) (backOf (W := 0) (rm3 l Z a0 hw [] b342 b163 (3 : Int32) zn h369 n0 (Nat.le_trans Z0 K371.1) rs_344 z372 z373 f374 re_344 f375 f180 G369_3 G369_1 G369_2 G369_5 G369_4 G369_6 G369_0 F380 gg_b342 gg_rs_344 gg_re_344 hI3 (by omega) ne_b342_rs_344 ne_b342_re_344 nq344_0 (by decide)) hZ (hw _ (List.mem_of_getElem? (i := 22) rfl)) (hw _ (List.mem_of_getElem? (i := 21) rfl)) (by decide) (by decide)) (g := (mkF m 288 #[.val (.int p0), .val (.long p1), .second, .val (.int p2), .val (.int p3), .val (.int zn), .val (.int z157), .val (.int z158), .val (.int z160), .val (.int z161), .val (.int z162), .val (.ref b163), .val (.ref b183), .val (.ref b342), .unset, .unset, .unset, .unset] [(.int zn), (.int (3 : Int32)), (.ref b163), (.ref b342)])) rfl (by rw [hml]; rfl) (argsL := [(.ref b342), (.ref b163), (.int (3 : Int32)), (.int zn)]) (rest := []) (lenOf pd_4 rfl) rfl (by show 2 * 0 + _ ≤ _; exact Nat.le_of_eq rfl) (hb hby at_288) (fun _ _ => ⟨rfl, e369, (by decide : 5 + 0 ≤ _), (by decide : 28 + 0 ≤ _)⟩)
        dsimp only [Pt.U, Pt.locs, Pt.cells, Pt.slots] at X379 l379 y379 z379 st379 hQ379
        rw [y379, z379] at X379
        have X379 : Stand _ _ _ _ _ _ _ _ _ _ T379 L379 5 28 := X379
        obtain ⟨h379, e379⟩ : ∃ h, T379.heap = h := ⟨_, rfl⟩
        rw [e379] at hQ379
        obtain ⟨rfl, N379q, K379q, G379_0, G379_1, G379_2, G379_3, G379_4, G379_5, G379_6⟩ := hQ379
        have N379 : Fr n0 L379 := by rw [l379]; exact Fr.app N369 N379q
        have mq379 : ∀ x ∈ [b342, rs_344, re_344], x ∈ [] ∨ h0.size ≤ x := by
          intro x hx
          rcases List.mem_cons.mp hx with e | hx
          · rw [e]; exact Or.inr sz_b342
          rcases List.mem_cons.mp hx with e | hx
          · rw [e]; exact Or.inr sz_rs_344
          rw [List.mem_singleton.mp hx]; exact Or.inr sz_re_344
        have K381 : Keep h0 h379 [] := K371.trans K379q mq379
        obtain ⟨z382, hz382⟩ : ∃ z : Int32, z = (own_ih f374 z372 z373 (3 : Int32) zn (f180 (3 : Int32).toInt.toNat)) := ⟨_, rfl⟩
        rw [← hz382] at G379_1
        obtain ⟨z383, hz383⟩ : ∃ z : Int32, z = (own_ic z373 (3 : Int32) zn) := ⟨_, rfl⟩
        rw [← hz383] at G379_2
        obtain ⟨f384, hf384⟩ : ∃ g : Nat → Int32, g = (own_if f374 f374 z372 z373 (3 : Int32) zn (f180 (3 : Int32).toInt.toNat) (f180 (3 : Int32).toInt.toNat)) := ⟨_, rfl⟩
        rw [← hf384] at G379_5
        obtain ⟨f385, hf385⟩ : ∃ g : Nat → Int32, g = (own_if f375 f374 z372 z373 (3 : Int32) zn (f180 (3 : Int32).toInt.toNat) ((f180 (3 : Int32).toInt.toNat) + (1 : Int32))) := ⟨_, rfl⟩
        rw [← hf385] at G379_6
        refine own_via (T379.setTop (mkF m 291 #[.val (.int p0), .val (.long p1), .second, .val (.int p2), .val (.int p3), .val (.int zn), .val (.int z157), .val (.int z158), .val (.int z160), .val (.int z161), .val (.int z162), .val (.ref b163), .val (.ref b183), .val (.ref b342), .unset, .unset, .unset, .unset] [])) (fun t k => st379 t k) ?_
        have hs4 := own_step hI3 (by omega) hz382 hz383 hf384
        have hI4 := hs4.1
        have hc4 := hs4.2.1
        have hq4 := hs4.2.2 
        refine own_via (T379.setTop (mkF m 293 #[.val (.int p0), .val (.long p1), .second, .val (.int p2), .val (.int p3), .val (.int zn), .val (.int z157), .val (.int z158), .val (.int z160), .val (.int z161), .val (.int z162), .val (.ref b163), .val (.ref b183), .val (.ref b342), .unset, .unset, .unset, .unset] [(.int z158)])) (fun t k => XS.iload X379.here hx rfl (hb hby at_291) rfl  k) ?_
        refine own_via (T379.setTop (mkF m 294 #[.val (.int p0), .val (.long p1), .second, .val (.int p2), .val (.int p3), .val (.int zn), .val (.int z157), .val (.int z158), .val (.int z160), .val (.int z161), .val (.int z162), .val (.ref b163), .val (.ref b183), .val (.ref b342), .unset, .unset, .unset, .unset] [(.long (z158.toInt64))])) (fun t k => XS.i2l X379.here hx rfl (hb hby at_293) rfl k) ?_
        refine own_via (T379.setTop (mkF m 295 #[.val (.int p0), .val (.long p1), .second, .val (.int p2), .val (.int p3), .val (.int zn), .val (.int z157), .val (.int z158), .val (.int z160), .val (.int z161), .val (.int z162), .val (.ref b163), .val (.ref b183), .val (.ref b342), .unset, .unset, .unset, .unset] [(.int p2), (.long (z158.toInt64))])) (fun t k => XS.iloadN X379.here hx rfl (hb hby at_294) rfl  k) ?_
        refine own_via (T379.setTop (mkF m 297 #[.val (.int p0), .val (.long p1), .second, .val (.int p2), .val (.int p3), .val (.int zn), .val (.int z157), .val (.int z158), .val (.int z160), .val (.int z161), .val (.int z162), .val (.ref b163), .val (.ref b183), .val (.ref b342), .unset, .unset, .unset, .unset] [(.int (65536 : Int32)), (.int p2), (.long (z158.toInt64))])) (fun t k => X379.ldcInt hx hown (mvT hZ (hw _ (List.mem_of_getElem? (i := 23) rfl))) (g := (mkF m 295 #[.val (.int p0), .val (.long p1), .second, .val (.int p2), .val (.int p3), .val (.int zn), .val (.int z157), .val (.int z158), .val (.int z160), .val (.int z161), .val (.int z162), .val (.ref b163), .val (.ref b183), .val (.ref b342), .unset, .unset, .unset, .unset] [(.int p2), (.long (z158.toInt64))])) rfl (hb hby at_295) _ k) ?_
        refine own_via (T379.setTop (mkF m 298 #[.val (.int p0), .val (.long p1), .second, .val (.int p2), .val (.int p3), .val (.int zn), .val (.int z157), .val (.int z158), .val (.int z160), .val (.int z161), .val (.int z162), .val (.ref b163), .val (.ref b183), .val (.ref b342), .unset, .unset, .unset, .unset] [(.int (p2 % (65536 : Int32))), (.long (z158.toInt64))])) (fun t k => Jvm.RoadKit.iremM X379 hx rfl (hb hby at_297) rfl (by decide) k) ?_
        refine own_via (T379.setTop (mkF m 299 #[.val (.int p0), .val (.long p1), .second, .val (.int p2), .val (.int p3), .val (.int zn), .val (.int z157), .val (.int z158), .val (.int z160), .val (.int z161), .val (.int z162), .val (.ref b163), .val (.ref b183), .val (.ref b342), .unset, .unset, .unset, .unset] [(.long ((p2 % (65536 : Int32)).toInt64)), (.long (z158.toInt64))])) (fun t k => XS.i2l X379.here hx rfl (hb hby at_298) rfl k) ?_
        refine own_via (T379.setTop (mkF m 300 #[.val (.int p0), .val (.long p1), .second, .val (.int p2), .val (.int p3), .val (.int zn), .val (.int z157), .val (.int z158), .val (.int z160), .val (.int z161), .val (.int z162), .val (.ref b163), .val (.ref b183), .val (.ref b342), .unset, .unset, .unset, .unset] [(.long ((z158.toInt64) + ((p2 % (65536 : Int32)).toInt64)))])) (fun t k => XS.ladd X379.here hx rfl (hb hby at_299) rfl k) ?_
        obtain ⟨z386, hz386⟩ : ∃ z : Int64, z = ((z158.toInt64) + ((p2 % (65536 : Int32)).toInt64)) := ⟨_, rfl⟩
        refine own_via (T379.setTop (mkF m 302 #[.val (.int p0), .val (.long p1), .second, .val (.int p2), .val (.int p3), .val (.int zn), .val (.int z157), .val (.int z158), .val (.int z160), .val (.int z161), .val (.int z162), .val (.ref b163), .val (.ref b183), .val (.ref b342), .val (.long z386), .second, .unset, .unset] [])) (fun t k => XS.lstore X379.here hx rfl (hb hby at_300) rfl (l' := #[.val (.int p0), .val (.long p1), .second, .val (.int p2), .val (.int p3), .val (.int zn), .val (.int z157), .val (.int z158), .val (.int z160), .val (.int z161), .val (.int z162), .val (.ref b163), .val (.ref b183), .val (.ref b342), .val (.long z386), .second, .unset, .unset]) (by rw [hz386]; rfl) k) ?_
        refine own_via (T379.setTop (mkF m 304 #[.val (.int p0), .val (.long p1), .second, .val (.int p2), .val (.int p3), .val (.int zn), .val (.int z157), .val (.int z158), .val (.int z160), .val (.int z161), .val (.int z162), .val (.ref b163), .val (.ref b183), .val (.ref b342), .val (.long z386), .second, .unset, .unset] [(.int p3)])) (fun t k => XS.iload X379.here hx rfl (hb hby at_302) rfl  k) ?_
        refine own_via (T379.setTop (mkF m 305 #[.val (.int p0), .val (.long p1), .second, .val (.int p2), .val (.int p3), .val (.int zn), .val (.int z157), .val (.int z158), .val (.int z160), .val (.int z161), .val (.int z162), .val (.ref b163), .val (.ref b183), .val (.ref b342), .val (.long z386), .second, .unset, .unset] [(.int (1 : Int32)), (.int p3)])) (fun t k => XS.iconst X379.here hx rfl (hb hby at_304) k) ?_
        refine own_via (T379.setTop (mkF m 306 #[.val (.int p0), .val (.long p1), .second, .val (.int p2), .val (.int p3), .val (.int zn), .val (.int z157), .val (.int z158), .val (.int z160), .val (.int z161), .val (.int z162), .val (.ref b163), .val (.ref b183), .val (.ref b342), .val (.long z386), .second, .unset, .unset] [(.int (p3 &&& (1 : Int32)))])) (fun t k => XS.iand X379.here hx rfl (hb hby at_305) rfl k) ?_
        obtain ⟨z387, hz387⟩ : ∃ z : Int32, z = (if (p3 &&& (1 : Int32)) = (0 : Int32) then p2 else (if z386 < (-2147483648 : Int64) then p2 else (if (2147483647 : Int64) < z386 then p2 else (z386.toInt32)))) := ⟨_, rfl⟩
        refine own_via (T379.setTop (mkF m 334 #[.val (.int p0), .val (.long p1), .second, .val (.int p2), .val (.int p3), .val (.int zn), .val (.int z157), .val (.int z158), .val (.int z160), .val (.int z161), .val (.int z162), .val (.ref b163), .val (.ref b183), .val (.ref b342), .val (.long z386), .second, .unset, .unset] [(.int z387)])) (fun t k => ?_) ?_
        · skip
          by_cases hj306_388 : (p3 &&& (1 : Int32)) = (0 : Int32)
          · refine XS.ifYes X379.here hx rfl (pc0 := 306) (pc' := 327) rfl (hb hby at_306) rfl ((if0 _ _).trans (teq hj306_388).1) (by decide) (by decide) (?_ : Steps p.tables e below (T379.setTop (mkF m 327 #[.val (.int p0), .val (.long p1), .second, .val (.int p2), .val (.int p3), .val (.int zn), .val (.int z157), .val (.int z158), .val (.int z160), .val (.int z161), .val (.int z162), .val (.ref b163), .val (.ref b183), .val (.ref b342), .val (.long z386), .second, .unset, .unset] [])) t)
            refine XS.iloadN X379.here hx rfl (hb hby at_327) rfl  (?_ : Steps p.tables e below (T379.setTop (mkF m 328 #[.val (.int p0), .val (.long p1), .second, .val (.int p2), .val (.int p3), .val (.int zn), .val (.int z157), .val (.int z158), .val (.int z160), .val (.int z161), .val (.int z162), .val (.ref b163), .val (.ref b183), .val (.ref b342), .val (.long z386), .second, .unset, .unset] [(.int p2)])) t)
            refine XS.goto X379.here hx rfl (pc0 := 328) (pc' := 334) rfl (hb hby at_328) (by decide) (by decide) (?_ : Steps p.tables e below (T379.setTop (mkF m 334 #[.val (.int p0), .val (.long p1), .second, .val (.int p2), .val (.int p3), .val (.int zn), .val (.int z157), .val (.int z158), .val (.int z160), .val (.int z161), .val (.int z162), .val (.ref b163), .val (.ref b183), .val (.ref b342), .val (.long z386), .second, .unset, .unset] [(.int p2)])) t)
            have q_z387 := (hz387.trans (if_pos hj306_388))
            subst q_z387
            exact k
          · refine XS.ifNo X379.here hx rfl (hb hby at_306) rfl ((if0 _ _).trans (feq hj306_388).1) (?_ : Steps p.tables e below (T379.setTop (mkF m 309 #[.val (.int p0), .val (.long p1), .second, .val (.int p2), .val (.int p3), .val (.int zn), .val (.int z157), .val (.int z158), .val (.int z160), .val (.int z161), .val (.int z162), .val (.ref b163), .val (.ref b183), .val (.ref b342), .val (.long z386), .second, .unset, .unset] [])) t)
            refine XS.lload X379.here hx rfl (hb hby at_309) rfl  (?_ : Steps p.tables e below (T379.setTop (mkF m 311 #[.val (.int p0), .val (.long p1), .second, .val (.int p2), .val (.int p3), .val (.int zn), .val (.int z157), .val (.int z158), .val (.int z160), .val (.int z161), .val (.int z162), .val (.ref b163), .val (.ref b183), .val (.ref b342), .val (.long z386), .second, .unset, .unset] [(.long z386)])) t)
            refine X379.ldc2Long hx hown (mvT hZ (hw _ (List.mem_of_getElem? (i := 54) rfl))) (g := (mkF m 311 #[.val (.int p0), .val (.long p1), .second, .val (.int p2), .val (.int p3), .val (.int zn), .val (.int z157), .val (.int z158), .val (.int z160), .val (.int z161), .val (.int z162), .val (.ref b163), .val (.ref b183), .val (.ref b342), .val (.long z386), .second, .unset, .unset] [(.long z386)])) rfl (hb hby at_311) _ (?_ : Steps p.tables e below (T379.setTop (mkF m 314 #[.val (.int p0), .val (.long p1), .second, .val (.int p2), .val (.int p3), .val (.int zn), .val (.int z157), .val (.int z158), .val (.int z160), .val (.int z161), .val (.int z162), .val (.ref b163), .val (.ref b183), .val (.ref b342), .val (.long z386), .second, .unset, .unset] [(.long (-2147483648 : Int64)), (.long z386)])) t)
            refine XS.lcmp X379.here hx rfl (hb hby at_314) rfl (?_ : Steps p.tables e below (T379.setTop (mkF m 315 #[.val (.int p0), .val (.long p1), .second, .val (.int p2), .val (.int p3), .val (.int zn), .val (.int z157), .val (.int z158), .val (.int z160), .val (.int z161), .val (.int z162), .val (.ref b163), .val (.ref b183), .val (.ref b342), .val (.long z386), .second, .unset, .unset] [(.int (lcmpW z386 (-2147483648 : Int64)))])) t)
            by_cases hj315_389 : z386 < (-2147483648 : Int64)
            · refine XS.ifYes X379.here hx rfl (pc0 := 315) (pc' := 327) rfl (hb hby at_315) rfl ((if0 _ _).trans (tlt ((lw_lt z386 (-2147483648 : Int64)).mpr hj315_389)).1) (by decide) (by decide) (?_ : Steps p.tables e below (T379.setTop (mkF m 327 #[.val (.int p0), .val (.long p1), .second, .val (.int p2), .val (.int p3), .val (.int zn), .val (.int z157), .val (.int z158), .val (.int z160), .val (.int z161), .val (.int z162), .val (.ref b163), .val (.ref b183), .val (.ref b342), .val (.long z386), .second, .unset, .unset] [])) t)
              refine XS.iloadN X379.here hx rfl (hb hby at_327) rfl  (?_ : Steps p.tables e below (T379.setTop (mkF m 328 #[.val (.int p0), .val (.long p1), .second, .val (.int p2), .val (.int p3), .val (.int zn), .val (.int z157), .val (.int z158), .val (.int z160), .val (.int z161), .val (.int z162), .val (.ref b163), .val (.ref b183), .val (.ref b342), .val (.long z386), .second, .unset, .unset] [(.int p2)])) t)
              refine XS.goto X379.here hx rfl (pc0 := 328) (pc' := 334) rfl (hb hby at_328) (by decide) (by decide) (?_ : Steps p.tables e below (T379.setTop (mkF m 334 #[.val (.int p0), .val (.long p1), .second, .val (.int p2), .val (.int p3), .val (.int zn), .val (.int z157), .val (.int z158), .val (.int z160), .val (.int z161), .val (.int z162), .val (.ref b163), .val (.ref b183), .val (.ref b342), .val (.long z386), .second, .unset, .unset] [(.int p2)])) t)
              have q_z387 := ((hz387.trans (if_neg hj306_388)).trans (if_pos hj315_389))
              subst q_z387
              exact k
            · refine XS.ifNo X379.here hx rfl (hb hby at_315) rfl ((if0 _ _).trans (flt (fun q => hj315_389 ((lw_lt z386 (-2147483648 : Int64)).mp q))).1) (?_ : Steps p.tables e below (T379.setTop (mkF m 318 #[.val (.int p0), .val (.long p1), .second, .val (.int p2), .val (.int p3), .val (.int zn), .val (.int z157), .val (.int z158), .val (.int z160), .val (.int z161), .val (.int z162), .val (.ref b163), .val (.ref b183), .val (.ref b342), .val (.long z386), .second, .unset, .unset] [])) t)
              refine XS.lload X379.here hx rfl (hb hby at_318) rfl  (?_ : Steps p.tables e below (T379.setTop (mkF m 320 #[.val (.int p0), .val (.long p1), .second, .val (.int p2), .val (.int p3), .val (.int zn), .val (.int z157), .val (.int z158), .val (.int z160), .val (.int z161), .val (.int z162), .val (.ref b163), .val (.ref b183), .val (.ref b342), .val (.long z386), .second, .unset, .unset] [(.long z386)])) t)
              refine X379.ldc2Long hx hown (mvT hZ (hw _ (List.mem_of_getElem? (i := 1) rfl))) (g := (mkF m 320 #[.val (.int p0), .val (.long p1), .second, .val (.int p2), .val (.int p3), .val (.int zn), .val (.int z157), .val (.int z158), .val (.int z160), .val (.int z161), .val (.int z162), .val (.ref b163), .val (.ref b183), .val (.ref b342), .val (.long z386), .second, .unset, .unset] [(.long z386)])) rfl (hb hby at_320) _ (?_ : Steps p.tables e below (T379.setTop (mkF m 323 #[.val (.int p0), .val (.long p1), .second, .val (.int p2), .val (.int p3), .val (.int zn), .val (.int z157), .val (.int z158), .val (.int z160), .val (.int z161), .val (.int z162), .val (.ref b163), .val (.ref b183), .val (.ref b342), .val (.long z386), .second, .unset, .unset] [(.long (2147483647 : Int64)), (.long z386)])) t)
              refine XS.lcmp X379.here hx rfl (hb hby at_323) rfl (?_ : Steps p.tables e below (T379.setTop (mkF m 324 #[.val (.int p0), .val (.long p1), .second, .val (.int p2), .val (.int p3), .val (.int zn), .val (.int z157), .val (.int z158), .val (.int z160), .val (.int z161), .val (.int z162), .val (.ref b163), .val (.ref b183), .val (.ref b342), .val (.long z386), .second, .unset, .unset] [(.int (lcmpW z386 (2147483647 : Int64)))])) t)
              by_cases hj324_390 : (2147483647 : Int64) < z386
              · refine XS.ifNo X379.here hx rfl (hb hby at_324) rfl ((if0 _ _).trans (tlt ((lw_gt z386 (2147483647 : Int64)).mpr hj324_390)).2.2.2) (?_ : Steps p.tables e below (T379.setTop (mkF m 327 #[.val (.int p0), .val (.long p1), .second, .val (.int p2), .val (.int p3), .val (.int zn), .val (.int z157), .val (.int z158), .val (.int z160), .val (.int z161), .val (.int z162), .val (.ref b163), .val (.ref b183), .val (.ref b342), .val (.long z386), .second, .unset, .unset] [])) t)
                refine XS.iloadN X379.here hx rfl (hb hby at_327) rfl  (?_ : Steps p.tables e below (T379.setTop (mkF m 328 #[.val (.int p0), .val (.long p1), .second, .val (.int p2), .val (.int p3), .val (.int zn), .val (.int z157), .val (.int z158), .val (.int z160), .val (.int z161), .val (.int z162), .val (.ref b163), .val (.ref b183), .val (.ref b342), .val (.long z386), .second, .unset, .unset] [(.int p2)])) t)
                refine XS.goto X379.here hx rfl (pc0 := 328) (pc' := 334) rfl (hb hby at_328) (by decide) (by decide) (?_ : Steps p.tables e below (T379.setTop (mkF m 334 #[.val (.int p0), .val (.long p1), .second, .val (.int p2), .val (.int p3), .val (.int zn), .val (.int z157), .val (.int z158), .val (.int z160), .val (.int z161), .val (.int z162), .val (.ref b163), .val (.ref b183), .val (.ref b342), .val (.long z386), .second, .unset, .unset] [(.int p2)])) t)
                have q_z387 := (((hz387.trans (if_neg hj306_388)).trans (if_neg hj315_389)).trans (if_pos hj324_390))
                subst q_z387
                exact k
              · refine XS.ifYes X379.here hx rfl (pc0 := 324) (pc' := 331) rfl (hb hby at_324) rfl ((if0 _ _).trans (flt (fun q => hj324_390 ((lw_gt z386 (2147483647 : Int64)).mp q))).2.2.2) (by decide) (by decide) (?_ : Steps p.tables e below (T379.setTop (mkF m 331 #[.val (.int p0), .val (.long p1), .second, .val (.int p2), .val (.int p3), .val (.int zn), .val (.int z157), .val (.int z158), .val (.int z160), .val (.int z161), .val (.int z162), .val (.ref b163), .val (.ref b183), .val (.ref b342), .val (.long z386), .second, .unset, .unset] [])) t)
                refine XS.lload X379.here hx rfl (hb hby at_331) rfl  (?_ : Steps p.tables e below (T379.setTop (mkF m 333 #[.val (.int p0), .val (.long p1), .second, .val (.int p2), .val (.int p3), .val (.int zn), .val (.int z157), .val (.int z158), .val (.int z160), .val (.int z161), .val (.int z162), .val (.ref b163), .val (.ref b183), .val (.ref b342), .val (.long z386), .second, .unset, .unset] [(.long z386)])) t)
                refine XS.l2i X379.here hx rfl (hb hby at_333) rfl (?_ : Steps p.tables e below (T379.setTop (mkF m 334 #[.val (.int p0), .val (.long p1), .second, .val (.int p2), .val (.int p3), .val (.int zn), .val (.int z157), .val (.int z158), .val (.int z160), .val (.int z161), .val (.int z162), .val (.ref b163), .val (.ref b183), .val (.ref b342), .val (.long z386), .second, .unset, .unset] [(.int (z386.toInt32))])) t)
                have q_z387 := (((hz387.trans (if_neg hj306_388)).trans (if_neg hj315_389)).trans (if_neg hj324_390))
                subst q_z387
                exact k
        refine own_via (T379.setTop (mkF m 336 #[.val (.int p0), .val (.long p1), .second, .val (.int p2), .val (.int p3), .val (.int zn), .val (.int z157), .val (.int z158), .val (.int z160), .val (.int z161), .val (.int z162), .val (.ref b163), .val (.ref b183), .val (.ref b342), .val (.long z386), .second, .val (.int z387), .unset] [])) (fun t k => XS.istore X379.here hx rfl (hb hby at_334) rfl (l' := #[.val (.int p0), .val (.long p1), .second, .val (.int p2), .val (.int p3), .val (.int zn), .val (.int z157), .val (.int z158), .val (.int z160), .val (.int z161), .val (.int z162), .val (.ref b163), .val (.ref b183), .val (.ref b342), .val (.long z386), .second, .val (.int z387), .unset]) rfl k) ?_
        refine own_via (T379.setTop (mkF m 338 #[.val (.int p0), .val (.long p1), .second, .val (.int p2), .val (.int p3), .val (.int zn), .val (.int z157), .val (.int z158), .val (.int z160), .val (.int z161), .val (.int z162), .val (.ref b163), .val (.ref b183), .val (.ref b342), .val (.long z386), .second, .val (.int z387), .unset] [(.ref b163)])) (fun t k => XS.aload X379.here hx rfl (hb hby at_336) rfl rfl k) ?_
        refine own_via (T379.setTop (mkF m 339 #[.val (.int p0), .val (.long p1), .second, .val (.int p2), .val (.int p3), .val (.int zn), .val (.int z157), .val (.int z158), .val (.int z160), .val (.int z161), .val (.int z162), .val (.ref b163), .val (.ref b183), .val (.ref b342), .val (.long z386), .second, .val (.int z387), .unset] [(.int (0 : Int32)), (.ref b163)])) (fun t k => XS.iconst X379.here hx rfl (hb hby at_338) k) ?_
        refine own_via (T379.setTop (mkF m 341 #[.val (.int p0), .val (.long p1), .second, .val (.int p2), .val (.int p3), .val (.int zn), .val (.int z157), .val (.int z158), .val (.int z160), .val (.int z161), .val (.int z162), .val (.ref b163), .val (.ref b183), .val (.ref b342), .val (.long z386), .second, .val (.int z387), .unset] [(.int zn), (.int (0 : Int32)), (.ref b163)])) (fun t k => XS.iload X379.here hx rfl (hb hby at_339) rfl  k) ?_
        refine own_via (T379.setTop (mkF m 343 #[.val (.int p0), .val (.long p1), .second, .val (.int p2), .val (.int p3), .val (.int zn), .val (.int z157), .val (.int z158), .val (.int z160), .val (.int z161), .val (.int z162), .val (.ref b163), .val (.ref b183), .val (.ref b342), .val (.long z386), .second, .val (.int z387), .unset] [(.int z387), (.int zn), (.int (0 : Int32)), (.ref b163)])) (fun t k => XS.iload X379.here hx rfl (hb hby at_341) rfl  k) ?_
        have F392 := (F380.keep K379q (fun q => (List.mem_cons.mp q).elim ne_b163_b342 (fun q => (List.mem_cons.mp q).elim ne_b163_rs_344 (fun q => (List.mem_cons.mp q).elim ne_b163_re_344 (fun q => nomatch q)))))
        obtain ⟨_, _, ⟨T391, L391, k391, n391⟩, -, X391, ⟨Lc391, hQ391, l391, y391, z391⟩, st391⟩ := Jvm.LawKit.callS X379 hx (y := (⟨"com/example/honeyguide/honeyguide/SpansAfterPinLaw", "below", "([IIII)I"⟩ : MethodName)) hown (mvT hZ (hw _ (List.mem_of_getElem? (i := 24) rfl))) (mvT hZ (hw _ (List.mem_of_getElem? (i := 25) rfl))) (mvT hZ (hw _ (List.mem_of_getElem? (i := 21) rfl))) (mvT hZ (hw _ (List.mem_of_getElem? (i := 26) rfl))) (by decide) (backOf (W := 0) (rm4 l Z a0 hw [] b163 (0 : Int32) zn z387 h379 n0 (Nat.le_trans Z0 K381.1) f180 F392 (by decide)) hZ (hw _ (List.mem_of_getElem? (i := 26) rfl)) (hw _ (List.mem_of_getElem? (i := 21) rfl)) (by decide) (by decide)) (g := (mkF m 343 #[.val (.int p0), .val (.long p1), .second, .val (.int p2), .val (.int p3), .val (.int zn), .val (.int z157), .val (.int z158), .val (.int z160), .val (.int z161), .val (.int z162), .val (.ref b163), .val (.ref b183), .val (.ref b342), .val (.long z386), .second, .val (.int z387), .unset] [(.int z387), (.int zn), (.int (0 : Int32)), (.ref b163)])) rfl (by rw [hml]; rfl) (argsL := [(.ref b163), (.int (0 : Int32)), (.int zn), (.int z387)]) (rest := []) (lenOf pd_5 rfl) rfl (by show 2 * 0 + _ ≤ _; exact Nat.le_of_eq rfl) (hb hby at_343) (fun _ _ => ⟨rfl, e379, (by decide : 5 + 0 ≤ _), (by decide : 28 + 0 ≤ _)⟩)
        dsimp only [Pt.U, Pt.locs, Pt.cells, Pt.slots] at X391 l391 y391 z391 st391 hQ391
        rw [y391, z391] at X391
        have X391 : Stand _ _ _ _ _ _ _ _ _ _ T391 L391 5 28 := X391
        obtain ⟨rfl, N391q, e391⟩ := hQ391
        have N391 : Fr n0 L391 := by rw [l391]; exact Fr.app N379 N391q
        refine own_via (T391.setTop (mkF m 346 #[.val (.int p0), .val (.long p1), .second, .val (.int p2), .val (.int p3), .val (.int zn), .val (.int z157), .val (.int z158), .val (.int z160), .val (.int z161), .val (.int z162), .val (.ref b163), .val (.ref b183), .val (.ref b342), .val (.long z386), .second, .val (.int z387), .unset] [(.int (own_f4 (0 : Int32) zn z387 f180))])) (fun t k => st391 t k) ?_
        refine own_via (T391.setTop (mkF m 348 #[.val (.int p0), .val (.long p1), .second, .val (.int p2), .val (.int p3), .val (.int zn), .val (.int z157), .val (.int z158), .val (.int z160), .val (.int z161), .val (.int z162), .val (.ref b163), .val (.ref b183), .val (.ref b342), .val (.long z386), .second, .val (.int z387), .unset] [(.ref b163), (.int (own_f4 (0 : Int32) zn z387 f180))])) (fun t k => XS.aload X391.here hx rfl (hb hby at_346) rfl rfl k) ?_
        refine own_via (T391.setTop (mkF m 349 #[.val (.int p0), .val (.long p1), .second, .val (.int p2), .val (.int p3), .val (.int zn), .val (.int z157), .val (.int z158), .val (.int z160), .val (.int z161), .val (.int z162), .val (.ref b163), .val (.ref b183), .val (.ref b342), .val (.long z386), .second, .val (.int z387), .unset] [(.int (1 : Int32)), (.ref b163), (.int (own_f4 (0 : Int32) zn z387 f180))])) (fun t k => XS.iconst X391.here hx rfl (hb hby at_348) k) ?_
        refine own_via (T391.setTop (mkF m 351 #[.val (.int p0), .val (.long p1), .second, .val (.int p2), .val (.int p3), .val (.int zn), .val (.int z157), .val (.int z158), .val (.int z160), .val (.int z161), .val (.int z162), .val (.ref b163), .val (.ref b183), .val (.ref b342), .val (.long z386), .second, .val (.int z387), .unset] [(.int zn), (.int (1 : Int32)), (.ref b163), (.int (own_f4 (0 : Int32) zn z387 f180))])) (fun t k => XS.iload X391.here hx rfl (hb hby at_349) rfl  k) ?_
        refine own_via (T391.setTop (mkF m 353 #[.val (.int p0), .val (.long p1), .second, .val (.int p2), .val (.int p3), .val (.int zn), .val (.int z157), .val (.int z158), .val (.int z160), .val (.int z161), .val (.int z162), .val (.ref b163), .val (.ref b183), .val (.ref b342), .val (.long z386), .second, .val (.int z387), .unset] [(.int z387), (.int zn), (.int (1 : Int32)), (.ref b163), (.int (own_f4 (0 : Int32) zn z387 f180))])) (fun t k => XS.iload X391.here hx rfl (hb hby at_351) rfl  k) ?_
        obtain ⟨_, _, ⟨T393, L393, k393, n393⟩, -, X393, ⟨Lc393, hQ393, l393, y393, z393⟩, st393⟩ := Jvm.LawKit.callS X391 hx (y := (⟨"com/example/honeyguide/honeyguide/SpansAfterPinLaw", "below", "([IIII)I"⟩ : MethodName)) hown (mvT hZ (hw _ (List.mem_of_getElem? (i := 24) rfl))) (mvT hZ (hw _ (List.mem_of_getElem? (i := 25) rfl))) (mvT hZ (hw _ (List.mem_of_getElem? (i := 21) rfl))) (mvT hZ (hw _ (List.mem_of_getElem? (i := 26) rfl))) (by decide) (backOf (W := 1) (rm4 l Z a0 hw [] b163 (1 : Int32) zn z387 h379 n0 (Nat.le_trans Z0 K381.1) f180 F392 (by decide)) hZ (hw _ (List.mem_of_getElem? (i := 26) rfl)) (hw _ (List.mem_of_getElem? (i := 21) rfl)) (by decide) (by decide)) (g := (mkF m 353 #[.val (.int p0), .val (.long p1), .second, .val (.int p2), .val (.int p3), .val (.int zn), .val (.int z157), .val (.int z158), .val (.int z160), .val (.int z161), .val (.int z162), .val (.ref b163), .val (.ref b183), .val (.ref b342), .val (.long z386), .second, .val (.int z387), .unset] [(.int z387), (.int zn), (.int (1 : Int32)), (.ref b163), (.int (own_f4 (0 : Int32) zn z387 f180))])) rfl (by rw [hml]; rfl) (argsL := [(.ref b163), (.int (1 : Int32)), (.int zn), (.int z387)]) (rest := [(.int (own_f4 (0 : Int32) zn z387 f180))]) (lenOf pd_5 rfl) rfl (by show 2 * 0 + _ ≤ _; exact Nat.le_of_eq rfl) (hb hby at_353) (fun _ _ => ⟨rfl, e391, (by decide : 5 + 0 ≤ _), (by decide : 28 + 0 ≤ _)⟩)
        dsimp only [Pt.U, Pt.locs, Pt.cells, Pt.slots] at X393 l393 y393 z393 st393 hQ393
        rw [y393, z393] at X393
        have X393 : Stand _ _ _ _ _ _ _ _ _ _ T393 L393 5 28 := X393
        obtain ⟨rfl, N393q, e393⟩ := hQ393
        have N393 : Fr n0 L393 := by rw [l393]; exact Fr.app N391 N393q
        refine own_via (T393.setTop (mkF m 356 #[.val (.int p0), .val (.long p1), .second, .val (.int p2), .val (.int p3), .val (.int zn), .val (.int z157), .val (.int z158), .val (.int z160), .val (.int z161), .val (.int z162), .val (.ref b163), .val (.ref b183), .val (.ref b342), .val (.long z386), .second, .val (.int z387), .unset] [(.int (own_f4 (1 : Int32) zn z387 f180)), (.int (own_f4 (0 : Int32) zn z387 f180))])) (fun t k => st393 t k) ?_
        refine own_via (T393.setTop (mkF m 357 #[.val (.int p0), .val (.long p1), .second, .val (.int p2), .val (.int p3), .val (.int zn), .val (.int z157), .val (.int z158), .val (.int z160), .val (.int z161), .val (.int z162), .val (.ref b163), .val (.ref b183), .val (.ref b342), .val (.long z386), .second, .val (.int z387), .unset] [(.int ((own_f4 (0 : Int32) zn z387 f180) + (own_f4 (1 : Int32) zn z387 f180)))])) (fun t k => XS.iadd X393.here hx rfl (hb hby at_356) rfl k) ?_
        refine own_via (T393.setTop (mkF m 359 #[.val (.int p0), .val (.long p1), .second, .val (.int p2), .val (.int p3), .val (.int zn), .val (.int z157), .val (.int z158), .val (.int z160), .val (.int z161), .val (.int z162), .val (.ref b163), .val (.ref b183), .val (.ref b342), .val (.long z386), .second, .val (.int z387), .unset] [(.ref b163), (.int ((own_f4 (0 : Int32) zn z387 f180) + (own_f4 (1 : Int32) zn z387 f180)))])) (fun t k => XS.aload X393.here hx rfl (hb hby at_357) rfl rfl k) ?_
        refine own_via (T393.setTop (mkF m 360 #[.val (.int p0), .val (.long p1), .second, .val (.int p2), .val (.int p3), .val (.int zn), .val (.int z157), .val (.int z158), .val (.int z160), .val (.int z161), .val (.int z162), .val (.ref b163), .val (.ref b183), .val (.ref b342), .val (.long z386), .second, .val (.int z387), .unset] [(.int (2 : Int32)), (.ref b163), (.int ((own_f4 (0 : Int32) zn z387 f180) + (own_f4 (1 : Int32) zn z387 f180)))])) (fun t k => XS.iconst X393.here hx rfl (hb hby at_359) k) ?_
        refine own_via (T393.setTop (mkF m 362 #[.val (.int p0), .val (.long p1), .second, .val (.int p2), .val (.int p3), .val (.int zn), .val (.int z157), .val (.int z158), .val (.int z160), .val (.int z161), .val (.int z162), .val (.ref b163), .val (.ref b183), .val (.ref b342), .val (.long z386), .second, .val (.int z387), .unset] [(.int zn), (.int (2 : Int32)), (.ref b163), (.int ((own_f4 (0 : Int32) zn z387 f180) + (own_f4 (1 : Int32) zn z387 f180)))])) (fun t k => XS.iload X393.here hx rfl (hb hby at_360) rfl  k) ?_
        refine own_via (T393.setTop (mkF m 364 #[.val (.int p0), .val (.long p1), .second, .val (.int p2), .val (.int p3), .val (.int zn), .val (.int z157), .val (.int z158), .val (.int z160), .val (.int z161), .val (.int z162), .val (.ref b163), .val (.ref b183), .val (.ref b342), .val (.long z386), .second, .val (.int z387), .unset] [(.int z387), (.int zn), (.int (2 : Int32)), (.ref b163), (.int ((own_f4 (0 : Int32) zn z387 f180) + (own_f4 (1 : Int32) zn z387 f180)))])) (fun t k => XS.iload X393.here hx rfl (hb hby at_362) rfl  k) ?_
        obtain ⟨_, _, ⟨T394, L394, k394, n394⟩, -, X394, ⟨Lc394, hQ394, l394, y394, z394⟩, st394⟩ := Jvm.LawKit.callS X393 hx (y := (⟨"com/example/honeyguide/honeyguide/SpansAfterPinLaw", "below", "([IIII)I"⟩ : MethodName)) hown (mvT hZ (hw _ (List.mem_of_getElem? (i := 24) rfl))) (mvT hZ (hw _ (List.mem_of_getElem? (i := 25) rfl))) (mvT hZ (hw _ (List.mem_of_getElem? (i := 21) rfl))) (mvT hZ (hw _ (List.mem_of_getElem? (i := 26) rfl))) (by decide) (backOf (W := 1) (rm4 l Z a0 hw [] b163 (2 : Int32) zn z387 h379 n0 (Nat.le_trans Z0 K381.1) f180 F392 (by decide)) hZ (hw _ (List.mem_of_getElem? (i := 26) rfl)) (hw _ (List.mem_of_getElem? (i := 21) rfl)) (by decide) (by decide)) (g := (mkF m 364 #[.val (.int p0), .val (.long p1), .second, .val (.int p2), .val (.int p3), .val (.int zn), .val (.int z157), .val (.int z158), .val (.int z160), .val (.int z161), .val (.int z162), .val (.ref b163), .val (.ref b183), .val (.ref b342), .val (.long z386), .second, .val (.int z387), .unset] [(.int z387), (.int zn), (.int (2 : Int32)), (.ref b163), (.int ((own_f4 (0 : Int32) zn z387 f180) + (own_f4 (1 : Int32) zn z387 f180)))])) rfl (by rw [hml]; rfl) (argsL := [(.ref b163), (.int (2 : Int32)), (.int zn), (.int z387)]) (rest := [(.int ((own_f4 (0 : Int32) zn z387 f180) + (own_f4 (1 : Int32) zn z387 f180)))]) (lenOf pd_5 rfl) rfl (by show 2 * 0 + _ ≤ _; exact Nat.le_of_eq rfl) (hb hby at_364) (fun _ _ => ⟨rfl, e393, (by decide : 5 + 0 ≤ _), (by decide : 28 + 0 ≤ _)⟩)
        dsimp only [Pt.U, Pt.locs, Pt.cells, Pt.slots] at X394 l394 y394 z394 st394 hQ394
        rw [y394, z394] at X394
        have X394 : Stand _ _ _ _ _ _ _ _ _ _ T394 L394 5 28 := X394
        obtain ⟨rfl, N394q, e394⟩ := hQ394
        have N394 : Fr n0 L394 := by rw [l394]; exact Fr.app N393 N394q
        refine own_via (T394.setTop (mkF m 367 #[.val (.int p0), .val (.long p1), .second, .val (.int p2), .val (.int p3), .val (.int zn), .val (.int z157), .val (.int z158), .val (.int z160), .val (.int z161), .val (.int z162), .val (.ref b163), .val (.ref b183), .val (.ref b342), .val (.long z386), .second, .val (.int z387), .unset] [(.int (own_f4 (2 : Int32) zn z387 f180)), (.int ((own_f4 (0 : Int32) zn z387 f180) + (own_f4 (1 : Int32) zn z387 f180)))])) (fun t k => st394 t k) ?_
        refine own_via (T394.setTop (mkF m 368 #[.val (.int p0), .val (.long p1), .second, .val (.int p2), .val (.int p3), .val (.int zn), .val (.int z157), .val (.int z158), .val (.int z160), .val (.int z161), .val (.int z162), .val (.ref b163), .val (.ref b183), .val (.ref b342), .val (.long z386), .second, .val (.int z387), .unset] [(.int (((own_f4 (0 : Int32) zn z387 f180) + (own_f4 (1 : Int32) zn z387 f180)) + (own_f4 (2 : Int32) zn z387 f180)))])) (fun t k => XS.iadd X394.here hx rfl (hb hby at_367) rfl k) ?_
        refine own_via (T394.setTop (mkF m 370 #[.val (.int p0), .val (.long p1), .second, .val (.int p2), .val (.int p3), .val (.int zn), .val (.int z157), .val (.int z158), .val (.int z160), .val (.int z161), .val (.int z162), .val (.ref b163), .val (.ref b183), .val (.ref b342), .val (.long z386), .second, .val (.int z387), .unset] [(.ref b163), (.int (((own_f4 (0 : Int32) zn z387 f180) + (own_f4 (1 : Int32) zn z387 f180)) + (own_f4 (2 : Int32) zn z387 f180)))])) (fun t k => XS.aload X394.here hx rfl (hb hby at_368) rfl rfl k) ?_
        refine own_via (T394.setTop (mkF m 371 #[.val (.int p0), .val (.long p1), .second, .val (.int p2), .val (.int p3), .val (.int zn), .val (.int z157), .val (.int z158), .val (.int z160), .val (.int z161), .val (.int z162), .val (.ref b163), .val (.ref b183), .val (.ref b342), .val (.long z386), .second, .val (.int z387), .unset] [(.int (3 : Int32)), (.ref b163), (.int (((own_f4 (0 : Int32) zn z387 f180) + (own_f4 (1 : Int32) zn z387 f180)) + (own_f4 (2 : Int32) zn z387 f180)))])) (fun t k => XS.iconst X394.here hx rfl (hb hby at_370) k) ?_
        refine own_via (T394.setTop (mkF m 373 #[.val (.int p0), .val (.long p1), .second, .val (.int p2), .val (.int p3), .val (.int zn), .val (.int z157), .val (.int z158), .val (.int z160), .val (.int z161), .val (.int z162), .val (.ref b163), .val (.ref b183), .val (.ref b342), .val (.long z386), .second, .val (.int z387), .unset] [(.int zn), (.int (3 : Int32)), (.ref b163), (.int (((own_f4 (0 : Int32) zn z387 f180) + (own_f4 (1 : Int32) zn z387 f180)) + (own_f4 (2 : Int32) zn z387 f180)))])) (fun t k => XS.iload X394.here hx rfl (hb hby at_371) rfl  k) ?_
        refine own_via (T394.setTop (mkF m 375 #[.val (.int p0), .val (.long p1), .second, .val (.int p2), .val (.int p3), .val (.int zn), .val (.int z157), .val (.int z158), .val (.int z160), .val (.int z161), .val (.int z162), .val (.ref b163), .val (.ref b183), .val (.ref b342), .val (.long z386), .second, .val (.int z387), .unset] [(.int z387), (.int zn), (.int (3 : Int32)), (.ref b163), (.int (((own_f4 (0 : Int32) zn z387 f180) + (own_f4 (1 : Int32) zn z387 f180)) + (own_f4 (2 : Int32) zn z387 f180)))])) (fun t k => XS.iload X394.here hx rfl (hb hby at_373) rfl  k) ?_
        obtain ⟨_, _, ⟨T395, L395, k395, n395⟩, -, X395, ⟨Lc395, hQ395, l395, y395, z395⟩, st395⟩ := Jvm.LawKit.callS X394 hx (y := (⟨"com/example/honeyguide/honeyguide/SpansAfterPinLaw", "below", "([IIII)I"⟩ : MethodName)) hown (mvT hZ (hw _ (List.mem_of_getElem? (i := 24) rfl))) (mvT hZ (hw _ (List.mem_of_getElem? (i := 25) rfl))) (mvT hZ (hw _ (List.mem_of_getElem? (i := 21) rfl))) (mvT hZ (hw _ (List.mem_of_getElem? (i := 26) rfl))) (by decide) (backOf (W := 1) (rm4 l Z a0 hw [] b163 (3 : Int32) zn z387 h379 n0 (Nat.le_trans Z0 K381.1) f180 F392 (by decide)) hZ (hw _ (List.mem_of_getElem? (i := 26) rfl)) (hw _ (List.mem_of_getElem? (i := 21) rfl)) (by decide) (by decide)) (g := (mkF m 375 #[.val (.int p0), .val (.long p1), .second, .val (.int p2), .val (.int p3), .val (.int zn), .val (.int z157), .val (.int z158), .val (.int z160), .val (.int z161), .val (.int z162), .val (.ref b163), .val (.ref b183), .val (.ref b342), .val (.long z386), .second, .val (.int z387), .unset] [(.int z387), (.int zn), (.int (3 : Int32)), (.ref b163), (.int (((own_f4 (0 : Int32) zn z387 f180) + (own_f4 (1 : Int32) zn z387 f180)) + (own_f4 (2 : Int32) zn z387 f180)))])) rfl (by rw [hml]; rfl) (argsL := [(.ref b163), (.int (3 : Int32)), (.int zn), (.int z387)]) (rest := [(.int (((own_f4 (0 : Int32) zn z387 f180) + (own_f4 (1 : Int32) zn z387 f180)) + (own_f4 (2 : Int32) zn z387 f180)))]) (lenOf pd_5 rfl) rfl (by show 2 * 0 + _ ≤ _; exact Nat.le_of_eq rfl) (hb hby at_375) (fun _ _ => ⟨rfl, e394, (by decide : 5 + 0 ≤ _), (by decide : 28 + 0 ≤ _)⟩)
        dsimp only [Pt.U, Pt.locs, Pt.cells, Pt.slots] at X395 l395 y395 z395 st395 hQ395
        rw [y395, z395] at X395
        have X395 : Stand _ _ _ _ _ _ _ _ _ _ T395 L395 5 28 := X395
        obtain ⟨rfl, N395q, e395⟩ := hQ395
        have N395 : Fr n0 L395 := by rw [l395]; exact Fr.app N394 N395q
        refine own_via (T395.setTop (mkF m 378 #[.val (.int p0), .val (.long p1), .second, .val (.int p2), .val (.int p3), .val (.int zn), .val (.int z157), .val (.int z158), .val (.int z160), .val (.int z161), .val (.int z162), .val (.ref b163), .val (.ref b183), .val (.ref b342), .val (.long z386), .second, .val (.int z387), .unset] [(.int (own_f4 (3 : Int32) zn z387 f180)), (.int (((own_f4 (0 : Int32) zn z387 f180) + (own_f4 (1 : Int32) zn z387 f180)) + (own_f4 (2 : Int32) zn z387 f180)))])) (fun t k => st395 t k) ?_
        refine own_via (T395.setTop (mkF m 379 #[.val (.int p0), .val (.long p1), .second, .val (.int p2), .val (.int p3), .val (.int zn), .val (.int z157), .val (.int z158), .val (.int z160), .val (.int z161), .val (.int z162), .val (.ref b163), .val (.ref b183), .val (.ref b342), .val (.long z386), .second, .val (.int z387), .unset] [(.int ((((own_f4 (0 : Int32) zn z387 f180) + (own_f4 (1 : Int32) zn z387 f180)) + (own_f4 (2 : Int32) zn z387 f180)) + (own_f4 (3 : Int32) zn z387 f180)))])) (fun t k => XS.iadd X395.here hx rfl (hb hby at_378) rfl k) ?_
        obtain ⟨zr, hzr⟩ : ∃ z : Int32, z = ((((own_f4 (0 : Int32) zn z387 f180) + (own_f4 (1 : Int32) zn z387 f180)) + (own_f4 (2 : Int32) zn z387 f180)) + (own_f4 (3 : Int32) zn z387 f180)) := ⟨_, rfl⟩
        refine own_via (T395.setTop (mkF m 381 #[.val (.int p0), .val (.long p1), .second, .val (.int p2), .val (.int p3), .val (.int zn), .val (.int z157), .val (.int z158), .val (.int z160), .val (.int z161), .val (.int z162), .val (.ref b163), .val (.ref b183), .val (.ref b342), .val (.long z386), .second, .val (.int z387), .val (.int zr)] [])) (fun t k => XS.istore X395.here hx rfl (hb hby at_379) rfl (l' := #[.val (.int p0), .val (.long p1), .second, .val (.int p2), .val (.int p3), .val (.int zn), .val (.int z157), .val (.int z158), .val (.int z160), .val (.int z161), .val (.int z162), .val (.ref b163), .val (.ref b183), .val (.ref b342), .val (.long z386), .second, .val (.int z387), .val (.int zr)]) (by rw [hzr]; rfl) k) ?_
        have hct : own_f5 z383 = zn := own_cntfin (own_nb hzn) (by have e0 : (0 : Int32).toInt = 0 := rfl; omega)
        have hav : own_a f384 z382 z383 z387 = zr := by
          have hb0 : own_cnt (fun _ => (0 : Int32)) (4 : Int32).toInt.toNat (0 : Int32).toInt.toNat z387 = 0 := rfl
          have a1 := hq1 z387; have a2 := hq2 z387; have a3 := hq3 z387; have a4 := hq4 z387
          exact own_afin (sa := f180) (n := zn) (by omega) hzr
        refine own_via (T395.setTop (mkF m 383 #[.val (.int p0), .val (.long p1), .second, .val (.int p2), .val (.int p3), .val (.int zn), .val (.int z157), .val (.int z158), .val (.int z160), .val (.int z161), .val (.int z162), .val (.ref b163), .val (.ref b183), .val (.ref b342), .val (.long z386), .second, .val (.int z387), .val (.int zr)] [(.ref b342)])) (fun t k => XS.aload X395.here hx rfl (hb hby at_381) rfl rfl k) ?_
        obtain ⟨cq396, kq396, q396a, q396b, q396c⟩ := isOf hZ e395 G379_0
        obtain ⟨_, _, ⟨T396, L396, k396, n396⟩, -, X396, ⟨Lc396, hQ396, l396, y396, z396⟩, st396⟩ := X395.virtualBack hx (y := (⟨"com/example/honeyguide/honeyguide/Spans", "count", "()I"⟩ : MethodName)) (z := (⟨"com/example/honeyguide/honeyguide/Spans", "count", "()I"⟩ : MethodName)) hown (mvT hZ (hw _ (List.mem_of_getElem? (i := 27) rfl))) (mvT hZ (hw _ (List.mem_of_getElem? (i := 28) rfl))) (notFace_of_selects (args := #[]) (mvT hZ (hw _ (List.mem_of_getElem? (i := 30) rfl)))) (mvT hZ (hw _ (List.mem_of_getElem? (i := 30) rfl))) (mvT hZ (hw _ (List.mem_of_getElem? (i := 29) rfl))) (by decide) (backOf (W := 0) (rm5 l Z a0 hw [] b342 h379 n0 (Nat.le_trans Z0 K381.1) z383 G379_2) hZ (hw _ (List.mem_of_getElem? (i := 31) rfl)) (hw _ (List.mem_of_getElem? (i := 6) rfl)) (by decide) (by decide)) q396a q396c (g := (mkF m 383 #[.val (.int p0), .val (.long p1), .second, .val (.int p2), .val (.int p3), .val (.int zn), .val (.int z157), .val (.int z158), .val (.int z160), .val (.int z161), .val (.int z162), .val (.ref b163), .val (.ref b183), .val (.ref b342), .val (.long z386), .second, .val (.int z387), .val (.int zr)] [(.ref b342)])) rfl (by rw [hml]; rfl) (Steps.refl _) (argsL := []) (rest := []) (lenOf pd_6 rfl) rfl (by show 2 * 0 + _ ≤ _; exact Nat.le_of_eq rfl) (hb hby at_383) (fun _ _ => ⟨rfl, e395, (by decide : 5 + 0 ≤ _), (by decide : 28 + 0 ≤ _)⟩)
        dsimp only [Pt.U, Pt.locs, Pt.cells, Pt.slots] at X396 l396 y396 z396 st396 hQ396
        rw [y396, z396] at X396
        have X396 : Stand _ _ _ _ _ _ _ _ _ _ T396 L396 5 28 := X396
        obtain ⟨rfl, N396q, e396⟩ := hQ396
        have N396 : Fr n0 L396 := by rw [l396]; exact Fr.app N395 N396q
        refine own_via (T396.setTop (mkF m 386 #[.val (.int p0), .val (.long p1), .second, .val (.int p2), .val (.int p3), .val (.int zn), .val (.int z157), .val (.int z158), .val (.int z160), .val (.int z161), .val (.int z162), .val (.ref b163), .val (.ref b183), .val (.ref b342), .val (.long z386), .second, .val (.int z387), .val (.int zr)] [(.int (own_f5 z383))])) (fun t k => st396.trans k) ?_
        refine own_via (T396.setTop (mkF m 388 #[.val (.int p0), .val (.long p1), .second, .val (.int p2), .val (.int p3), .val (.int zn), .val (.int z157), .val (.int z158), .val (.int z160), .val (.int z161), .val (.int z162), .val (.ref b163), .val (.ref b183), .val (.ref b342), .val (.long z386), .second, .val (.int z387), .val (.int zr)] [(.int zn), (.int (own_f5 z383))])) (fun t k => XS.iload X396.here hx rfl (hb hby at_386) rfl  k) ?_
        by_cases hc388_397 : (own_f5 z383) = zn
        · refine own_via (T396.setTop (mkF m 391 #[.val (.int p0), .val (.long p1), .second, .val (.int p2), .val (.int p3), .val (.int zn), .val (.int z157), .val (.int z158), .val (.int z160), .val (.int z161), .val (.int z162), .val (.ref b163), .val (.ref b183), .val (.ref b342), .val (.long z386), .second, .val (.int z387), .val (.int zr)] [])) (fun t k => XS.icmpNo X396.here hx rfl (hb hby at_388) rfl (teq hc388_397).2 k) ?_
          refine own_via (T396.setTop (mkF m 393 #[.val (.int p0), .val (.long p1), .second, .val (.int p2), .val (.int p3), .val (.int zn), .val (.int z157), .val (.int z158), .val (.int z160), .val (.int z161), .val (.int z162), .val (.ref b163), .val (.ref b183), .val (.ref b342), .val (.long z386), .second, .val (.int z387), .val (.int zr)] [(.ref b342)])) (fun t k => XS.aload X396.here hx rfl (hb hby at_391) rfl rfl k) ?_
          refine own_via (T396.setTop (mkF m 395 #[.val (.int p0), .val (.long p1), .second, .val (.int p2), .val (.int p3), .val (.int zn), .val (.int z157), .val (.int z158), .val (.int z160), .val (.int z161), .val (.int z162), .val (.ref b163), .val (.ref b183), .val (.ref b342), .val (.long z386), .second, .val (.int z387), .val (.int zr)] [(.int z387), (.ref b342)])) (fun t k => XS.iload X396.here hx rfl (hb hby at_393) rfl  k) ?_
          obtain ⟨cq398, kq398, q398a, q398b, q398c⟩ := isOf hZ e396 G379_0
          obtain ⟨_, _, ⟨T398, L398, k398, n398⟩, -, X398, ⟨Lc398, hQ398, l398, y398, z398⟩, st398⟩ := X396.virtualBack hx (y := (⟨"com/example/honeyguide/honeyguide/Spans", "after", "(I)I"⟩ : MethodName)) (z := (⟨"com/example/honeyguide/honeyguide/Spans", "after", "(I)I"⟩ : MethodName)) hown (mvT hZ (hw _ (List.mem_of_getElem? (i := 34) rfl))) (mvT hZ (hw _ (List.mem_of_getElem? (i := 35) rfl))) (notFace_of_selects (args := #[]) (mvT hZ (hw _ (List.mem_of_getElem? (i := 37) rfl)))) (mvT hZ (hw _ (List.mem_of_getElem? (i := 37) rfl))) (mvT hZ (hw _ (List.mem_of_getElem? (i := 36) rfl))) (by decide) (backOf (W := 0) (rm6 l Z a0 hw [] b342 z387 h379 n0 (Nat.le_trans Z0 K381.1) rs_344 z382 z383 f384 G379_3 G379_1 G379_2 G379_5 hI4) hZ (hw _ (List.mem_of_getElem? (i := 38) rfl)) (hw _ (List.mem_of_getElem? (i := 6) rfl)) (by decide) (by decide)) q398a q398c (g := (mkF m 395 #[.val (.int p0), .val (.long p1), .second, .val (.int p2), .val (.int p3), .val (.int zn), .val (.int z157), .val (.int z158), .val (.int z160), .val (.int z161), .val (.int z162), .val (.ref b163), .val (.ref b183), .val (.ref b342), .val (.long z386), .second, .val (.int z387), .val (.int zr)] [(.int z387), (.ref b342)])) rfl (by rw [hml]; rfl) (Steps.refl _) (argsL := [(.int z387)]) (rest := []) (lenOf pd_0 rfl) rfl (by show 2 * 0 + _ ≤ _; exact Nat.le_of_eq rfl) (hb hby at_395) (fun _ _ => ⟨rfl, e396, (by decide : 5 + 0 ≤ _), (by decide : 28 + 0 ≤ _)⟩)
          dsimp only [Pt.U, Pt.locs, Pt.cells, Pt.slots] at X398 l398 y398 z398 st398 hQ398
          rw [y398, z398] at X398
          have X398 : Stand _ _ _ _ _ _ _ _ _ _ T398 L398 5 28 := X398
          obtain ⟨rfl, N398q, e398⟩ := hQ398
          have N398 : Fr n0 L398 := by rw [l398]; exact Fr.app N396 N398q
          refine own_via (T398.setTop (mkF m 398 #[.val (.int p0), .val (.long p1), .second, .val (.int p2), .val (.int p3), .val (.int zn), .val (.int z157), .val (.int z158), .val (.int z160), .val (.int z161), .val (.int z162), .val (.ref b163), .val (.ref b183), .val (.ref b342), .val (.long z386), .second, .val (.int z387), .val (.int zr)] [(.int (own_a f384 z382 z383 z387))])) (fun t k => st398.trans k) ?_
          refine own_via (T398.setTop (mkF m 400 #[.val (.int p0), .val (.long p1), .second, .val (.int p2), .val (.int p3), .val (.int zn), .val (.int z157), .val (.int z158), .val (.int z160), .val (.int z161), .val (.int z162), .val (.ref b163), .val (.ref b183), .val (.ref b342), .val (.long z386), .second, .val (.int z387), .val (.int zr)] [(.int zr), (.int (own_a f384 z382 z383 z387))])) (fun t k => XS.iload X398.here hx rfl (hb hby at_398) rfl  k) ?_
          obtain ⟨z399, hz399⟩ : ∃ z : Int32, z = (if (own_a f384 z382 z383 z387) = zr then (1 : Int32) else (0 : Int32)) := ⟨_, rfl⟩
          refine own_via (T398.setTop (mkF m 408 #[.val (.int p0), .val (.long p1), .second, .val (.int p2), .val (.int p3), .val (.int zn), .val (.int z157), .val (.int z158), .val (.int z160), .val (.int z161), .val (.int z162), .val (.ref b163), .val (.ref b183), .val (.ref b342), .val (.long z386), .second, .val (.int z387), .val (.int zr)] [(.int z399)])) (fun t k => ?_) ?_
          · skip
            by_cases hj400_400 : (own_a f384 z382 z383 z387) = zr
            · refine XS.icmpNo X398.here hx rfl (hb hby at_400) rfl (teq hj400_400).2 (?_ : Steps p.tables e below (T398.setTop (mkF m 403 #[.val (.int p0), .val (.long p1), .second, .val (.int p2), .val (.int p3), .val (.int zn), .val (.int z157), .val (.int z158), .val (.int z160), .val (.int z161), .val (.int z162), .val (.ref b163), .val (.ref b183), .val (.ref b342), .val (.long z386), .second, .val (.int z387), .val (.int zr)] [])) t)
              refine XS.iconst X398.here hx rfl (hb hby at_403) (?_ : Steps p.tables e below (T398.setTop (mkF m 404 #[.val (.int p0), .val (.long p1), .second, .val (.int p2), .val (.int p3), .val (.int zn), .val (.int z157), .val (.int z158), .val (.int z160), .val (.int z161), .val (.int z162), .val (.ref b163), .val (.ref b183), .val (.ref b342), .val (.long z386), .second, .val (.int z387), .val (.int zr)] [(.int (1 : Int32))])) t)
              refine XS.goto X398.here hx rfl (pc0 := 404) (pc' := 408) rfl (hb hby at_404) (by decide) (by decide) (?_ : Steps p.tables e below (T398.setTop (mkF m 408 #[.val (.int p0), .val (.long p1), .second, .val (.int p2), .val (.int p3), .val (.int zn), .val (.int z157), .val (.int z158), .val (.int z160), .val (.int z161), .val (.int z162), .val (.ref b163), .val (.ref b183), .val (.ref b342), .val (.long z386), .second, .val (.int z387), .val (.int zr)] [(.int (1 : Int32))])) t)
              have q_z399 := (hz399.trans (if_pos hj400_400))
              subst q_z399
              exact k
            · refine XS.icmpYes X398.here hx rfl (pc0 := 400) (pc' := 407) rfl (hb hby at_400) rfl (feq hj400_400).2 (by decide) (by decide) (?_ : Steps p.tables e below (T398.setTop (mkF m 407 #[.val (.int p0), .val (.long p1), .second, .val (.int p2), .val (.int p3), .val (.int zn), .val (.int z157), .val (.int z158), .val (.int z160), .val (.int z161), .val (.int z162), .val (.ref b163), .val (.ref b183), .val (.ref b342), .val (.long z386), .second, .val (.int z387), .val (.int zr)] [])) t)
              refine XS.iconst X398.here hx rfl (hb hby at_407) (?_ : Steps p.tables e below (T398.setTop (mkF m 408 #[.val (.int p0), .val (.long p1), .second, .val (.int p2), .val (.int p3), .val (.int zn), .val (.int z157), .val (.int z158), .val (.int z160), .val (.int z161), .val (.int z162), .val (.ref b163), .val (.ref b183), .val (.ref b342), .val (.long z386), .second, .val (.int z387), .val (.int zr)] [(.int (0 : Int32))])) t)
              have q_z399 := (hz399.trans (if_neg hj400_400))
              subst q_z399
              exact k
          refine own_leave X398 Bd.notSynchronized (v := some (.int (nar .boolean z399))) (fun h => by rw [Bd.returns] at h; cases h) (fun fs hr => retN X398 hx (t := .boolean) Bd.returns (by simp) (hb hby at_408) hr) ?_ (by decide) (by decide)
          refine ⟨?_, N398⟩
          rw [hz399, if_pos hav]; rfl
        · exact absurd hct hc388_397
      · refine own_via (T183.setTop (mkF m 210 #[.val (.int p0), .val (.long p1), .second, .val (.int p2), .val (.int p3), .val (.int zn), .val (.int z157), .val (.int z158), .val (.int z160), .val (.int z161), .val (.int z162), .val (.ref b163), .val (.ref b183), .unset, .unset, .unset, .unset, .unset] [])) (fun t k => XS.icmpYes X183.here hx rfl (pc0 := 184) (pc' := 210) rfl (hb hby at_184) rfl (feq hc184_329).2 (by decide) (by decide) k) ?_
        refine own_via (T183.setTop (mkF m 212 #[.val (.int p0), .val (.long p1), .second, .val (.int p2), .val (.int p3), .val (.int zn), .val (.int z157), .val (.int z158), .val (.int z160), .val (.int z161), .val (.int z162), .val (.ref b163), .val (.ref b183), .unset, .unset, .unset, .unset, .unset] [(.ref b183)])) (fun t k => XS.aload X183.here hx rfl (hb hby at_210) rfl rfl k) ?_
        refine own_via (T183.setTop (mkF m 213 #[.val (.int p0), .val (.long p1), .second, .val (.int p2), .val (.int p3), .val (.int zn), .val (.int z157), .val (.int z158), .val (.int z160), .val (.int z161), .val (.int z162), .val (.ref b163), .val (.ref b183), .unset, .unset, .unset, .unset, .unset] [(.int (0 : Int32)), (.ref b183)])) (fun t k => XS.iconst X183.here hx rfl (hb hby at_212) k) ?_
        refine own_via (T183.setTop (mkF m 214 #[.val (.int p0), .val (.long p1), .second, .val (.int p2), .val (.int p3), .val (.int zn), .val (.int z157), .val (.int z158), .val (.int z160), .val (.int z161), .val (.int z162), .val (.ref b163), .val (.ref b183), .unset, .unset, .unset, .unset, .unset] [(.int (2 : Int32)), (.int (0 : Int32)), (.ref b183)])) (fun t k => XS.iconst X183.here hx rfl (hb hby at_213) k) ?_
        obtain ⟨cl402, Ar402, q402, S402, M402, H402, G402⟩ := id V183
        obtain ⟨T401, h401, X401, e401, W401, st401⟩ := stI X183 hx hZ e183 Ar402 (j := (0 : Int32)) (inb_of S402 ⟨by decide, by decide⟩) (g := (mkF m 214 #[.val (.int p0), .val (.long p1), .second, .val (.int p2), .val (.int p3), .val (.int zn), .val (.int z157), .val (.int z158), .val (.int z160), .val (.int z161), .val (.int z162), .val (.ref b163), .val (.ref b183), .unset, .unset, .unset, .unset, .unset] [(.int (2 : Int32)), (.int (0 : Int32)), (.ref b183)])) rfl rfl (hb hby at_214)
        have V401 : Arv Z h401 b183 k183 .int (4 : Int32) [(.int (2 : Int32)), (.int (0 : Int32)), (.int (0 : Int32)), (.int (0 : Int32))] (.int (0 : Int32)) := Arv.set Ar402 q402 S402 M402 H402 G402 rfl W401 0 rfl (Nat.le_of_ble_eq_true rfl)
        have N401 := Fr.snoc X401 N180 gg_b183
        have K403 : Keep h0 h401 [] := K184.wr W401 (Or.inr sz_b183)
        refine own_via (T401.setTop (mkF m 215 #[.val (.int p0), .val (.long p1), .second, .val (.int p2), .val (.int p3), .val (.int zn), .val (.int z157), .val (.int z158), .val (.int z160), .val (.int z161), .val (.int z162), .val (.ref b163), .val (.ref b183), .unset, .unset, .unset, .unset, .unset] [])) (fun t k => st401 t k) ?_
        refine own_via (T401.setTop (mkF m 217 #[.val (.int p0), .val (.long p1), .second, .val (.int p2), .val (.int p3), .val (.int zn), .val (.int z157), .val (.int z158), .val (.int z160), .val (.int z161), .val (.int z162), .val (.ref b163), .val (.ref b183), .unset, .unset, .unset, .unset, .unset] [(.ref b183)])) (fun t k => XS.aload X401.here hx rfl (hb hby at_215) rfl rfl k) ?_
        refine own_via (T401.setTop (mkF m 218 #[.val (.int p0), .val (.long p1), .second, .val (.int p2), .val (.int p3), .val (.int zn), .val (.int z157), .val (.int z158), .val (.int z160), .val (.int z161), .val (.int z162), .val (.ref b163), .val (.ref b183), .unset, .unset, .unset, .unset, .unset] [(.int (1 : Int32)), (.ref b183)])) (fun t k => XS.iconst X401.here hx rfl (hb hby at_217) k) ?_
        refine own_via (T401.setTop (mkF m 219 #[.val (.int p0), .val (.long p1), .second, .val (.int p2), .val (.int p3), .val (.int zn), .val (.int z157), .val (.int z158), .val (.int z160), .val (.int z161), .val (.int z162), .val (.ref b163), .val (.ref b183), .unset, .unset, .unset, .unset, .unset] [(.int (0 : Int32)), (.int (1 : Int32)), (.ref b183)])) (fun t k => XS.iconst X401.here hx rfl (hb hby at_218) k) ?_
        obtain ⟨cl405, Ar405, q405, S405, M405, H405, G405⟩ := id V401
        obtain ⟨T404, h404, X404, e404, W404, st404⟩ := stI X401 hx hZ e401 Ar405 (j := (1 : Int32)) (inb_of S405 ⟨by decide, by decide⟩) (g := (mkF m 219 #[.val (.int p0), .val (.long p1), .second, .val (.int p2), .val (.int p3), .val (.int zn), .val (.int z157), .val (.int z158), .val (.int z160), .val (.int z161), .val (.int z162), .val (.ref b163), .val (.ref b183), .unset, .unset, .unset, .unset, .unset] [(.int (0 : Int32)), (.int (1 : Int32)), (.ref b183)])) rfl rfl (hb hby at_219)
        have V404 : Arv Z h404 b183 k183 .int (4 : Int32) [(.int (2 : Int32)), (.int (0 : Int32)), (.int (0 : Int32)), (.int (0 : Int32))] (.int (0 : Int32)) := Arv.set Ar405 q405 S405 M405 H405 G405 rfl W404 1 rfl (Nat.le_of_ble_eq_true rfl)
        have N404 := Fr.snoc X404 N401 gg_b183
        have K406 : Keep h0 h404 [] := K403.wr W404 (Or.inr sz_b183)
        refine own_via (T404.setTop (mkF m 220 #[.val (.int p0), .val (.long p1), .second, .val (.int p2), .val (.int p3), .val (.int zn), .val (.int z157), .val (.int z158), .val (.int z160), .val (.int z161), .val (.int z162), .val (.ref b163), .val (.ref b183), .unset, .unset, .unset, .unset, .unset] [])) (fun t k => st404 t k) ?_
        refine own_via (T404.setTop (mkF m 222 #[.val (.int p0), .val (.long p1), .second, .val (.int p2), .val (.int p3), .val (.int zn), .val (.int z157), .val (.int z158), .val (.int z160), .val (.int z161), .val (.int z162), .val (.ref b163), .val (.ref b183), .unset, .unset, .unset, .unset, .unset] [(.ref b183)])) (fun t k => XS.aload X404.here hx rfl (hb hby at_220) rfl rfl k) ?_
        refine own_via (T404.setTop (mkF m 223 #[.val (.int p0), .val (.long p1), .second, .val (.int p2), .val (.int p3), .val (.int zn), .val (.int z157), .val (.int z158), .val (.int z160), .val (.int z161), .val (.int z162), .val (.ref b163), .val (.ref b183), .unset, .unset, .unset, .unset, .unset] [(.int (2 : Int32)), (.ref b183)])) (fun t k => XS.iconst X404.here hx rfl (hb hby at_222) k) ?_
        refine own_via (T404.setTop (mkF m 224 #[.val (.int p0), .val (.long p1), .second, .val (.int p2), .val (.int p3), .val (.int zn), .val (.int z157), .val (.int z158), .val (.int z160), .val (.int z161), .val (.int z162), .val (.ref b163), .val (.ref b183), .unset, .unset, .unset, .unset, .unset] [(.int (3 : Int32)), (.int (2 : Int32)), (.ref b183)])) (fun t k => XS.iconst X404.here hx rfl (hb hby at_223) k) ?_
        obtain ⟨cl408, Ar408, q408, S408, M408, H408, G408⟩ := id V404
        obtain ⟨T407, h407, X407, e407, W407, st407⟩ := stI X404 hx hZ e404 Ar408 (j := (2 : Int32)) (inb_of S408 ⟨by decide, by decide⟩) (g := (mkF m 224 #[.val (.int p0), .val (.long p1), .second, .val (.int p2), .val (.int p3), .val (.int zn), .val (.int z157), .val (.int z158), .val (.int z160), .val (.int z161), .val (.int z162), .val (.ref b163), .val (.ref b183), .unset, .unset, .unset, .unset, .unset] [(.int (3 : Int32)), (.int (2 : Int32)), (.ref b183)])) rfl rfl (hb hby at_224)
        have V407 : Arv Z h407 b183 k183 .int (4 : Int32) [(.int (2 : Int32)), (.int (0 : Int32)), (.int (3 : Int32)), (.int (0 : Int32))] (.int (0 : Int32)) := Arv.set Ar408 q408 S408 M408 H408 G408 rfl W407 2 rfl (Nat.le_of_ble_eq_true rfl)
        have N407 := Fr.snoc X407 N404 gg_b183
        have K409 : Keep h0 h407 [] := K406.wr W407 (Or.inr sz_b183)
        refine own_via (T407.setTop (mkF m 225 #[.val (.int p0), .val (.long p1), .second, .val (.int p2), .val (.int p3), .val (.int zn), .val (.int z157), .val (.int z158), .val (.int z160), .val (.int z161), .val (.int z162), .val (.ref b163), .val (.ref b183), .unset, .unset, .unset, .unset, .unset] [])) (fun t k => st407 t k) ?_
        refine own_via (T407.setTop (mkF m 227 #[.val (.int p0), .val (.long p1), .second, .val (.int p2), .val (.int p3), .val (.int zn), .val (.int z157), .val (.int z158), .val (.int z160), .val (.int z161), .val (.int z162), .val (.ref b163), .val (.ref b183), .unset, .unset, .unset, .unset, .unset] [(.ref b183)])) (fun t k => XS.aload X407.here hx rfl (hb hby at_225) rfl rfl k) ?_
        refine own_via (T407.setTop (mkF m 228 #[.val (.int p0), .val (.long p1), .second, .val (.int p2), .val (.int p3), .val (.int zn), .val (.int z157), .val (.int z158), .val (.int z160), .val (.int z161), .val (.int z162), .val (.ref b163), .val (.ref b183), .unset, .unset, .unset, .unset, .unset] [(.int (3 : Int32)), (.ref b183)])) (fun t k => XS.iconst X407.here hx rfl (hb hby at_227) k) ?_
        refine own_via (T407.setTop (mkF m 229 #[.val (.int p0), .val (.long p1), .second, .val (.int p2), .val (.int p3), .val (.int zn), .val (.int z157), .val (.int z158), .val (.int z160), .val (.int z161), .val (.int z162), .val (.ref b163), .val (.ref b183), .unset, .unset, .unset, .unset, .unset] [(.int (1 : Int32)), (.int (3 : Int32)), (.ref b183)])) (fun t k => XS.iconst X407.here hx rfl (hb hby at_228) k) ?_
        obtain ⟨cl411, Ar411, q411, S411, M411, H411, G411⟩ := id V407
        obtain ⟨T410, h410, X410, e410, W410, st410⟩ := stI X407 hx hZ e407 Ar411 (j := (3 : Int32)) (inb_of S411 ⟨by decide, by decide⟩) (g := (mkF m 229 #[.val (.int p0), .val (.long p1), .second, .val (.int p2), .val (.int p3), .val (.int zn), .val (.int z157), .val (.int z158), .val (.int z160), .val (.int z161), .val (.int z162), .val (.ref b163), .val (.ref b183), .unset, .unset, .unset, .unset, .unset] [(.int (1 : Int32)), (.int (3 : Int32)), (.ref b183)])) rfl rfl (hb hby at_229)
        have V410 : Arv Z h410 b183 k183 .int (4 : Int32) [(.int (2 : Int32)), (.int (0 : Int32)), (.int (3 : Int32)), (.int (1 : Int32))] (.int (0 : Int32)) := Arv.set Ar411 q411 S411 M411 H411 G411 rfl W410 3 rfl (Nat.le_of_ble_eq_true rfl)
        have N410 := Fr.snoc X410 N407 gg_b183
        have K412 : Keep h0 h410 [] := K409.wr W410 (Or.inr sz_b183)
        refine own_via (T410.setTop (mkF m 230 #[.val (.int p0), .val (.long p1), .second, .val (.int p2), .val (.int p3), .val (.int zn), .val (.int z157), .val (.int z158), .val (.int z160), .val (.int z161), .val (.int z162), .val (.ref b163), .val (.ref b183), .unset, .unset, .unset, .unset, .unset] [])) (fun t k => st410 t k) ?_
        obtain ⟨T413, h413, X413, e413, E413, A413, D413, -, st413⟩ := newO X410 hx hZ hown (hw _ (List.mem_of_getElem? (i := 4) rfl)) (hw _ (List.mem_of_getElem? (i := 5) rfl)) (hw _ (List.mem_of_getElem? (i := 6) rfl)) e410 (g := (mkF m 230 #[.val (.int p0), .val (.long p1), .second, .val (.int p2), .val (.int p3), .val (.int zn), .val (.int z157), .val (.int z158), .val (.int z160), .val (.int z161), .val (.int z162), .val (.ref b163), .val (.ref b183), .unset, .unset, .unset, .unset, .unset] [])) rfl (hb hby at_230) (by decide) (by decide)
        obtain ⟨b413, g413⟩ : ∃ z, z = h410.size := ⟨_, rfl⟩
        rw [← g413] at A413 D413 st413
        have gg_b413 : n0 ≤ b413 := Nat.le_trans (Nat.le_trans Z0 K412.1) (Nat.le_of_eq g413.symm)
        have sz_b413 : h0.size ≤ b413 := Nat.le_trans K412.1 (Nat.le_of_eq g413.symm)
        have ne_b163_b413 : b163 ≠ b413 := Nat.ne_of_lt (Nat.lt_of_lt_of_le (((((V180.ext E183).other W401 ne_b163_b183).other W404 ne_b163_b183).other W407 ne_b163_b183).other W410 ne_b163_b183).lt (Nat.le_of_eq g413.symm))
        have ne_b183_b413 : b183 ≠ b413 := Nat.ne_of_lt (Nat.lt_of_lt_of_le V410.lt (Nat.le_of_eq g413.symm))
        have F_starts_b413 : Fld Z h413 b413 "com/example/honeyguide/honeyguide/Spans" "starts" "[I" .null := D413 (Or.inl (hw _ (List.mem_of_getElem? (i := 14) rfl))) (ty := (.array .int)) (by decide)
        have F_ends_b413 : Fld Z h413 b413 "com/example/honeyguide/honeyguide/Spans" "ends" "[I" .null := D413 (Or.inl (hw _ (List.mem_of_getElem? (i := 16) rfl))) (ty := (.array .int)) (by decide)
        have F_head_b413 : Fld Z h413 b413 "com/example/honeyguide/honeyguide/Spans" "head" "I" (.int (0 : Int32)) := D413 (Or.inl (hw _ (List.mem_of_getElem? (i := 18) rfl))) (ty := .int) (by decide)
        have F_count_b413 : Fld Z h413 b413 "com/example/honeyguide/honeyguide/Spans" "count" "I" (.int (0 : Int32)) := D413 (Or.inl (hw _ (List.mem_of_getElem? (i := 33) rfl))) (ty := .int) (by decide)
        have K414 : Keep h0 h413 [] := K412.ext E413
        refine own_via (T413.setTop (mkF m 233 #[.val (.int p0), .val (.long p1), .second, .val (.int p2), .val (.int p3), .val (.int zn), .val (.int z157), .val (.int z158), .val (.int z160), .val (.int z161), .val (.int z162), .val (.ref b163), .val (.ref b183), .unset, .unset, .unset, .unset, .unset] [(.ref b413)])) (fun t k => st413 t k) ?_
        refine own_via (T413.setTop (mkF m 234 #[.val (.int p0), .val (.long p1), .second, .val (.int p2), .val (.int p3), .val (.int zn), .val (.int z157), .val (.int z158), .val (.int z160), .val (.int z161), .val (.int z162), .val (.ref b163), .val (.ref b183), .unset, .unset, .unset, .unset, .unset] [(.ref b413), (.ref b413)])) (fun t k => XS.dup X413.here hx rfl (hb hby at_233) rfl rfl k) ?_
        obtain ⟨_, _, ⟨T415, L415, k415, n415⟩, -, X415, ⟨Lc415, hQ415, l415, y415, z415⟩, st415⟩ := X413.specialBack hx (y := (⟨"com/example/honeyguide/honeyguide/Spans", "<init>", "()V"⟩ : MethodName)) rfl hown (mvT hZ (hw _ (List.mem_of_getElem? (i := 7) rfl))) (mvT hZ (hw _ (List.mem_of_getElem? (i := 8) rfl))) (mvT hZ (hw _ (List.mem_of_getElem? (i := 9) rfl))) (by decide) (backOf (W := 1) (rm1 l Z a0 hw [] b413 h413 n0 (Nat.le_trans Z0 K414.1) F_starts_b413 F_ends_b413 F_head_b413 F_count_b413 A413 gg_b413) hZ (hw _ (List.mem_of_getElem? (i := 9) rfl)) (hw _ (List.mem_of_getElem? (i := 6) rfl)) (by decide) (by decide)) (g := (mkF m 234 #[.val (.int p0), .val (.long p1), .second, .val (.int p2), .val (.int p3), .val (.int zn), .val (.int z157), .val (.int z158), .val (.int z160), .val (.int z161), .val (.int z162), .val (.ref b163), .val (.ref b183), .unset, .unset, .unset, .unset, .unset] [(.ref b413), (.ref b413)])) rfl (by rw [hml]; rfl) (Steps.refl _) (a := b413) (argsL := []) (rest := [(.ref b413)]) (lenOf pd_3 rfl) rfl (by show 2 * 0 + _ ≤ _; exact Nat.le_of_eq rfl) (hb hby at_234) (fun _ _ => ⟨rfl, e413, (by decide : 3 + 2 ≤ _), (by decide : 12 + 16 ≤ _)⟩)
        dsimp only [Pt.U, Pt.locs, Pt.cells, Pt.slots] at X415 l415 y415 z415 st415 hQ415
        rw [y415, z415] at X415
        have X415 : Stand _ _ _ _ _ _ _ _ _ _ T415 L415 5 28 := X415
        obtain ⟨h415, e415⟩ : ∃ h, T415.heap = h := ⟨_, rfl⟩
        rw [e415] at hQ415
        obtain ⟨rs_415, re_415, rfl, N415q, K415q, gg_rs_415, gg_re_415, sq_rs_415, sq_re_415, G415_0, G415_1, G415_2, G415_3, G415_4, G415_5, G415_6, nq415_0⟩ := hQ415
        have N415 : Fr n0 L415 := by rw [l415]; exact Fr.app N410 N415q
        have sz_rs_415 : h0.size ≤ rs_415 := Nat.le_trans K414.1 sq_rs_415
        have ne_b163_rs_415 : b163 ≠ rs_415 := Nat.ne_of_lt (Nat.lt_of_lt_of_le ((((((V180.ext E183).other W401 ne_b163_b183).other W404 ne_b163_b183).other W407 ne_b163_b183).other W410 ne_b163_b183).ext E413).lt sq_rs_415)
        have ne_b183_rs_415 : b183 ≠ rs_415 := Nat.ne_of_lt (Nat.lt_of_lt_of_le (V410.ext E413).lt sq_rs_415)
        have ne_b413_rs_415 : b413 ≠ rs_415 := Nat.ne_of_lt (Nat.lt_of_lt_of_le A413.lt sq_rs_415)
        have sz_re_415 : h0.size ≤ re_415 := Nat.le_trans K414.1 sq_re_415
        have ne_b163_re_415 : b163 ≠ re_415 := Nat.ne_of_lt (Nat.lt_of_lt_of_le ((((((V180.ext E183).other W401 ne_b163_b183).other W404 ne_b163_b183).other W407 ne_b163_b183).other W410 ne_b163_b183).ext E413).lt sq_re_415)
        have ne_b183_re_415 : b183 ≠ re_415 := Nat.ne_of_lt (Nat.lt_of_lt_of_le (V410.ext E413).lt sq_re_415)
        have ne_b413_re_415 : b413 ≠ re_415 := Nat.ne_of_lt (Nat.lt_of_lt_of_le A413.lt sq_re_415)
        have K416 : Keep h0 h415 [] := K414.trans K415q (fun x hx => (List.mem_cons.mp hx).elim (fun e => e ▸ Or.inr sz_b413) (fun hx => nomatch hx))
        refine own_via (T415.setTop (mkF m 237 #[.val (.int p0), .val (.long p1), .second, .val (.int p2), .val (.int p3), .val (.int zn), .val (.int z157), .val (.int z158), .val (.int z160), .val (.int z161), .val (.int z162), .val (.ref b163), .val (.ref b183), .unset, .unset, .unset, .unset, .unset] [(.ref b413)])) (fun t k => st415.trans k) ?_
        refine own_via (T415.setTop (mkF m 239 #[.val (.int p0), .val (.long p1), .second, .val (.int p2), .val (.int p3), .val (.int zn), .val (.int z157), .val (.int z158), .val (.int z160), .val (.int z161), .val (.int z162), .val (.ref b163), .val (.ref b183), .val (.ref b413), .unset, .unset, .unset, .unset] [])) (fun t k => XS.astore X415.here hx rfl (hb hby at_237) rfl rfl (l' := #[.val (.int p0), .val (.long p1), .second, .val (.int p2), .val (.int p3), .val (.int zn), .val (.int z157), .val (.int z158), .val (.int z160), .val (.int z161), .val (.int z162), .val (.ref b163), .val (.ref b183), .val (.ref b413), .unset, .unset, .unset, .unset]) rfl k) ?_
        have hI0 : own_Inv (fun _ => (0 : Int32)) (4 : Int32) (0 : Int32) := own_inv0
        refine own_via (T415.setTop (mkF m 241 #[.val (.int p0), .val (.long p1), .second, .val (.int p2), .val (.int p3), .val (.int zn), .val (.int z157), .val (.int z158), .val (.int z160), .val (.int z161), .val (.int z162), .val (.ref b163), .val (.ref b183), .val (.ref b413), .unset, .unset, .unset, .unset] [(.ref b413)])) (fun t k => XS.aload X415.here hx rfl (hb hby at_239) rfl rfl k) ?_
        refine own_via (T415.setTop (mkF m 243 #[.val (.int p0), .val (.long p1), .second, .val (.int p2), .val (.int p3), .val (.int zn), .val (.int z157), .val (.int z158), .val (.int z160), .val (.int z161), .val (.int z162), .val (.ref b163), .val (.ref b183), .val (.ref b413), .unset, .unset, .unset, .unset] [(.ref b163), (.ref b413)])) (fun t k => XS.aload X415.here hx rfl (hb hby at_241) rfl rfl k) ?_
        refine own_via (T415.setTop (mkF m 245 #[.val (.int p0), .val (.long p1), .second, .val (.int p2), .val (.int p3), .val (.int zn), .val (.int z157), .val (.int z158), .val (.int z160), .val (.int z161), .val (.int z162), .val (.ref b163), .val (.ref b183), .val (.ref b413), .unset, .unset, .unset, .unset] [(.ref b183), (.ref b163), (.ref b413)])) (fun t k => XS.aload X415.here hx rfl (hb hby at_243) rfl rfl k) ?_
        refine own_via (T415.setTop (mkF m 246 #[.val (.int p0), .val (.long p1), .second, .val (.int p2), .val (.int p3), .val (.int zn), .val (.int z157), .val (.int z158), .val (.int z160), .val (.int z161), .val (.int z162), .val (.ref b163), .val (.ref b183), .val (.ref b413), .unset, .unset, .unset, .unset] [(.int (0 : Int32)), (.ref b183), (.ref b163), (.ref b413)])) (fun t k => XS.iconst X415.here hx rfl (hb hby at_245) k) ?_
        have F418 := ((V410.ext E413).keep K415q (fun q => ne_b183_b413 (List.mem_singleton.mp q)))
        obtain ⟨cl419, Ar419, q419, S419, M419, H419, G419⟩ := id F418
        refine own_via (T415.setTop (mkF m 247 #[.val (.int p0), .val (.long p1), .second, .val (.int p2), .val (.int p3), .val (.int zn), .val (.int z157), .val (.int z158), .val (.int z160), .val (.int z161), .val (.int z162), .val (.ref b163), .val (.ref b183), .val (.ref b413), .unset, .unset, .unset, .unset] [(.int (2 : Int32)), (.ref b163), (.ref b413)])) (fun t k => X415.iaload hx (j := (0 : Int32)) (v := (.int (2 : Int32))) (by rw [e415]; exact Ar419.1) (State.isArrayOf_alike hZ.alike Ar419.2.1) Ar419.2.2 (inb_of S419 ⟨by decide, by decide⟩) (H419 0 (by rw [S419]; decide)) (g := (mkF m 246 #[.val (.int p0), .val (.long p1), .second, .val (.int p2), .val (.int p3), .val (.int zn), .val (.int z157), .val (.int z158), .val (.int z160), .val (.int z161), .val (.int z162), .val (.ref b163), .val (.ref b183), .val (.ref b413), .unset, .unset, .unset, .unset] [(.int (0 : Int32)), (.ref b183), (.ref b163), (.ref b413)])) rfl rfl (hb hby at_246) _ k) ?_
        refine own_via (T415.setTop (mkF m 249 #[.val (.int p0), .val (.long p1), .second, .val (.int p2), .val (.int p3), .val (.int zn), .val (.int z157), .val (.int z158), .val (.int z160), .val (.int z161), .val (.int z162), .val (.ref b163), .val (.ref b183), .val (.ref b413), .unset, .unset, .unset, .unset] [(.int zn), (.int (2 : Int32)), (.ref b163), (.ref b413)])) (fun t k => XS.iload X415.here hx rfl (hb hby at_247) rfl  k) ?_
        have F421 := (((((((V180.ext E183).other W401 ne_b163_b183).other W404 ne_b163_b183).other W407 ne_b163_b183).other W410 ne_b163_b183).ext E413).keep K415q (fun q => ne_b163_b413 (List.mem_singleton.mp q)))
        obtain ⟨_, _, ⟨T420, L420, k420, n420⟩, -, X420, ⟨Lc420, hQ420, l420, y420, z420⟩, st420⟩ := Jvm.LawKit.callS X415 hx (y := (⟨"com/example/honeyguide/honeyguide/SpansAfterPinLaw", "addIf", "(Lcom/example/honeyguide/honeyguide/Spans;[III)V"⟩ : MethodName)) hown (mvT hZ (hw _ (List.mem_of_getElem? (i := 19) rfl))) (mvT hZ (hw _ (List.mem_of_getElem? (i := 20) rfl))) (mvT hZ (hw _ (List.mem_of_getElem? (i := 21) rfl))) (mvT hZ (hw _ (List.mem_of_getElem? (i := 22) rfl))) (by decide) (backOf (W := 0) (rm3 l Z a0 hw [] b413 b163 (2 : Int32) zn h415 n0 (Nat.le_trans Z0 K416.1) rs_415 (4 : Int32) (0 : Int32) (fun _ => (0 : Int32)) re_415 (fun _ => (0 : Int32)) f180 G415_3 G415_1 G415_2 G415_5 G415_4 G415_6 G415_0 F421 gg_b413 gg_rs_415 gg_re_415 hI0 (by decide) ne_b413_rs_415 ne_b413_re_415 nq415_0 (by decide)) hZ (hw _ (List.mem_of_getElem? (i := 22) rfl)) (hw _ (List.mem_of_getElem? (i := 21) rfl)) (by decide) (by decide)) (g := (mkF m 249 #[.val (.int p0), .val (.long p1), .second, .val (.int p2), .val (.int p3), .val (.int zn), .val (.int z157), .val (.int z158), .val (.int z160), .val (.int z161), .val (.int z162), .val (.ref b163), .val (.ref b183), .val (.ref b413), .unset, .unset, .unset, .unset] [(.int zn), (.int (2 : Int32)), (.ref b163), (.ref b413)])) rfl (by rw [hml]; rfl) (argsL := [(.ref b413), (.ref b163), (.int (2 : Int32)), (.int zn)]) (rest := []) (lenOf pd_4 rfl) rfl (by show 2 * 0 + _ ≤ _; exact Nat.le_of_eq rfl) (hb hby at_249) (fun _ _ => ⟨rfl, e415, (by decide : 5 + 0 ≤ _), (by decide : 28 + 0 ≤ _)⟩)
        dsimp only [Pt.U, Pt.locs, Pt.cells, Pt.slots] at X420 l420 y420 z420 st420 hQ420
        rw [y420, z420] at X420
        have X420 : Stand _ _ _ _ _ _ _ _ _ _ T420 L420 5 28 := X420
        obtain ⟨h420, e420⟩ : ∃ h, T420.heap = h := ⟨_, rfl⟩
        rw [e420] at hQ420
        obtain ⟨rfl, N420q, K420q, G420_0, G420_1, G420_2, G420_3, G420_4, G420_5, G420_6⟩ := hQ420
        have N420 : Fr n0 L420 := by rw [l420]; exact Fr.app N415 N420q
        have mq420 : ∀ x ∈ [b413, rs_415, re_415], x ∈ [] ∨ h0.size ≤ x := by
          intro x hx
          rcases List.mem_cons.mp hx with e | hx
          · rw [e]; exact Or.inr sz_b413
          rcases List.mem_cons.mp hx with e | hx
          · rw [e]; exact Or.inr sz_rs_415
          rw [List.mem_singleton.mp hx]; exact Or.inr sz_re_415
        have K422 : Keep h0 h420 [] := K416.trans K420q mq420
        obtain ⟨z423, hz423⟩ : ∃ z : Int32, z = (own_ih (fun _ => (0 : Int32)) (4 : Int32) (0 : Int32) (2 : Int32) zn (f180 (2 : Int32).toInt.toNat)) := ⟨_, rfl⟩
        rw [← hz423] at G420_1
        obtain ⟨z424, hz424⟩ : ∃ z : Int32, z = (own_ic (0 : Int32) (2 : Int32) zn) := ⟨_, rfl⟩
        rw [← hz424] at G420_2
        obtain ⟨f425, hf425⟩ : ∃ g : Nat → Int32, g = (own_if (fun _ => (0 : Int32)) (fun _ => (0 : Int32)) (4 : Int32) (0 : Int32) (2 : Int32) zn (f180 (2 : Int32).toInt.toNat) (f180 (2 : Int32).toInt.toNat)) := ⟨_, rfl⟩
        rw [← hf425] at G420_5
        obtain ⟨f426, hf426⟩ : ∃ g : Nat → Int32, g = (own_if (fun _ => (0 : Int32)) (fun _ => (0 : Int32)) (4 : Int32) (0 : Int32) (2 : Int32) zn (f180 (2 : Int32).toInt.toNat) ((f180 (2 : Int32).toInt.toNat) + (1 : Int32))) := ⟨_, rfl⟩
        rw [← hf426] at G420_6
        refine own_via (T420.setTop (mkF m 252 #[.val (.int p0), .val (.long p1), .second, .val (.int p2), .val (.int p3), .val (.int zn), .val (.int z157), .val (.int z158), .val (.int z160), .val (.int z161), .val (.int z162), .val (.ref b163), .val (.ref b183), .val (.ref b413), .unset, .unset, .unset, .unset] [])) (fun t k => st420 t k) ?_
        have hs1 := own_step hI0 (by decide) hz423 hz424 hf425
        have hI1 := hs1.1
        have hc1 := hs1.2.1
        have hq1 := hs1.2.2 
        have hcb1 : z424.toInt ≤ 1 := by split at hc1 <;> (have e0 : (0 : Int32).toInt = 0 := rfl; omega)
        refine own_via (T420.setTop (mkF m 254 #[.val (.int p0), .val (.long p1), .second, .val (.int p2), .val (.int p3), .val (.int zn), .val (.int z157), .val (.int z158), .val (.int z160), .val (.int z161), .val (.int z162), .val (.ref b163), .val (.ref b183), .val (.ref b413), .unset, .unset, .unset, .unset] [(.ref b413)])) (fun t k => XS.aload X420.here hx rfl (hb hby at_252) rfl rfl k) ?_
        refine own_via (T420.setTop (mkF m 256 #[.val (.int p0), .val (.long p1), .second, .val (.int p2), .val (.int p3), .val (.int zn), .val (.int z157), .val (.int z158), .val (.int z160), .val (.int z161), .val (.int z162), .val (.ref b163), .val (.ref b183), .val (.ref b413), .unset, .unset, .unset, .unset] [(.ref b163), (.ref b413)])) (fun t k => XS.aload X420.here hx rfl (hb hby at_254) rfl rfl k) ?_
        refine own_via (T420.setTop (mkF m 258 #[.val (.int p0), .val (.long p1), .second, .val (.int p2), .val (.int p3), .val (.int zn), .val (.int z157), .val (.int z158), .val (.int z160), .val (.int z161), .val (.int z162), .val (.ref b163), .val (.ref b183), .val (.ref b413), .unset, .unset, .unset, .unset] [(.ref b183), (.ref b163), (.ref b413)])) (fun t k => XS.aload X420.here hx rfl (hb hby at_256) rfl rfl k) ?_
        refine own_via (T420.setTop (mkF m 259 #[.val (.int p0), .val (.long p1), .second, .val (.int p2), .val (.int p3), .val (.int zn), .val (.int z157), .val (.int z158), .val (.int z160), .val (.int z161), .val (.int z162), .val (.ref b163), .val (.ref b183), .val (.ref b413), .unset, .unset, .unset, .unset] [(.int (1 : Int32)), (.ref b183), (.ref b163), (.ref b413)])) (fun t k => XS.iconst X420.here hx rfl (hb hby at_258) k) ?_
        have F428 := (F418.keep K420q (fun q => (List.mem_cons.mp q).elim ne_b183_b413 (fun q => (List.mem_cons.mp q).elim ne_b183_rs_415 (fun q => (List.mem_cons.mp q).elim ne_b183_re_415 (fun q => nomatch q)))))
        obtain ⟨cl429, Ar429, q429, S429, M429, H429, G429⟩ := id F428
        refine own_via (T420.setTop (mkF m 260 #[.val (.int p0), .val (.long p1), .second, .val (.int p2), .val (.int p3), .val (.int zn), .val (.int z157), .val (.int z158), .val (.int z160), .val (.int z161), .val (.int z162), .val (.ref b163), .val (.ref b183), .val (.ref b413), .unset, .unset, .unset, .unset] [(.int (0 : Int32)), (.ref b163), (.ref b413)])) (fun t k => X420.iaload hx (j := (1 : Int32)) (v := (.int (0 : Int32))) (by rw [e420]; exact Ar429.1) (State.isArrayOf_alike hZ.alike Ar429.2.1) Ar429.2.2 (inb_of S429 ⟨by decide, by decide⟩) (H429 1 (by rw [S429]; decide)) (g := (mkF m 259 #[.val (.int p0), .val (.long p1), .second, .val (.int p2), .val (.int p3), .val (.int zn), .val (.int z157), .val (.int z158), .val (.int z160), .val (.int z161), .val (.int z162), .val (.ref b163), .val (.ref b183), .val (.ref b413), .unset, .unset, .unset, .unset] [(.int (1 : Int32)), (.ref b183), (.ref b163), (.ref b413)])) rfl rfl (hb hby at_259) _ k) ?_
        refine own_via (T420.setTop (mkF m 262 #[.val (.int p0), .val (.long p1), .second, .val (.int p2), .val (.int p3), .val (.int zn), .val (.int z157), .val (.int z158), .val (.int z160), .val (.int z161), .val (.int z162), .val (.ref b163), .val (.ref b183), .val (.ref b413), .unset, .unset, .unset, .unset] [(.int zn), (.int (0 : Int32)), (.ref b163), (.ref b413)])) (fun t k => XS.iload X420.here hx rfl (hb hby at_260) rfl  k) ?_
        have F431 := (F421.keep K420q (fun q => (List.mem_cons.mp q).elim ne_b163_b413 (fun q => (List.mem_cons.mp q).elim ne_b163_rs_415 (fun q => (List.mem_cons.mp q).elim ne_b163_re_415 (fun q => nomatch q)))))
        obtain ⟨_, _, ⟨T430, L430, k430, n430⟩, -, X430, ⟨Lc430, hQ430, l430, y430, z430⟩, st430⟩ := Jvm.LawKit.callS X420 hx (y := (⟨"com/example/honeyguide/honeyguide/SpansAfterPinLaw", "addIf", "(Lcom/example/honeyguide/honeyguide/Spans;[III)V"⟩ : MethodName)) hown (mvT hZ (hw _ (List.mem_of_getElem? (i := 19) rfl))) (mvT hZ (hw _ (List.mem_of_getElem? (i := 20) rfl))) (mvT hZ (hw _ (List.mem_of_getElem? (i := 21) rfl))) (mvT hZ (hw _ (List.mem_of_getElem? (i := 22) rfl))) (by decide) (backOf (W := 0) (rm3 l Z a0 hw [] b413 b163 (0 : Int32) zn h420 n0 (Nat.le_trans Z0 K422.1) rs_415 z423 z424 f425 re_415 f426 f180 G420_3 G420_1 G420_2 G420_5 G420_4 G420_6 G420_0 F431 gg_b413 gg_rs_415 gg_re_415 hI1 (by omega) ne_b413_rs_415 ne_b413_re_415 nq415_0 (by decide)) hZ (hw _ (List.mem_of_getElem? (i := 22) rfl)) (hw _ (List.mem_of_getElem? (i := 21) rfl)) (by decide) (by decide)) (g := (mkF m 262 #[.val (.int p0), .val (.long p1), .second, .val (.int p2), .val (.int p3), .val (.int zn), .val (.int z157), .val (.int z158), .val (.int z160), .val (.int z161), .val (.int z162), .val (.ref b163), .val (.ref b183), .val (.ref b413), .unset, .unset, .unset, .unset] [(.int zn), (.int (0 : Int32)), (.ref b163), (.ref b413)])) rfl (by rw [hml]; rfl) (argsL := [(.ref b413), (.ref b163), (.int (0 : Int32)), (.int zn)]) (rest := []) (lenOf pd_4 rfl) rfl (by show 2 * 0 + _ ≤ _; exact Nat.le_of_eq rfl) (hb hby at_262) (fun _ _ => ⟨rfl, e420, (by decide : 5 + 0 ≤ _), (by decide : 28 + 0 ≤ _)⟩)
        dsimp only [Pt.U, Pt.locs, Pt.cells, Pt.slots] at X430 l430 y430 z430 st430 hQ430
        rw [y430, z430] at X430
        have X430 : Stand _ _ _ _ _ _ _ _ _ _ T430 L430 5 28 := X430
        obtain ⟨h430, e430⟩ : ∃ h, T430.heap = h := ⟨_, rfl⟩
        rw [e430] at hQ430
        obtain ⟨rfl, N430q, K430q, G430_0, G430_1, G430_2, G430_3, G430_4, G430_5, G430_6⟩ := hQ430
        have N430 : Fr n0 L430 := by rw [l430]; exact Fr.app N420 N430q
        have mq430 : ∀ x ∈ [b413, rs_415, re_415], x ∈ [] ∨ h0.size ≤ x := by
          intro x hx
          rcases List.mem_cons.mp hx with e | hx
          · rw [e]; exact Or.inr sz_b413
          rcases List.mem_cons.mp hx with e | hx
          · rw [e]; exact Or.inr sz_rs_415
          rw [List.mem_singleton.mp hx]; exact Or.inr sz_re_415
        have K432 : Keep h0 h430 [] := K422.trans K430q mq430
        obtain ⟨z433, hz433⟩ : ∃ z : Int32, z = (own_ih f425 z423 z424 (0 : Int32) zn (f180 (0 : Int32).toInt.toNat)) := ⟨_, rfl⟩
        rw [← hz433] at G430_1
        obtain ⟨z434, hz434⟩ : ∃ z : Int32, z = (own_ic z424 (0 : Int32) zn) := ⟨_, rfl⟩
        rw [← hz434] at G430_2
        obtain ⟨f435, hf435⟩ : ∃ g : Nat → Int32, g = (own_if f425 f425 z423 z424 (0 : Int32) zn (f180 (0 : Int32).toInt.toNat) (f180 (0 : Int32).toInt.toNat)) := ⟨_, rfl⟩
        rw [← hf435] at G430_5
        obtain ⟨f436, hf436⟩ : ∃ g : Nat → Int32, g = (own_if f426 f425 z423 z424 (0 : Int32) zn (f180 (0 : Int32).toInt.toNat) ((f180 (0 : Int32).toInt.toNat) + (1 : Int32))) := ⟨_, rfl⟩
        rw [← hf436] at G430_6
        refine own_via (T430.setTop (mkF m 265 #[.val (.int p0), .val (.long p1), .second, .val (.int p2), .val (.int p3), .val (.int zn), .val (.int z157), .val (.int z158), .val (.int z160), .val (.int z161), .val (.int z162), .val (.ref b163), .val (.ref b183), .val (.ref b413), .unset, .unset, .unset, .unset] [])) (fun t k => st430 t k) ?_
        have hs2 := own_step hI1 (by omega) hz433 hz434 hf435
        have hI2 := hs2.1
        have hc2 := hs2.2.1
        have hq2 := hs2.2.2 
        have hcb2 : z434.toInt ≤ 2 := by split at hc2 <;> omega
        refine own_via (T430.setTop (mkF m 267 #[.val (.int p0), .val (.long p1), .second, .val (.int p2), .val (.int p3), .val (.int zn), .val (.int z157), .val (.int z158), .val (.int z160), .val (.int z161), .val (.int z162), .val (.ref b163), .val (.ref b183), .val (.ref b413), .unset, .unset, .unset, .unset] [(.ref b413)])) (fun t k => XS.aload X430.here hx rfl (hb hby at_265) rfl rfl k) ?_
        refine own_via (T430.setTop (mkF m 269 #[.val (.int p0), .val (.long p1), .second, .val (.int p2), .val (.int p3), .val (.int zn), .val (.int z157), .val (.int z158), .val (.int z160), .val (.int z161), .val (.int z162), .val (.ref b163), .val (.ref b183), .val (.ref b413), .unset, .unset, .unset, .unset] [(.ref b163), (.ref b413)])) (fun t k => XS.aload X430.here hx rfl (hb hby at_267) rfl rfl k) ?_
        refine own_via (T430.setTop (mkF m 271 #[.val (.int p0), .val (.long p1), .second, .val (.int p2), .val (.int p3), .val (.int zn), .val (.int z157), .val (.int z158), .val (.int z160), .val (.int z161), .val (.int z162), .val (.ref b163), .val (.ref b183), .val (.ref b413), .unset, .unset, .unset, .unset] [(.ref b183), (.ref b163), (.ref b413)])) (fun t k => XS.aload X430.here hx rfl (hb hby at_269) rfl rfl k) ?_
        refine own_via (T430.setTop (mkF m 272 #[.val (.int p0), .val (.long p1), .second, .val (.int p2), .val (.int p3), .val (.int zn), .val (.int z157), .val (.int z158), .val (.int z160), .val (.int z161), .val (.int z162), .val (.ref b163), .val (.ref b183), .val (.ref b413), .unset, .unset, .unset, .unset] [(.int (2 : Int32)), (.ref b183), (.ref b163), (.ref b413)])) (fun t k => XS.iconst X430.here hx rfl (hb hby at_271) k) ?_
        have F438 := (F428.keep K430q (fun q => (List.mem_cons.mp q).elim ne_b183_b413 (fun q => (List.mem_cons.mp q).elim ne_b183_rs_415 (fun q => (List.mem_cons.mp q).elim ne_b183_re_415 (fun q => nomatch q)))))
        obtain ⟨cl439, Ar439, q439, S439, M439, H439, G439⟩ := id F438
        refine own_via (T430.setTop (mkF m 273 #[.val (.int p0), .val (.long p1), .second, .val (.int p2), .val (.int p3), .val (.int zn), .val (.int z157), .val (.int z158), .val (.int z160), .val (.int z161), .val (.int z162), .val (.ref b163), .val (.ref b183), .val (.ref b413), .unset, .unset, .unset, .unset] [(.int (3 : Int32)), (.ref b163), (.ref b413)])) (fun t k => X430.iaload hx (j := (2 : Int32)) (v := (.int (3 : Int32))) (by rw [e430]; exact Ar439.1) (State.isArrayOf_alike hZ.alike Ar439.2.1) Ar439.2.2 (inb_of S439 ⟨by decide, by decide⟩) (H439 2 (by rw [S439]; decide)) (g := (mkF m 272 #[.val (.int p0), .val (.long p1), .second, .val (.int p2), .val (.int p3), .val (.int zn), .val (.int z157), .val (.int z158), .val (.int z160), .val (.int z161), .val (.int z162), .val (.ref b163), .val (.ref b183), .val (.ref b413), .unset, .unset, .unset, .unset] [(.int (2 : Int32)), (.ref b183), (.ref b163), (.ref b413)])) rfl rfl (hb hby at_272) _ k) ?_
        refine own_via (T430.setTop (mkF m 275 #[.val (.int p0), .val (.long p1), .second, .val (.int p2), .val (.int p3), .val (.int zn), .val (.int z157), .val (.int z158), .val (.int z160), .val (.int z161), .val (.int z162), .val (.ref b163), .val (.ref b183), .val (.ref b413), .unset, .unset, .unset, .unset] [(.int zn), (.int (3 : Int32)), (.ref b163), (.ref b413)])) (fun t k => XS.iload X430.here hx rfl (hb hby at_273) rfl  k) ?_
        have F441 := (F431.keep K430q (fun q => (List.mem_cons.mp q).elim ne_b163_b413 (fun q => (List.mem_cons.mp q).elim ne_b163_rs_415 (fun q => (List.mem_cons.mp q).elim ne_b163_re_415 (fun q => nomatch q)))))
        obtain ⟨_, _, ⟨T440, L440, k440, n440⟩, -, X440, ⟨Lc440, hQ440, l440, y440, z440⟩, st440⟩ := Jvm.LawKit.callS X430 hx (y := (⟨"com/example/honeyguide/honeyguide/SpansAfterPinLaw", "addIf", "(Lcom/example/honeyguide/honeyguide/Spans;[III)V"⟩ : MethodName)) hown (mvT hZ (hw _ (List.mem_of_getElem? (i := 19) rfl))) (mvT hZ (hw _ (List.mem_of_getElem? (i := 20) rfl))) (mvT hZ (hw _ (List.mem_of_getElem? (i := 21) rfl))) (mvT hZ (hw _ (List.mem_of_getElem? (i := 22) rfl))) (by decide) (backOf (W := 0) (rm3 l Z a0 hw [] b413 b163 (3 : Int32) zn h430 n0 (Nat.le_trans Z0 K432.1) rs_415 z433 z434 f435 re_415 f436 f180 G430_3 G430_1 G430_2 G430_5 G430_4 G430_6 G430_0 F441 gg_b413 gg_rs_415 gg_re_415 hI2 (by omega) ne_b413_rs_415 ne_b413_re_415 nq415_0 (by decide)) hZ (hw _ (List.mem_of_getElem? (i := 22) rfl)) (hw _ (List.mem_of_getElem? (i := 21) rfl)) (by decide) (by decide)) (g := (mkF m 275 #[.val (.int p0), .val (.long p1), .second, .val (.int p2), .val (.int p3), .val (.int zn), .val (.int z157), .val (.int z158), .val (.int z160), .val (.int z161), .val (.int z162), .val (.ref b163), .val (.ref b183), .val (.ref b413), .unset, .unset, .unset, .unset] [(.int zn), (.int (3 : Int32)), (.ref b163), (.ref b413)])) rfl (by rw [hml]; rfl) (argsL := [(.ref b413), (.ref b163), (.int (3 : Int32)), (.int zn)]) (rest := []) (lenOf pd_4 rfl) rfl (by show 2 * 0 + _ ≤ _; exact Nat.le_of_eq rfl) (hb hby at_275) (fun _ _ => ⟨rfl, e430, (by decide : 5 + 0 ≤ _), (by decide : 28 + 0 ≤ _)⟩)
        dsimp only [Pt.U, Pt.locs, Pt.cells, Pt.slots] at X440 l440 y440 z440 st440 hQ440
        rw [y440, z440] at X440
        have X440 : Stand _ _ _ _ _ _ _ _ _ _ T440 L440 5 28 := X440
        obtain ⟨h440, e440⟩ : ∃ h, T440.heap = h := ⟨_, rfl⟩
        rw [e440] at hQ440
        obtain ⟨rfl, N440q, K440q, G440_0, G440_1, G440_2, G440_3, G440_4, G440_5, G440_6⟩ := hQ440
        have N440 : Fr n0 L440 := by rw [l440]; exact Fr.app N430 N440q
        have mq440 : ∀ x ∈ [b413, rs_415, re_415], x ∈ [] ∨ h0.size ≤ x := by
          intro x hx
          rcases List.mem_cons.mp hx with e | hx
          · rw [e]; exact Or.inr sz_b413
          rcases List.mem_cons.mp hx with e | hx
          · rw [e]; exact Or.inr sz_rs_415
          rw [List.mem_singleton.mp hx]; exact Or.inr sz_re_415
        have K442 : Keep h0 h440 [] := K432.trans K440q mq440
        obtain ⟨z443, hz443⟩ : ∃ z : Int32, z = (own_ih f435 z433 z434 (3 : Int32) zn (f180 (3 : Int32).toInt.toNat)) := ⟨_, rfl⟩
        rw [← hz443] at G440_1
        obtain ⟨z444, hz444⟩ : ∃ z : Int32, z = (own_ic z434 (3 : Int32) zn) := ⟨_, rfl⟩
        rw [← hz444] at G440_2
        obtain ⟨f445, hf445⟩ : ∃ g : Nat → Int32, g = (own_if f435 f435 z433 z434 (3 : Int32) zn (f180 (3 : Int32).toInt.toNat) (f180 (3 : Int32).toInt.toNat)) := ⟨_, rfl⟩
        rw [← hf445] at G440_5
        obtain ⟨f446, hf446⟩ : ∃ g : Nat → Int32, g = (own_if f436 f435 z433 z434 (3 : Int32) zn (f180 (3 : Int32).toInt.toNat) ((f180 (3 : Int32).toInt.toNat) + (1 : Int32))) := ⟨_, rfl⟩
        rw [← hf446] at G440_6
        refine own_via (T440.setTop (mkF m 278 #[.val (.int p0), .val (.long p1), .second, .val (.int p2), .val (.int p3), .val (.int zn), .val (.int z157), .val (.int z158), .val (.int z160), .val (.int z161), .val (.int z162), .val (.ref b163), .val (.ref b183), .val (.ref b413), .unset, .unset, .unset, .unset] [])) (fun t k => st440 t k) ?_
        have hs3 := own_step hI2 (by omega) hz443 hz444 hf445
        have hI3 := hs3.1
        have hc3 := hs3.2.1
        have hq3 := hs3.2.2 
        have hcb3 : z444.toInt ≤ 3 := by split at hc3 <;> omega
        refine own_via (T440.setTop (mkF m 280 #[.val (.int p0), .val (.long p1), .second, .val (.int p2), .val (.int p3), .val (.int zn), .val (.int z157), .val (.int z158), .val (.int z160), .val (.int z161), .val (.int z162), .val (.ref b163), .val (.ref b183), .val (.ref b413), .unset, .unset, .unset, .unset] [(.ref b413)])) (fun t k => XS.aload X440.here hx rfl (hb hby at_278) rfl rfl k) ?_
        refine own_via (T440.setTop (mkF m 282 #[.val (.int p0), .val (.long p1), .second, .val (.int p2), .val (.int p3), .val (.int zn), .val (.int z157), .val (.int z158), .val (.int z160), .val (.int z161), .val (.int z162), .val (.ref b163), .val (.ref b183), .val (.ref b413), .unset, .unset, .unset, .unset] [(.ref b163), (.ref b413)])) (fun t k => XS.aload X440.here hx rfl (hb hby at_280) rfl rfl k) ?_
        refine own_via (T440.setTop (mkF m 284 #[.val (.int p0), .val (.long p1), .second, .val (.int p2), .val (.int p3), .val (.int zn), .val (.int z157), .val (.int z158), .val (.int z160), .val (.int z161), .val (.int z162), .val (.ref b163), .val (.ref b183), .val (.ref b413), .unset, .unset, .unset, .unset] [(.ref b183), (.ref b163), (.ref b413)])) (fun t k => XS.aload X440.here hx rfl (hb hby at_282) rfl rfl k) ?_
        refine own_via (T440.setTop (mkF m 285 #[.val (.int p0), .val (.long p1), .second, .val (.int p2), .val (.int p3), .val (.int zn), .val (.int z157), .val (.int z158), .val (.int z160), .val (.int z161), .val (.int z162), .val (.ref b163), .val (.ref b183), .val (.ref b413), .unset, .unset, .unset, .unset] [(.int (3 : Int32)), (.ref b183), (.ref b163), (.ref b413)])) (fun t k => XS.iconst X440.here hx rfl (hb hby at_284) k) ?_
        have F448 := (F438.keep K440q (fun q => (List.mem_cons.mp q).elim ne_b183_b413 (fun q => (List.mem_cons.mp q).elim ne_b183_rs_415 (fun q => (List.mem_cons.mp q).elim ne_b183_re_415 (fun q => nomatch q)))))
        obtain ⟨cl449, Ar449, q449, S449, M449, H449, G449⟩ := id F448
        refine own_via (T440.setTop (mkF m 286 #[.val (.int p0), .val (.long p1), .second, .val (.int p2), .val (.int p3), .val (.int zn), .val (.int z157), .val (.int z158), .val (.int z160), .val (.int z161), .val (.int z162), .val (.ref b163), .val (.ref b183), .val (.ref b413), .unset, .unset, .unset, .unset] [(.int (1 : Int32)), (.ref b163), (.ref b413)])) (fun t k => X440.iaload hx (j := (3 : Int32)) (v := (.int (1 : Int32))) (by rw [e440]; exact Ar449.1) (State.isArrayOf_alike hZ.alike Ar449.2.1) Ar449.2.2 (inb_of S449 ⟨by decide, by decide⟩) (H449 3 (by rw [S449]; decide)) (g := (mkF m 285 #[.val (.int p0), .val (.long p1), .second, .val (.int p2), .val (.int p3), .val (.int zn), .val (.int z157), .val (.int z158), .val (.int z160), .val (.int z161), .val (.int z162), .val (.ref b163), .val (.ref b183), .val (.ref b413), .unset, .unset, .unset, .unset] [(.int (3 : Int32)), (.ref b183), (.ref b163), (.ref b413)])) rfl rfl (hb hby at_285) _ k) ?_
        refine own_via (T440.setTop (mkF m 288 #[.val (.int p0), .val (.long p1), .second, .val (.int p2), .val (.int p3), .val (.int zn), .val (.int z157), .val (.int z158), .val (.int z160), .val (.int z161), .val (.int z162), .val (.ref b163), .val (.ref b183), .val (.ref b413), .unset, .unset, .unset, .unset] [(.int zn), (.int (1 : Int32)), (.ref b163), (.ref b413)])) (fun t k => XS.iload X440.here hx rfl (hb hby at_286) rfl  k) ?_
        have F451 := (F441.keep K440q (fun q => (List.mem_cons.mp q).elim ne_b163_b413 (fun q => (List.mem_cons.mp q).elim ne_b163_rs_415 (fun q => (List.mem_cons.mp q).elim ne_b163_re_415 (fun q => nomatch q)))))
        obtain ⟨_, _, ⟨T450, L450, k450, n450⟩, -, X450, ⟨Lc450, hQ450, l450, y450, z450⟩, st450⟩ := Jvm.LawKit.callS X440 hx (y := (⟨"com/example/honeyguide/honeyguide/SpansAfterPinLaw", "addIf", "(Lcom/example/honeyguide/honeyguide/Spans;[III)V"⟩ : MethodName)) hown (mvT hZ (hw _ (List.mem_of_getElem? (i := 19) rfl))) (mvT hZ (hw _ (List.mem_of_getElem? (i := 20) rfl))) (mvT hZ (hw _ (List.mem_of_getElem? (i := 21) rfl))) (mvT hZ (hw _ (List.mem_of_getElem? (i := 22) rfl))) (by decide) (backOf (W := 0) (rm3 l Z a0 hw [] b413 b163 (1 : Int32) zn h440 n0 (Nat.le_trans Z0 K442.1) rs_415 z443 z444 f445 re_415 f446 f180 G440_3 G440_1 G440_2 G440_5 G440_4 G440_6 G440_0 F451 gg_b413 gg_rs_415 gg_re_415 hI3 (by omega) ne_b413_rs_415 ne_b413_re_415 nq415_0 (by decide)) hZ (hw _ (List.mem_of_getElem? (i := 22) rfl)) (hw _ (List.mem_of_getElem? (i := 21) rfl)) (by decide) (by decide)) (g := (mkF m 288 #[.val (.int p0), .val (.long p1), .second, .val (.int p2), .val (.int p3), .val (.int zn), .val (.int z157), .val (.int z158), .val (.int z160), .val (.int z161), .val (.int z162), .val (.ref b163), .val (.ref b183), .val (.ref b413), .unset, .unset, .unset, .unset] [(.int zn), (.int (1 : Int32)), (.ref b163), (.ref b413)])) rfl (by rw [hml]; rfl) (argsL := [(.ref b413), (.ref b163), (.int (1 : Int32)), (.int zn)]) (rest := []) (lenOf pd_4 rfl) rfl (by show 2 * 0 + _ ≤ _; exact Nat.le_of_eq rfl) (hb hby at_288) (fun _ _ => ⟨rfl, e440, (by decide : 5 + 0 ≤ _), (by decide : 28 + 0 ≤ _)⟩)
        dsimp only [Pt.U, Pt.locs, Pt.cells, Pt.slots] at X450 l450 y450 z450 st450 hQ450
        rw [y450, z450] at X450
        have X450 : Stand _ _ _ _ _ _ _ _ _ _ T450 L450 5 28 := X450
        obtain ⟨h450, e450⟩ : ∃ h, T450.heap = h := ⟨_, rfl⟩
        rw [e450] at hQ450
        obtain ⟨rfl, N450q, K450q, G450_0, G450_1, G450_2, G450_3, G450_4, G450_5, G450_6⟩ := hQ450
        have N450 : Fr n0 L450 := by rw [l450]; exact Fr.app N440 N450q
        have mq450 : ∀ x ∈ [b413, rs_415, re_415], x ∈ [] ∨ h0.size ≤ x := by
          intro x hx
          rcases List.mem_cons.mp hx with e | hx
          · rw [e]; exact Or.inr sz_b413
          rcases List.mem_cons.mp hx with e | hx
          · rw [e]; exact Or.inr sz_rs_415
          rw [List.mem_singleton.mp hx]; exact Or.inr sz_re_415
        have K452 : Keep h0 h450 [] := K442.trans K450q mq450
        obtain ⟨z453, hz453⟩ : ∃ z : Int32, z = (own_ih f445 z443 z444 (1 : Int32) zn (f180 (1 : Int32).toInt.toNat)) := ⟨_, rfl⟩
        rw [← hz453] at G450_1
        obtain ⟨z454, hz454⟩ : ∃ z : Int32, z = (own_ic z444 (1 : Int32) zn) := ⟨_, rfl⟩
        rw [← hz454] at G450_2
        obtain ⟨f455, hf455⟩ : ∃ g : Nat → Int32, g = (own_if f445 f445 z443 z444 (1 : Int32) zn (f180 (1 : Int32).toInt.toNat) (f180 (1 : Int32).toInt.toNat)) := ⟨_, rfl⟩
        rw [← hf455] at G450_5
        obtain ⟨f456, hf456⟩ : ∃ g : Nat → Int32, g = (own_if f446 f445 z443 z444 (1 : Int32) zn (f180 (1 : Int32).toInt.toNat) ((f180 (1 : Int32).toInt.toNat) + (1 : Int32))) := ⟨_, rfl⟩
        rw [← hf456] at G450_6
        refine own_via (T450.setTop (mkF m 291 #[.val (.int p0), .val (.long p1), .second, .val (.int p2), .val (.int p3), .val (.int zn), .val (.int z157), .val (.int z158), .val (.int z160), .val (.int z161), .val (.int z162), .val (.ref b163), .val (.ref b183), .val (.ref b413), .unset, .unset, .unset, .unset] [])) (fun t k => st450 t k) ?_
        have hs4 := own_step hI3 (by omega) hz453 hz454 hf455
        have hI4 := hs4.1
        have hc4 := hs4.2.1
        have hq4 := hs4.2.2 
        refine own_via (T450.setTop (mkF m 293 #[.val (.int p0), .val (.long p1), .second, .val (.int p2), .val (.int p3), .val (.int zn), .val (.int z157), .val (.int z158), .val (.int z160), .val (.int z161), .val (.int z162), .val (.ref b163), .val (.ref b183), .val (.ref b413), .unset, .unset, .unset, .unset] [(.int z158)])) (fun t k => XS.iload X450.here hx rfl (hb hby at_291) rfl  k) ?_
        refine own_via (T450.setTop (mkF m 294 #[.val (.int p0), .val (.long p1), .second, .val (.int p2), .val (.int p3), .val (.int zn), .val (.int z157), .val (.int z158), .val (.int z160), .val (.int z161), .val (.int z162), .val (.ref b163), .val (.ref b183), .val (.ref b413), .unset, .unset, .unset, .unset] [(.long (z158.toInt64))])) (fun t k => XS.i2l X450.here hx rfl (hb hby at_293) rfl k) ?_
        refine own_via (T450.setTop (mkF m 295 #[.val (.int p0), .val (.long p1), .second, .val (.int p2), .val (.int p3), .val (.int zn), .val (.int z157), .val (.int z158), .val (.int z160), .val (.int z161), .val (.int z162), .val (.ref b163), .val (.ref b183), .val (.ref b413), .unset, .unset, .unset, .unset] [(.int p2), (.long (z158.toInt64))])) (fun t k => XS.iloadN X450.here hx rfl (hb hby at_294) rfl  k) ?_
        refine own_via (T450.setTop (mkF m 297 #[.val (.int p0), .val (.long p1), .second, .val (.int p2), .val (.int p3), .val (.int zn), .val (.int z157), .val (.int z158), .val (.int z160), .val (.int z161), .val (.int z162), .val (.ref b163), .val (.ref b183), .val (.ref b413), .unset, .unset, .unset, .unset] [(.int (65536 : Int32)), (.int p2), (.long (z158.toInt64))])) (fun t k => X450.ldcInt hx hown (mvT hZ (hw _ (List.mem_of_getElem? (i := 23) rfl))) (g := (mkF m 295 #[.val (.int p0), .val (.long p1), .second, .val (.int p2), .val (.int p3), .val (.int zn), .val (.int z157), .val (.int z158), .val (.int z160), .val (.int z161), .val (.int z162), .val (.ref b163), .val (.ref b183), .val (.ref b413), .unset, .unset, .unset, .unset] [(.int p2), (.long (z158.toInt64))])) rfl (hb hby at_295) _ k) ?_
        refine own_via (T450.setTop (mkF m 298 #[.val (.int p0), .val (.long p1), .second, .val (.int p2), .val (.int p3), .val (.int zn), .val (.int z157), .val (.int z158), .val (.int z160), .val (.int z161), .val (.int z162), .val (.ref b163), .val (.ref b183), .val (.ref b413), .unset, .unset, .unset, .unset] [(.int (p2 % (65536 : Int32))), (.long (z158.toInt64))])) (fun t k => Jvm.RoadKit.iremM X450 hx rfl (hb hby at_297) rfl (by decide) k) ?_
        refine own_via (T450.setTop (mkF m 299 #[.val (.int p0), .val (.long p1), .second, .val (.int p2), .val (.int p3), .val (.int zn), .val (.int z157), .val (.int z158), .val (.int z160), .val (.int z161), .val (.int z162), .val (.ref b163), .val (.ref b183), .val (.ref b413), .unset, .unset, .unset, .unset] [(.long ((p2 % (65536 : Int32)).toInt64)), (.long (z158.toInt64))])) (fun t k => XS.i2l X450.here hx rfl (hb hby at_298) rfl k) ?_
        refine own_via (T450.setTop (mkF m 300 #[.val (.int p0), .val (.long p1), .second, .val (.int p2), .val (.int p3), .val (.int zn), .val (.int z157), .val (.int z158), .val (.int z160), .val (.int z161), .val (.int z162), .val (.ref b163), .val (.ref b183), .val (.ref b413), .unset, .unset, .unset, .unset] [(.long ((z158.toInt64) + ((p2 % (65536 : Int32)).toInt64)))])) (fun t k => XS.ladd X450.here hx rfl (hb hby at_299) rfl k) ?_
        obtain ⟨z457, hz457⟩ : ∃ z : Int64, z = ((z158.toInt64) + ((p2 % (65536 : Int32)).toInt64)) := ⟨_, rfl⟩
        refine own_via (T450.setTop (mkF m 302 #[.val (.int p0), .val (.long p1), .second, .val (.int p2), .val (.int p3), .val (.int zn), .val (.int z157), .val (.int z158), .val (.int z160), .val (.int z161), .val (.int z162), .val (.ref b163), .val (.ref b183), .val (.ref b413), .val (.long z457), .second, .unset, .unset] [])) (fun t k => XS.lstore X450.here hx rfl (hb hby at_300) rfl (l' := #[.val (.int p0), .val (.long p1), .second, .val (.int p2), .val (.int p3), .val (.int zn), .val (.int z157), .val (.int z158), .val (.int z160), .val (.int z161), .val (.int z162), .val (.ref b163), .val (.ref b183), .val (.ref b413), .val (.long z457), .second, .unset, .unset]) (by rw [hz457]; rfl) k) ?_
        refine own_via (T450.setTop (mkF m 304 #[.val (.int p0), .val (.long p1), .second, .val (.int p2), .val (.int p3), .val (.int zn), .val (.int z157), .val (.int z158), .val (.int z160), .val (.int z161), .val (.int z162), .val (.ref b163), .val (.ref b183), .val (.ref b413), .val (.long z457), .second, .unset, .unset] [(.int p3)])) (fun t k => XS.iload X450.here hx rfl (hb hby at_302) rfl  k) ?_
        refine own_via (T450.setTop (mkF m 305 #[.val (.int p0), .val (.long p1), .second, .val (.int p2), .val (.int p3), .val (.int zn), .val (.int z157), .val (.int z158), .val (.int z160), .val (.int z161), .val (.int z162), .val (.ref b163), .val (.ref b183), .val (.ref b413), .val (.long z457), .second, .unset, .unset] [(.int (1 : Int32)), (.int p3)])) (fun t k => XS.iconst X450.here hx rfl (hb hby at_304) k) ?_
        refine own_via (T450.setTop (mkF m 306 #[.val (.int p0), .val (.long p1), .second, .val (.int p2), .val (.int p3), .val (.int zn), .val (.int z157), .val (.int z158), .val (.int z160), .val (.int z161), .val (.int z162), .val (.ref b163), .val (.ref b183), .val (.ref b413), .val (.long z457), .second, .unset, .unset] [(.int (p3 &&& (1 : Int32)))])) (fun t k => XS.iand X450.here hx rfl (hb hby at_305) rfl k) ?_
        obtain ⟨z458, hz458⟩ : ∃ z : Int32, z = (if (p3 &&& (1 : Int32)) = (0 : Int32) then p2 else (if z457 < (-2147483648 : Int64) then p2 else (if (2147483647 : Int64) < z457 then p2 else (z457.toInt32)))) := ⟨_, rfl⟩
        refine own_via (T450.setTop (mkF m 334 #[.val (.int p0), .val (.long p1), .second, .val (.int p2), .val (.int p3), .val (.int zn), .val (.int z157), .val (.int z158), .val (.int z160), .val (.int z161), .val (.int z162), .val (.ref b163), .val (.ref b183), .val (.ref b413), .val (.long z457), .second, .unset, .unset] [(.int z458)])) (fun t k => ?_) ?_
        · skip
          by_cases hj306_459 : (p3 &&& (1 : Int32)) = (0 : Int32)
          · refine XS.ifYes X450.here hx rfl (pc0 := 306) (pc' := 327) rfl (hb hby at_306) rfl ((if0 _ _).trans (teq hj306_459).1) (by decide) (by decide) (?_ : Steps p.tables e below (T450.setTop (mkF m 327 #[.val (.int p0), .val (.long p1), .second, .val (.int p2), .val (.int p3), .val (.int zn), .val (.int z157), .val (.int z158), .val (.int z160), .val (.int z161), .val (.int z162), .val (.ref b163), .val (.ref b183), .val (.ref b413), .val (.long z457), .second, .unset, .unset] [])) t)
            refine XS.iloadN X450.here hx rfl (hb hby at_327) rfl  (?_ : Steps p.tables e below (T450.setTop (mkF m 328 #[.val (.int p0), .val (.long p1), .second, .val (.int p2), .val (.int p3), .val (.int zn), .val (.int z157), .val (.int z158), .val (.int z160), .val (.int z161), .val (.int z162), .val (.ref b163), .val (.ref b183), .val (.ref b413), .val (.long z457), .second, .unset, .unset] [(.int p2)])) t)
            refine XS.goto X450.here hx rfl (pc0 := 328) (pc' := 334) rfl (hb hby at_328) (by decide) (by decide) (?_ : Steps p.tables e below (T450.setTop (mkF m 334 #[.val (.int p0), .val (.long p1), .second, .val (.int p2), .val (.int p3), .val (.int zn), .val (.int z157), .val (.int z158), .val (.int z160), .val (.int z161), .val (.int z162), .val (.ref b163), .val (.ref b183), .val (.ref b413), .val (.long z457), .second, .unset, .unset] [(.int p2)])) t)
            have q_z458 := (hz458.trans (if_pos hj306_459))
            subst q_z458
            exact k
          · refine XS.ifNo X450.here hx rfl (hb hby at_306) rfl ((if0 _ _).trans (feq hj306_459).1) (?_ : Steps p.tables e below (T450.setTop (mkF m 309 #[.val (.int p0), .val (.long p1), .second, .val (.int p2), .val (.int p3), .val (.int zn), .val (.int z157), .val (.int z158), .val (.int z160), .val (.int z161), .val (.int z162), .val (.ref b163), .val (.ref b183), .val (.ref b413), .val (.long z457), .second, .unset, .unset] [])) t)
            refine XS.lload X450.here hx rfl (hb hby at_309) rfl  (?_ : Steps p.tables e below (T450.setTop (mkF m 311 #[.val (.int p0), .val (.long p1), .second, .val (.int p2), .val (.int p3), .val (.int zn), .val (.int z157), .val (.int z158), .val (.int z160), .val (.int z161), .val (.int z162), .val (.ref b163), .val (.ref b183), .val (.ref b413), .val (.long z457), .second, .unset, .unset] [(.long z457)])) t)
            refine X450.ldc2Long hx hown (mvT hZ (hw _ (List.mem_of_getElem? (i := 54) rfl))) (g := (mkF m 311 #[.val (.int p0), .val (.long p1), .second, .val (.int p2), .val (.int p3), .val (.int zn), .val (.int z157), .val (.int z158), .val (.int z160), .val (.int z161), .val (.int z162), .val (.ref b163), .val (.ref b183), .val (.ref b413), .val (.long z457), .second, .unset, .unset] [(.long z457)])) rfl (hb hby at_311) _ (?_ : Steps p.tables e below (T450.setTop (mkF m 314 #[.val (.int p0), .val (.long p1), .second, .val (.int p2), .val (.int p3), .val (.int zn), .val (.int z157), .val (.int z158), .val (.int z160), .val (.int z161), .val (.int z162), .val (.ref b163), .val (.ref b183), .val (.ref b413), .val (.long z457), .second, .unset, .unset] [(.long (-2147483648 : Int64)), (.long z457)])) t)
            refine XS.lcmp X450.here hx rfl (hb hby at_314) rfl (?_ : Steps p.tables e below (T450.setTop (mkF m 315 #[.val (.int p0), .val (.long p1), .second, .val (.int p2), .val (.int p3), .val (.int zn), .val (.int z157), .val (.int z158), .val (.int z160), .val (.int z161), .val (.int z162), .val (.ref b163), .val (.ref b183), .val (.ref b413), .val (.long z457), .second, .unset, .unset] [(.int (lcmpW z457 (-2147483648 : Int64)))])) t)
            by_cases hj315_460 : z457 < (-2147483648 : Int64)
            · refine XS.ifYes X450.here hx rfl (pc0 := 315) (pc' := 327) rfl (hb hby at_315) rfl ((if0 _ _).trans (tlt ((lw_lt z457 (-2147483648 : Int64)).mpr hj315_460)).1) (by decide) (by decide) (?_ : Steps p.tables e below (T450.setTop (mkF m 327 #[.val (.int p0), .val (.long p1), .second, .val (.int p2), .val (.int p3), .val (.int zn), .val (.int z157), .val (.int z158), .val (.int z160), .val (.int z161), .val (.int z162), .val (.ref b163), .val (.ref b183), .val (.ref b413), .val (.long z457), .second, .unset, .unset] [])) t)
              refine XS.iloadN X450.here hx rfl (hb hby at_327) rfl  (?_ : Steps p.tables e below (T450.setTop (mkF m 328 #[.val (.int p0), .val (.long p1), .second, .val (.int p2), .val (.int p3), .val (.int zn), .val (.int z157), .val (.int z158), .val (.int z160), .val (.int z161), .val (.int z162), .val (.ref b163), .val (.ref b183), .val (.ref b413), .val (.long z457), .second, .unset, .unset] [(.int p2)])) t)
              refine XS.goto X450.here hx rfl (pc0 := 328) (pc' := 334) rfl (hb hby at_328) (by decide) (by decide) (?_ : Steps p.tables e below (T450.setTop (mkF m 334 #[.val (.int p0), .val (.long p1), .second, .val (.int p2), .val (.int p3), .val (.int zn), .val (.int z157), .val (.int z158), .val (.int z160), .val (.int z161), .val (.int z162), .val (.ref b163), .val (.ref b183), .val (.ref b413), .val (.long z457), .second, .unset, .unset] [(.int p2)])) t)
              have q_z458 := ((hz458.trans (if_neg hj306_459)).trans (if_pos hj315_460))
              subst q_z458
              exact k
            · refine XS.ifNo X450.here hx rfl (hb hby at_315) rfl ((if0 _ _).trans (flt (fun q => hj315_460 ((lw_lt z457 (-2147483648 : Int64)).mp q))).1) (?_ : Steps p.tables e below (T450.setTop (mkF m 318 #[.val (.int p0), .val (.long p1), .second, .val (.int p2), .val (.int p3), .val (.int zn), .val (.int z157), .val (.int z158), .val (.int z160), .val (.int z161), .val (.int z162), .val (.ref b163), .val (.ref b183), .val (.ref b413), .val (.long z457), .second, .unset, .unset] [])) t)
              refine XS.lload X450.here hx rfl (hb hby at_318) rfl  (?_ : Steps p.tables e below (T450.setTop (mkF m 320 #[.val (.int p0), .val (.long p1), .second, .val (.int p2), .val (.int p3), .val (.int zn), .val (.int z157), .val (.int z158), .val (.int z160), .val (.int z161), .val (.int z162), .val (.ref b163), .val (.ref b183), .val (.ref b413), .val (.long z457), .second, .unset, .unset] [(.long z457)])) t)
              refine X450.ldc2Long hx hown (mvT hZ (hw _ (List.mem_of_getElem? (i := 1) rfl))) (g := (mkF m 320 #[.val (.int p0), .val (.long p1), .second, .val (.int p2), .val (.int p3), .val (.int zn), .val (.int z157), .val (.int z158), .val (.int z160), .val (.int z161), .val (.int z162), .val (.ref b163), .val (.ref b183), .val (.ref b413), .val (.long z457), .second, .unset, .unset] [(.long z457)])) rfl (hb hby at_320) _ (?_ : Steps p.tables e below (T450.setTop (mkF m 323 #[.val (.int p0), .val (.long p1), .second, .val (.int p2), .val (.int p3), .val (.int zn), .val (.int z157), .val (.int z158), .val (.int z160), .val (.int z161), .val (.int z162), .val (.ref b163), .val (.ref b183), .val (.ref b413), .val (.long z457), .second, .unset, .unset] [(.long (2147483647 : Int64)), (.long z457)])) t)
              refine XS.lcmp X450.here hx rfl (hb hby at_323) rfl (?_ : Steps p.tables e below (T450.setTop (mkF m 324 #[.val (.int p0), .val (.long p1), .second, .val (.int p2), .val (.int p3), .val (.int zn), .val (.int z157), .val (.int z158), .val (.int z160), .val (.int z161), .val (.int z162), .val (.ref b163), .val (.ref b183), .val (.ref b413), .val (.long z457), .second, .unset, .unset] [(.int (lcmpW z457 (2147483647 : Int64)))])) t)
              by_cases hj324_461 : (2147483647 : Int64) < z457
              · refine XS.ifNo X450.here hx rfl (hb hby at_324) rfl ((if0 _ _).trans (tlt ((lw_gt z457 (2147483647 : Int64)).mpr hj324_461)).2.2.2) (?_ : Steps p.tables e below (T450.setTop (mkF m 327 #[.val (.int p0), .val (.long p1), .second, .val (.int p2), .val (.int p3), .val (.int zn), .val (.int z157), .val (.int z158), .val (.int z160), .val (.int z161), .val (.int z162), .val (.ref b163), .val (.ref b183), .val (.ref b413), .val (.long z457), .second, .unset, .unset] [])) t)
                refine XS.iloadN X450.here hx rfl (hb hby at_327) rfl  (?_ : Steps p.tables e below (T450.setTop (mkF m 328 #[.val (.int p0), .val (.long p1), .second, .val (.int p2), .val (.int p3), .val (.int zn), .val (.int z157), .val (.int z158), .val (.int z160), .val (.int z161), .val (.int z162), .val (.ref b163), .val (.ref b183), .val (.ref b413), .val (.long z457), .second, .unset, .unset] [(.int p2)])) t)
                refine XS.goto X450.here hx rfl (pc0 := 328) (pc' := 334) rfl (hb hby at_328) (by decide) (by decide) (?_ : Steps p.tables e below (T450.setTop (mkF m 334 #[.val (.int p0), .val (.long p1), .second, .val (.int p2), .val (.int p3), .val (.int zn), .val (.int z157), .val (.int z158), .val (.int z160), .val (.int z161), .val (.int z162), .val (.ref b163), .val (.ref b183), .val (.ref b413), .val (.long z457), .second, .unset, .unset] [(.int p2)])) t)
                have q_z458 := (((hz458.trans (if_neg hj306_459)).trans (if_neg hj315_460)).trans (if_pos hj324_461))
                subst q_z458
                exact k
              · refine XS.ifYes X450.here hx rfl (pc0 := 324) (pc' := 331) rfl (hb hby at_324) rfl ((if0 _ _).trans (flt (fun q => hj324_461 ((lw_gt z457 (2147483647 : Int64)).mp q))).2.2.2) (by decide) (by decide) (?_ : Steps p.tables e below (T450.setTop (mkF m 331 #[.val (.int p0), .val (.long p1), .second, .val (.int p2), .val (.int p3), .val (.int zn), .val (.int z157), .val (.int z158), .val (.int z160), .val (.int z161), .val (.int z162), .val (.ref b163), .val (.ref b183), .val (.ref b413), .val (.long z457), .second, .unset, .unset] [])) t)
                refine XS.lload X450.here hx rfl (hb hby at_331) rfl  (?_ : Steps p.tables e below (T450.setTop (mkF m 333 #[.val (.int p0), .val (.long p1), .second, .val (.int p2), .val (.int p3), .val (.int zn), .val (.int z157), .val (.int z158), .val (.int z160), .val (.int z161), .val (.int z162), .val (.ref b163), .val (.ref b183), .val (.ref b413), .val (.long z457), .second, .unset, .unset] [(.long z457)])) t)
                refine XS.l2i X450.here hx rfl (hb hby at_333) rfl (?_ : Steps p.tables e below (T450.setTop (mkF m 334 #[.val (.int p0), .val (.long p1), .second, .val (.int p2), .val (.int p3), .val (.int zn), .val (.int z157), .val (.int z158), .val (.int z160), .val (.int z161), .val (.int z162), .val (.ref b163), .val (.ref b183), .val (.ref b413), .val (.long z457), .second, .unset, .unset] [(.int (z457.toInt32))])) t)
                have q_z458 := (((hz458.trans (if_neg hj306_459)).trans (if_neg hj315_460)).trans (if_neg hj324_461))
                subst q_z458
                exact k
        refine own_via (T450.setTop (mkF m 336 #[.val (.int p0), .val (.long p1), .second, .val (.int p2), .val (.int p3), .val (.int zn), .val (.int z157), .val (.int z158), .val (.int z160), .val (.int z161), .val (.int z162), .val (.ref b163), .val (.ref b183), .val (.ref b413), .val (.long z457), .second, .val (.int z458), .unset] [])) (fun t k => XS.istore X450.here hx rfl (hb hby at_334) rfl (l' := #[.val (.int p0), .val (.long p1), .second, .val (.int p2), .val (.int p3), .val (.int zn), .val (.int z157), .val (.int z158), .val (.int z160), .val (.int z161), .val (.int z162), .val (.ref b163), .val (.ref b183), .val (.ref b413), .val (.long z457), .second, .val (.int z458), .unset]) rfl k) ?_
        refine own_via (T450.setTop (mkF m 338 #[.val (.int p0), .val (.long p1), .second, .val (.int p2), .val (.int p3), .val (.int zn), .val (.int z157), .val (.int z158), .val (.int z160), .val (.int z161), .val (.int z162), .val (.ref b163), .val (.ref b183), .val (.ref b413), .val (.long z457), .second, .val (.int z458), .unset] [(.ref b163)])) (fun t k => XS.aload X450.here hx rfl (hb hby at_336) rfl rfl k) ?_
        refine own_via (T450.setTop (mkF m 339 #[.val (.int p0), .val (.long p1), .second, .val (.int p2), .val (.int p3), .val (.int zn), .val (.int z157), .val (.int z158), .val (.int z160), .val (.int z161), .val (.int z162), .val (.ref b163), .val (.ref b183), .val (.ref b413), .val (.long z457), .second, .val (.int z458), .unset] [(.int (0 : Int32)), (.ref b163)])) (fun t k => XS.iconst X450.here hx rfl (hb hby at_338) k) ?_
        refine own_via (T450.setTop (mkF m 341 #[.val (.int p0), .val (.long p1), .second, .val (.int p2), .val (.int p3), .val (.int zn), .val (.int z157), .val (.int z158), .val (.int z160), .val (.int z161), .val (.int z162), .val (.ref b163), .val (.ref b183), .val (.ref b413), .val (.long z457), .second, .val (.int z458), .unset] [(.int zn), (.int (0 : Int32)), (.ref b163)])) (fun t k => XS.iload X450.here hx rfl (hb hby at_339) rfl  k) ?_
        refine own_via (T450.setTop (mkF m 343 #[.val (.int p0), .val (.long p1), .second, .val (.int p2), .val (.int p3), .val (.int zn), .val (.int z157), .val (.int z158), .val (.int z160), .val (.int z161), .val (.int z162), .val (.ref b163), .val (.ref b183), .val (.ref b413), .val (.long z457), .second, .val (.int z458), .unset] [(.int z458), (.int zn), (.int (0 : Int32)), (.ref b163)])) (fun t k => XS.iload X450.here hx rfl (hb hby at_341) rfl  k) ?_
        have F463 := (F451.keep K450q (fun q => (List.mem_cons.mp q).elim ne_b163_b413 (fun q => (List.mem_cons.mp q).elim ne_b163_rs_415 (fun q => (List.mem_cons.mp q).elim ne_b163_re_415 (fun q => nomatch q)))))
        obtain ⟨_, _, ⟨T462, L462, k462, n462⟩, -, X462, ⟨Lc462, hQ462, l462, y462, z462⟩, st462⟩ := Jvm.LawKit.callS X450 hx (y := (⟨"com/example/honeyguide/honeyguide/SpansAfterPinLaw", "below", "([IIII)I"⟩ : MethodName)) hown (mvT hZ (hw _ (List.mem_of_getElem? (i := 24) rfl))) (mvT hZ (hw _ (List.mem_of_getElem? (i := 25) rfl))) (mvT hZ (hw _ (List.mem_of_getElem? (i := 21) rfl))) (mvT hZ (hw _ (List.mem_of_getElem? (i := 26) rfl))) (by decide) (backOf (W := 0) (rm4 l Z a0 hw [] b163 (0 : Int32) zn z458 h450 n0 (Nat.le_trans Z0 K452.1) f180 F463 (by decide)) hZ (hw _ (List.mem_of_getElem? (i := 26) rfl)) (hw _ (List.mem_of_getElem? (i := 21) rfl)) (by decide) (by decide)) (g := (mkF m 343 #[.val (.int p0), .val (.long p1), .second, .val (.int p2), .val (.int p3), .val (.int zn), .val (.int z157), .val (.int z158), .val (.int z160), .val (.int z161), .val (.int z162), .val (.ref b163), .val (.ref b183), .val (.ref b413), .val (.long z457), .second, .val (.int z458), .unset] [(.int z458), (.int zn), (.int (0 : Int32)), (.ref b163)])) rfl (by rw [hml]; rfl) (argsL := [(.ref b163), (.int (0 : Int32)), (.int zn), (.int z458)]) (rest := []) (lenOf pd_5 rfl) rfl (by show 2 * 0 + _ ≤ _; exact Nat.le_of_eq rfl) (hb hby at_343) (fun _ _ => ⟨rfl, e450, (by decide : 5 + 0 ≤ _), (by decide : 28 + 0 ≤ _)⟩)
        dsimp only [Pt.U, Pt.locs, Pt.cells, Pt.slots] at X462 l462 y462 z462 st462 hQ462
        rw [y462, z462] at X462
        have X462 : Stand _ _ _ _ _ _ _ _ _ _ T462 L462 5 28 := X462
        obtain ⟨rfl, N462q, e462⟩ := hQ462
        have N462 : Fr n0 L462 := by rw [l462]; exact Fr.app N450 N462q
        refine own_via (T462.setTop (mkF m 346 #[.val (.int p0), .val (.long p1), .second, .val (.int p2), .val (.int p3), .val (.int zn), .val (.int z157), .val (.int z158), .val (.int z160), .val (.int z161), .val (.int z162), .val (.ref b163), .val (.ref b183), .val (.ref b413), .val (.long z457), .second, .val (.int z458), .unset] [(.int (own_f4 (0 : Int32) zn z458 f180))])) (fun t k => st462 t k) ?_
        refine own_via (T462.setTop (mkF m 348 #[.val (.int p0), .val (.long p1), .second, .val (.int p2), .val (.int p3), .val (.int zn), .val (.int z157), .val (.int z158), .val (.int z160), .val (.int z161), .val (.int z162), .val (.ref b163), .val (.ref b183), .val (.ref b413), .val (.long z457), .second, .val (.int z458), .unset] [(.ref b163), (.int (own_f4 (0 : Int32) zn z458 f180))])) (fun t k => XS.aload X462.here hx rfl (hb hby at_346) rfl rfl k) ?_
        refine own_via (T462.setTop (mkF m 349 #[.val (.int p0), .val (.long p1), .second, .val (.int p2), .val (.int p3), .val (.int zn), .val (.int z157), .val (.int z158), .val (.int z160), .val (.int z161), .val (.int z162), .val (.ref b163), .val (.ref b183), .val (.ref b413), .val (.long z457), .second, .val (.int z458), .unset] [(.int (1 : Int32)), (.ref b163), (.int (own_f4 (0 : Int32) zn z458 f180))])) (fun t k => XS.iconst X462.here hx rfl (hb hby at_348) k) ?_
        refine own_via (T462.setTop (mkF m 351 #[.val (.int p0), .val (.long p1), .second, .val (.int p2), .val (.int p3), .val (.int zn), .val (.int z157), .val (.int z158), .val (.int z160), .val (.int z161), .val (.int z162), .val (.ref b163), .val (.ref b183), .val (.ref b413), .val (.long z457), .second, .val (.int z458), .unset] [(.int zn), (.int (1 : Int32)), (.ref b163), (.int (own_f4 (0 : Int32) zn z458 f180))])) (fun t k => XS.iload X462.here hx rfl (hb hby at_349) rfl  k) ?_
        refine own_via (T462.setTop (mkF m 353 #[.val (.int p0), .val (.long p1), .second, .val (.int p2), .val (.int p3), .val (.int zn), .val (.int z157), .val (.int z158), .val (.int z160), .val (.int z161), .val (.int z162), .val (.ref b163), .val (.ref b183), .val (.ref b413), .val (.long z457), .second, .val (.int z458), .unset] [(.int z458), (.int zn), (.int (1 : Int32)), (.ref b163), (.int (own_f4 (0 : Int32) zn z458 f180))])) (fun t k => XS.iload X462.here hx rfl (hb hby at_351) rfl  k) ?_
        obtain ⟨_, _, ⟨T464, L464, k464, n464⟩, -, X464, ⟨Lc464, hQ464, l464, y464, z464⟩, st464⟩ := Jvm.LawKit.callS X462 hx (y := (⟨"com/example/honeyguide/honeyguide/SpansAfterPinLaw", "below", "([IIII)I"⟩ : MethodName)) hown (mvT hZ (hw _ (List.mem_of_getElem? (i := 24) rfl))) (mvT hZ (hw _ (List.mem_of_getElem? (i := 25) rfl))) (mvT hZ (hw _ (List.mem_of_getElem? (i := 21) rfl))) (mvT hZ (hw _ (List.mem_of_getElem? (i := 26) rfl))) (by decide) (backOf (W := 1) (rm4 l Z a0 hw [] b163 (1 : Int32) zn z458 h450 n0 (Nat.le_trans Z0 K452.1) f180 F463 (by decide)) hZ (hw _ (List.mem_of_getElem? (i := 26) rfl)) (hw _ (List.mem_of_getElem? (i := 21) rfl)) (by decide) (by decide)) (g := (mkF m 353 #[.val (.int p0), .val (.long p1), .second, .val (.int p2), .val (.int p3), .val (.int zn), .val (.int z157), .val (.int z158), .val (.int z160), .val (.int z161), .val (.int z162), .val (.ref b163), .val (.ref b183), .val (.ref b413), .val (.long z457), .second, .val (.int z458), .unset] [(.int z458), (.int zn), (.int (1 : Int32)), (.ref b163), (.int (own_f4 (0 : Int32) zn z458 f180))])) rfl (by rw [hml]; rfl) (argsL := [(.ref b163), (.int (1 : Int32)), (.int zn), (.int z458)]) (rest := [(.int (own_f4 (0 : Int32) zn z458 f180))]) (lenOf pd_5 rfl) rfl (by show 2 * 0 + _ ≤ _; exact Nat.le_of_eq rfl) (hb hby at_353) (fun _ _ => ⟨rfl, e462, (by decide : 5 + 0 ≤ _), (by decide : 28 + 0 ≤ _)⟩)
        dsimp only [Pt.U, Pt.locs, Pt.cells, Pt.slots] at X464 l464 y464 z464 st464 hQ464
        rw [y464, z464] at X464
        have X464 : Stand _ _ _ _ _ _ _ _ _ _ T464 L464 5 28 := X464
        obtain ⟨rfl, N464q, e464⟩ := hQ464
        have N464 : Fr n0 L464 := by rw [l464]; exact Fr.app N462 N464q
        refine own_via (T464.setTop (mkF m 356 #[.val (.int p0), .val (.long p1), .second, .val (.int p2), .val (.int p3), .val (.int zn), .val (.int z157), .val (.int z158), .val (.int z160), .val (.int z161), .val (.int z162), .val (.ref b163), .val (.ref b183), .val (.ref b413), .val (.long z457), .second, .val (.int z458), .unset] [(.int (own_f4 (1 : Int32) zn z458 f180)), (.int (own_f4 (0 : Int32) zn z458 f180))])) (fun t k => st464 t k) ?_
        refine own_via (T464.setTop (mkF m 357 #[.val (.int p0), .val (.long p1), .second, .val (.int p2), .val (.int p3), .val (.int zn), .val (.int z157), .val (.int z158), .val (.int z160), .val (.int z161), .val (.int z162), .val (.ref b163), .val (.ref b183), .val (.ref b413), .val (.long z457), .second, .val (.int z458), .unset] [(.int ((own_f4 (0 : Int32) zn z458 f180) + (own_f4 (1 : Int32) zn z458 f180)))])) (fun t k => XS.iadd X464.here hx rfl (hb hby at_356) rfl k) ?_
        refine own_via (T464.setTop (mkF m 359 #[.val (.int p0), .val (.long p1), .second, .val (.int p2), .val (.int p3), .val (.int zn), .val (.int z157), .val (.int z158), .val (.int z160), .val (.int z161), .val (.int z162), .val (.ref b163), .val (.ref b183), .val (.ref b413), .val (.long z457), .second, .val (.int z458), .unset] [(.ref b163), (.int ((own_f4 (0 : Int32) zn z458 f180) + (own_f4 (1 : Int32) zn z458 f180)))])) (fun t k => XS.aload X464.here hx rfl (hb hby at_357) rfl rfl k) ?_
        refine own_via (T464.setTop (mkF m 360 #[.val (.int p0), .val (.long p1), .second, .val (.int p2), .val (.int p3), .val (.int zn), .val (.int z157), .val (.int z158), .val (.int z160), .val (.int z161), .val (.int z162), .val (.ref b163), .val (.ref b183), .val (.ref b413), .val (.long z457), .second, .val (.int z458), .unset] [(.int (2 : Int32)), (.ref b163), (.int ((own_f4 (0 : Int32) zn z458 f180) + (own_f4 (1 : Int32) zn z458 f180)))])) (fun t k => XS.iconst X464.here hx rfl (hb hby at_359) k) ?_
        refine own_via (T464.setTop (mkF m 362 #[.val (.int p0), .val (.long p1), .second, .val (.int p2), .val (.int p3), .val (.int zn), .val (.int z157), .val (.int z158), .val (.int z160), .val (.int z161), .val (.int z162), .val (.ref b163), .val (.ref b183), .val (.ref b413), .val (.long z457), .second, .val (.int z458), .unset] [(.int zn), (.int (2 : Int32)), (.ref b163), (.int ((own_f4 (0 : Int32) zn z458 f180) + (own_f4 (1 : Int32) zn z458 f180)))])) (fun t k => XS.iload X464.here hx rfl (hb hby at_360) rfl  k) ?_
        refine own_via (T464.setTop (mkF m 364 #[.val (.int p0), .val (.long p1), .second, .val (.int p2), .val (.int p3), .val (.int zn), .val (.int z157), .val (.int z158), .val (.int z160), .val (.int z161), .val (.int z162), .val (.ref b163), .val (.ref b183), .val (.ref b413), .val (.long z457), .second, .val (.int z458), .unset] [(.int z458), (.int zn), (.int (2 : Int32)), (.ref b163), (.int ((own_f4 (0 : Int32) zn z458 f180) + (own_f4 (1 : Int32) zn z458 f180)))])) (fun t k => XS.iload X464.here hx rfl (hb hby at_362) rfl  k) ?_
        obtain ⟨_, _, ⟨T465, L465, k465, n465⟩, -, X465, ⟨Lc465, hQ465, l465, y465, z465⟩, st465⟩ := Jvm.LawKit.callS X464 hx (y := (⟨"com/example/honeyguide/honeyguide/SpansAfterPinLaw", "below", "([IIII)I"⟩ : MethodName)) hown (mvT hZ (hw _ (List.mem_of_getElem? (i := 24) rfl))) (mvT hZ (hw _ (List.mem_of_getElem? (i := 25) rfl))) (mvT hZ (hw _ (List.mem_of_getElem? (i := 21) rfl))) (mvT hZ (hw _ (List.mem_of_getElem? (i := 26) rfl))) (by decide) (backOf (W := 1) (rm4 l Z a0 hw [] b163 (2 : Int32) zn z458 h450 n0 (Nat.le_trans Z0 K452.1) f180 F463 (by decide)) hZ (hw _ (List.mem_of_getElem? (i := 26) rfl)) (hw _ (List.mem_of_getElem? (i := 21) rfl)) (by decide) (by decide)) (g := (mkF m 364 #[.val (.int p0), .val (.long p1), .second, .val (.int p2), .val (.int p3), .val (.int zn), .val (.int z157), .val (.int z158), .val (.int z160), .val (.int z161), .val (.int z162), .val (.ref b163), .val (.ref b183), .val (.ref b413), .val (.long z457), .second, .val (.int z458), .unset] [(.int z458), (.int zn), (.int (2 : Int32)), (.ref b163), (.int ((own_f4 (0 : Int32) zn z458 f180) + (own_f4 (1 : Int32) zn z458 f180)))])) rfl (by rw [hml]; rfl) (argsL := [(.ref b163), (.int (2 : Int32)), (.int zn), (.int z458)]) (rest := [(.int ((own_f4 (0 : Int32) zn z458 f180) + (own_f4 (1 : Int32) zn z458 f180)))]) (lenOf pd_5 rfl) rfl (by show 2 * 0 + _ ≤ _; exact Nat.le_of_eq rfl) (hb hby at_364) (fun _ _ => ⟨rfl, e464, (by decide : 5 + 0 ≤ _), (by decide : 28 + 0 ≤ _)⟩)
        dsimp only [Pt.U, Pt.locs, Pt.cells, Pt.slots] at X465 l465 y465 z465 st465 hQ465
        rw [y465, z465] at X465
        have X465 : Stand _ _ _ _ _ _ _ _ _ _ T465 L465 5 28 := X465
        obtain ⟨rfl, N465q, e465⟩ := hQ465
        have N465 : Fr n0 L465 := by rw [l465]; exact Fr.app N464 N465q
        refine own_via (T465.setTop (mkF m 367 #[.val (.int p0), .val (.long p1), .second, .val (.int p2), .val (.int p3), .val (.int zn), .val (.int z157), .val (.int z158), .val (.int z160), .val (.int z161), .val (.int z162), .val (.ref b163), .val (.ref b183), .val (.ref b413), .val (.long z457), .second, .val (.int z458), .unset] [(.int (own_f4 (2 : Int32) zn z458 f180)), (.int ((own_f4 (0 : Int32) zn z458 f180) + (own_f4 (1 : Int32) zn z458 f180)))])) (fun t k => st465 t k) ?_
        refine own_via (T465.setTop (mkF m 368 #[.val (.int p0), .val (.long p1), .second, .val (.int p2), .val (.int p3), .val (.int zn), .val (.int z157), .val (.int z158), .val (.int z160), .val (.int z161), .val (.int z162), .val (.ref b163), .val (.ref b183), .val (.ref b413), .val (.long z457), .second, .val (.int z458), .unset] [(.int (((own_f4 (0 : Int32) zn z458 f180) + (own_f4 (1 : Int32) zn z458 f180)) + (own_f4 (2 : Int32) zn z458 f180)))])) (fun t k => XS.iadd X465.here hx rfl (hb hby at_367) rfl k) ?_
        refine own_via (T465.setTop (mkF m 370 #[.val (.int p0), .val (.long p1), .second, .val (.int p2), .val (.int p3), .val (.int zn), .val (.int z157), .val (.int z158), .val (.int z160), .val (.int z161), .val (.int z162), .val (.ref b163), .val (.ref b183), .val (.ref b413), .val (.long z457), .second, .val (.int z458), .unset] [(.ref b163), (.int (((own_f4 (0 : Int32) zn z458 f180) + (own_f4 (1 : Int32) zn z458 f180)) + (own_f4 (2 : Int32) zn z458 f180)))])) (fun t k => XS.aload X465.here hx rfl (hb hby at_368) rfl rfl k) ?_
        refine own_via (T465.setTop (mkF m 371 #[.val (.int p0), .val (.long p1), .second, .val (.int p2), .val (.int p3), .val (.int zn), .val (.int z157), .val (.int z158), .val (.int z160), .val (.int z161), .val (.int z162), .val (.ref b163), .val (.ref b183), .val (.ref b413), .val (.long z457), .second, .val (.int z458), .unset] [(.int (3 : Int32)), (.ref b163), (.int (((own_f4 (0 : Int32) zn z458 f180) + (own_f4 (1 : Int32) zn z458 f180)) + (own_f4 (2 : Int32) zn z458 f180)))])) (fun t k => XS.iconst X465.here hx rfl (hb hby at_370) k) ?_
        refine own_via (T465.setTop (mkF m 373 #[.val (.int p0), .val (.long p1), .second, .val (.int p2), .val (.int p3), .val (.int zn), .val (.int z157), .val (.int z158), .val (.int z160), .val (.int z161), .val (.int z162), .val (.ref b163), .val (.ref b183), .val (.ref b413), .val (.long z457), .second, .val (.int z458), .unset] [(.int zn), (.int (3 : Int32)), (.ref b163), (.int (((own_f4 (0 : Int32) zn z458 f180) + (own_f4 (1 : Int32) zn z458 f180)) + (own_f4 (2 : Int32) zn z458 f180)))])) (fun t k => XS.iload X465.here hx rfl (hb hby at_371) rfl  k) ?_
        refine own_via (T465.setTop (mkF m 375 #[.val (.int p0), .val (.long p1), .second, .val (.int p2), .val (.int p3), .val (.int zn), .val (.int z157), .val (.int z158), .val (.int z160), .val (.int z161), .val (.int z162), .val (.ref b163), .val (.ref b183), .val (.ref b413), .val (.long z457), .second, .val (.int z458), .unset] [(.int z458), (.int zn), (.int (3 : Int32)), (.ref b163), (.int (((own_f4 (0 : Int32) zn z458 f180) + (own_f4 (1 : Int32) zn z458 f180)) + (own_f4 (2 : Int32) zn z458 f180)))])) (fun t k => XS.iload X465.here hx rfl (hb hby at_373) rfl  k) ?_
        obtain ⟨_, _, ⟨T466, L466, k466, n466⟩, -, X466, ⟨Lc466, hQ466, l466, y466, z466⟩, st466⟩ := Jvm.LawKit.callS X465 hx (y := (⟨"com/example/honeyguide/honeyguide/SpansAfterPinLaw", "below", "([IIII)I"⟩ : MethodName)) hown (mvT hZ (hw _ (List.mem_of_getElem? (i := 24) rfl))) (mvT hZ (hw _ (List.mem_of_getElem? (i := 25) rfl))) (mvT hZ (hw _ (List.mem_of_getElem? (i := 21) rfl))) (mvT hZ (hw _ (List.mem_of_getElem? (i := 26) rfl))) (by decide) (backOf (W := 1) (rm4 l Z a0 hw [] b163 (3 : Int32) zn z458 h450 n0 (Nat.le_trans Z0 K452.1) f180 F463 (by decide)) hZ (hw _ (List.mem_of_getElem? (i := 26) rfl)) (hw _ (List.mem_of_getElem? (i := 21) rfl)) (by decide) (by decide)) (g := (mkF m 375 #[.val (.int p0), .val (.long p1), .second, .val (.int p2), .val (.int p3), .val (.int zn), .val (.int z157), .val (.int z158), .val (.int z160), .val (.int z161), .val (.int z162), .val (.ref b163), .val (.ref b183), .val (.ref b413), .val (.long z457), .second, .val (.int z458), .unset] [(.int z458), (.int zn), (.int (3 : Int32)), (.ref b163), (.int (((own_f4 (0 : Int32) zn z458 f180) + (own_f4 (1 : Int32) zn z458 f180)) + (own_f4 (2 : Int32) zn z458 f180)))])) rfl (by rw [hml]; rfl) (argsL := [(.ref b163), (.int (3 : Int32)), (.int zn), (.int z458)]) (rest := [(.int (((own_f4 (0 : Int32) zn z458 f180) + (own_f4 (1 : Int32) zn z458 f180)) + (own_f4 (2 : Int32) zn z458 f180)))]) (lenOf pd_5 rfl) rfl (by show 2 * 0 + _ ≤ _; exact Nat.le_of_eq rfl) (hb hby at_375) (fun _ _ => ⟨rfl, e465, (by decide : 5 + 0 ≤ _), (by decide : 28 + 0 ≤ _)⟩)
        dsimp only [Pt.U, Pt.locs, Pt.cells, Pt.slots] at X466 l466 y466 z466 st466 hQ466
        rw [y466, z466] at X466
        have X466 : Stand _ _ _ _ _ _ _ _ _ _ T466 L466 5 28 := X466
        obtain ⟨rfl, N466q, e466⟩ := hQ466
        have N466 : Fr n0 L466 := by rw [l466]; exact Fr.app N465 N466q
        refine own_via (T466.setTop (mkF m 378 #[.val (.int p0), .val (.long p1), .second, .val (.int p2), .val (.int p3), .val (.int zn), .val (.int z157), .val (.int z158), .val (.int z160), .val (.int z161), .val (.int z162), .val (.ref b163), .val (.ref b183), .val (.ref b413), .val (.long z457), .second, .val (.int z458), .unset] [(.int (own_f4 (3 : Int32) zn z458 f180)), (.int (((own_f4 (0 : Int32) zn z458 f180) + (own_f4 (1 : Int32) zn z458 f180)) + (own_f4 (2 : Int32) zn z458 f180)))])) (fun t k => st466 t k) ?_
        refine own_via (T466.setTop (mkF m 379 #[.val (.int p0), .val (.long p1), .second, .val (.int p2), .val (.int p3), .val (.int zn), .val (.int z157), .val (.int z158), .val (.int z160), .val (.int z161), .val (.int z162), .val (.ref b163), .val (.ref b183), .val (.ref b413), .val (.long z457), .second, .val (.int z458), .unset] [(.int ((((own_f4 (0 : Int32) zn z458 f180) + (own_f4 (1 : Int32) zn z458 f180)) + (own_f4 (2 : Int32) zn z458 f180)) + (own_f4 (3 : Int32) zn z458 f180)))])) (fun t k => XS.iadd X466.here hx rfl (hb hby at_378) rfl k) ?_
        obtain ⟨zr, hzr⟩ : ∃ z : Int32, z = ((((own_f4 (0 : Int32) zn z458 f180) + (own_f4 (1 : Int32) zn z458 f180)) + (own_f4 (2 : Int32) zn z458 f180)) + (own_f4 (3 : Int32) zn z458 f180)) := ⟨_, rfl⟩
        refine own_via (T466.setTop (mkF m 381 #[.val (.int p0), .val (.long p1), .second, .val (.int p2), .val (.int p3), .val (.int zn), .val (.int z157), .val (.int z158), .val (.int z160), .val (.int z161), .val (.int z162), .val (.ref b163), .val (.ref b183), .val (.ref b413), .val (.long z457), .second, .val (.int z458), .val (.int zr)] [])) (fun t k => XS.istore X466.here hx rfl (hb hby at_379) rfl (l' := #[.val (.int p0), .val (.long p1), .second, .val (.int p2), .val (.int p3), .val (.int zn), .val (.int z157), .val (.int z158), .val (.int z160), .val (.int z161), .val (.int z162), .val (.ref b163), .val (.ref b183), .val (.ref b413), .val (.long z457), .second, .val (.int z458), .val (.int zr)]) (by rw [hzr]; rfl) k) ?_
        have hct : own_f5 z454 = zn := own_cntfin (own_nb hzn) (by have e0 : (0 : Int32).toInt = 0 := rfl; omega)
        have hav : own_a f455 z453 z454 z458 = zr := by
          have hb0 : own_cnt (fun _ => (0 : Int32)) (4 : Int32).toInt.toNat (0 : Int32).toInt.toNat z458 = 0 := rfl
          have a1 := hq1 z458; have a2 := hq2 z458; have a3 := hq3 z458; have a4 := hq4 z458
          exact own_afin (sa := f180) (n := zn) (by omega) hzr
        refine own_via (T466.setTop (mkF m 383 #[.val (.int p0), .val (.long p1), .second, .val (.int p2), .val (.int p3), .val (.int zn), .val (.int z157), .val (.int z158), .val (.int z160), .val (.int z161), .val (.int z162), .val (.ref b163), .val (.ref b183), .val (.ref b413), .val (.long z457), .second, .val (.int z458), .val (.int zr)] [(.ref b413)])) (fun t k => XS.aload X466.here hx rfl (hb hby at_381) rfl rfl k) ?_
        obtain ⟨cq467, kq467, q467a, q467b, q467c⟩ := isOf hZ e466 G450_0
        obtain ⟨_, _, ⟨T467, L467, k467, n467⟩, -, X467, ⟨Lc467, hQ467, l467, y467, z467⟩, st467⟩ := X466.virtualBack hx (y := (⟨"com/example/honeyguide/honeyguide/Spans", "count", "()I"⟩ : MethodName)) (z := (⟨"com/example/honeyguide/honeyguide/Spans", "count", "()I"⟩ : MethodName)) hown (mvT hZ (hw _ (List.mem_of_getElem? (i := 27) rfl))) (mvT hZ (hw _ (List.mem_of_getElem? (i := 28) rfl))) (notFace_of_selects (args := #[]) (mvT hZ (hw _ (List.mem_of_getElem? (i := 30) rfl)))) (mvT hZ (hw _ (List.mem_of_getElem? (i := 30) rfl))) (mvT hZ (hw _ (List.mem_of_getElem? (i := 29) rfl))) (by decide) (backOf (W := 0) (rm5 l Z a0 hw [] b413 h450 n0 (Nat.le_trans Z0 K452.1) z454 G450_2) hZ (hw _ (List.mem_of_getElem? (i := 31) rfl)) (hw _ (List.mem_of_getElem? (i := 6) rfl)) (by decide) (by decide)) q467a q467c (g := (mkF m 383 #[.val (.int p0), .val (.long p1), .second, .val (.int p2), .val (.int p3), .val (.int zn), .val (.int z157), .val (.int z158), .val (.int z160), .val (.int z161), .val (.int z162), .val (.ref b163), .val (.ref b183), .val (.ref b413), .val (.long z457), .second, .val (.int z458), .val (.int zr)] [(.ref b413)])) rfl (by rw [hml]; rfl) (Steps.refl _) (argsL := []) (rest := []) (lenOf pd_6 rfl) rfl (by show 2 * 0 + _ ≤ _; exact Nat.le_of_eq rfl) (hb hby at_383) (fun _ _ => ⟨rfl, e466, (by decide : 5 + 0 ≤ _), (by decide : 28 + 0 ≤ _)⟩)
        dsimp only [Pt.U, Pt.locs, Pt.cells, Pt.slots] at X467 l467 y467 z467 st467 hQ467
        rw [y467, z467] at X467
        have X467 : Stand _ _ _ _ _ _ _ _ _ _ T467 L467 5 28 := X467
        obtain ⟨rfl, N467q, e467⟩ := hQ467
        have N467 : Fr n0 L467 := by rw [l467]; exact Fr.app N466 N467q
        refine own_via (T467.setTop (mkF m 386 #[.val (.int p0), .val (.long p1), .second, .val (.int p2), .val (.int p3), .val (.int zn), .val (.int z157), .val (.int z158), .val (.int z160), .val (.int z161), .val (.int z162), .val (.ref b163), .val (.ref b183), .val (.ref b413), .val (.long z457), .second, .val (.int z458), .val (.int zr)] [(.int (own_f5 z454))])) (fun t k => st467.trans k) ?_
        refine own_via (T467.setTop (mkF m 388 #[.val (.int p0), .val (.long p1), .second, .val (.int p2), .val (.int p3), .val (.int zn), .val (.int z157), .val (.int z158), .val (.int z160), .val (.int z161), .val (.int z162), .val (.ref b163), .val (.ref b183), .val (.ref b413), .val (.long z457), .second, .val (.int z458), .val (.int zr)] [(.int zn), (.int (own_f5 z454))])) (fun t k => XS.iload X467.here hx rfl (hb hby at_386) rfl  k) ?_
        by_cases hc388_468 : (own_f5 z454) = zn
        · refine own_via (T467.setTop (mkF m 391 #[.val (.int p0), .val (.long p1), .second, .val (.int p2), .val (.int p3), .val (.int zn), .val (.int z157), .val (.int z158), .val (.int z160), .val (.int z161), .val (.int z162), .val (.ref b163), .val (.ref b183), .val (.ref b413), .val (.long z457), .second, .val (.int z458), .val (.int zr)] [])) (fun t k => XS.icmpNo X467.here hx rfl (hb hby at_388) rfl (teq hc388_468).2 k) ?_
          refine own_via (T467.setTop (mkF m 393 #[.val (.int p0), .val (.long p1), .second, .val (.int p2), .val (.int p3), .val (.int zn), .val (.int z157), .val (.int z158), .val (.int z160), .val (.int z161), .val (.int z162), .val (.ref b163), .val (.ref b183), .val (.ref b413), .val (.long z457), .second, .val (.int z458), .val (.int zr)] [(.ref b413)])) (fun t k => XS.aload X467.here hx rfl (hb hby at_391) rfl rfl k) ?_
          refine own_via (T467.setTop (mkF m 395 #[.val (.int p0), .val (.long p1), .second, .val (.int p2), .val (.int p3), .val (.int zn), .val (.int z157), .val (.int z158), .val (.int z160), .val (.int z161), .val (.int z162), .val (.ref b163), .val (.ref b183), .val (.ref b413), .val (.long z457), .second, .val (.int z458), .val (.int zr)] [(.int z458), (.ref b413)])) (fun t k => XS.iload X467.here hx rfl (hb hby at_393) rfl  k) ?_
          obtain ⟨cq469, kq469, q469a, q469b, q469c⟩ := isOf hZ e467 G450_0
          obtain ⟨_, _, ⟨T469, L469, k469, n469⟩, -, X469, ⟨Lc469, hQ469, l469, y469, z469⟩, st469⟩ := X467.virtualBack hx (y := (⟨"com/example/honeyguide/honeyguide/Spans", "after", "(I)I"⟩ : MethodName)) (z := (⟨"com/example/honeyguide/honeyguide/Spans", "after", "(I)I"⟩ : MethodName)) hown (mvT hZ (hw _ (List.mem_of_getElem? (i := 34) rfl))) (mvT hZ (hw _ (List.mem_of_getElem? (i := 35) rfl))) (notFace_of_selects (args := #[]) (mvT hZ (hw _ (List.mem_of_getElem? (i := 37) rfl)))) (mvT hZ (hw _ (List.mem_of_getElem? (i := 37) rfl))) (mvT hZ (hw _ (List.mem_of_getElem? (i := 36) rfl))) (by decide) (backOf (W := 0) (rm6 l Z a0 hw [] b413 z458 h450 n0 (Nat.le_trans Z0 K452.1) rs_415 z453 z454 f455 G450_3 G450_1 G450_2 G450_5 hI4) hZ (hw _ (List.mem_of_getElem? (i := 38) rfl)) (hw _ (List.mem_of_getElem? (i := 6) rfl)) (by decide) (by decide)) q469a q469c (g := (mkF m 395 #[.val (.int p0), .val (.long p1), .second, .val (.int p2), .val (.int p3), .val (.int zn), .val (.int z157), .val (.int z158), .val (.int z160), .val (.int z161), .val (.int z162), .val (.ref b163), .val (.ref b183), .val (.ref b413), .val (.long z457), .second, .val (.int z458), .val (.int zr)] [(.int z458), (.ref b413)])) rfl (by rw [hml]; rfl) (Steps.refl _) (argsL := [(.int z458)]) (rest := []) (lenOf pd_0 rfl) rfl (by show 2 * 0 + _ ≤ _; exact Nat.le_of_eq rfl) (hb hby at_395) (fun _ _ => ⟨rfl, e467, (by decide : 5 + 0 ≤ _), (by decide : 28 + 0 ≤ _)⟩)
          dsimp only [Pt.U, Pt.locs, Pt.cells, Pt.slots] at X469 l469 y469 z469 st469 hQ469
          rw [y469, z469] at X469
          have X469 : Stand _ _ _ _ _ _ _ _ _ _ T469 L469 5 28 := X469
          obtain ⟨rfl, N469q, e469⟩ := hQ469
          have N469 : Fr n0 L469 := by rw [l469]; exact Fr.app N467 N469q
          refine own_via (T469.setTop (mkF m 398 #[.val (.int p0), .val (.long p1), .second, .val (.int p2), .val (.int p3), .val (.int zn), .val (.int z157), .val (.int z158), .val (.int z160), .val (.int z161), .val (.int z162), .val (.ref b163), .val (.ref b183), .val (.ref b413), .val (.long z457), .second, .val (.int z458), .val (.int zr)] [(.int (own_a f455 z453 z454 z458))])) (fun t k => st469.trans k) ?_
          refine own_via (T469.setTop (mkF m 400 #[.val (.int p0), .val (.long p1), .second, .val (.int p2), .val (.int p3), .val (.int zn), .val (.int z157), .val (.int z158), .val (.int z160), .val (.int z161), .val (.int z162), .val (.ref b163), .val (.ref b183), .val (.ref b413), .val (.long z457), .second, .val (.int z458), .val (.int zr)] [(.int zr), (.int (own_a f455 z453 z454 z458))])) (fun t k => XS.iload X469.here hx rfl (hb hby at_398) rfl  k) ?_
          obtain ⟨z470, hz470⟩ : ∃ z : Int32, z = (if (own_a f455 z453 z454 z458) = zr then (1 : Int32) else (0 : Int32)) := ⟨_, rfl⟩
          refine own_via (T469.setTop (mkF m 408 #[.val (.int p0), .val (.long p1), .second, .val (.int p2), .val (.int p3), .val (.int zn), .val (.int z157), .val (.int z158), .val (.int z160), .val (.int z161), .val (.int z162), .val (.ref b163), .val (.ref b183), .val (.ref b413), .val (.long z457), .second, .val (.int z458), .val (.int zr)] [(.int z470)])) (fun t k => ?_) ?_
          · skip
            by_cases hj400_471 : (own_a f455 z453 z454 z458) = zr
            · refine XS.icmpNo X469.here hx rfl (hb hby at_400) rfl (teq hj400_471).2 (?_ : Steps p.tables e below (T469.setTop (mkF m 403 #[.val (.int p0), .val (.long p1), .second, .val (.int p2), .val (.int p3), .val (.int zn), .val (.int z157), .val (.int z158), .val (.int z160), .val (.int z161), .val (.int z162), .val (.ref b163), .val (.ref b183), .val (.ref b413), .val (.long z457), .second, .val (.int z458), .val (.int zr)] [])) t)
              refine XS.iconst X469.here hx rfl (hb hby at_403) (?_ : Steps p.tables e below (T469.setTop (mkF m 404 #[.val (.int p0), .val (.long p1), .second, .val (.int p2), .val (.int p3), .val (.int zn), .val (.int z157), .val (.int z158), .val (.int z160), .val (.int z161), .val (.int z162), .val (.ref b163), .val (.ref b183), .val (.ref b413), .val (.long z457), .second, .val (.int z458), .val (.int zr)] [(.int (1 : Int32))])) t)
              refine XS.goto X469.here hx rfl (pc0 := 404) (pc' := 408) rfl (hb hby at_404) (by decide) (by decide) (?_ : Steps p.tables e below (T469.setTop (mkF m 408 #[.val (.int p0), .val (.long p1), .second, .val (.int p2), .val (.int p3), .val (.int zn), .val (.int z157), .val (.int z158), .val (.int z160), .val (.int z161), .val (.int z162), .val (.ref b163), .val (.ref b183), .val (.ref b413), .val (.long z457), .second, .val (.int z458), .val (.int zr)] [(.int (1 : Int32))])) t)
              have q_z470 := (hz470.trans (if_pos hj400_471))
              subst q_z470
              exact k
            · refine XS.icmpYes X469.here hx rfl (pc0 := 400) (pc' := 407) rfl (hb hby at_400) rfl (feq hj400_471).2 (by decide) (by decide) (?_ : Steps p.tables e below (T469.setTop (mkF m 407 #[.val (.int p0), .val (.long p1), .second, .val (.int p2), .val (.int p3), .val (.int zn), .val (.int z157), .val (.int z158), .val (.int z160), .val (.int z161), .val (.int z162), .val (.ref b163), .val (.ref b183), .val (.ref b413), .val (.long z457), .second, .val (.int z458), .val (.int zr)] [])) t)
              refine XS.iconst X469.here hx rfl (hb hby at_407) (?_ : Steps p.tables e below (T469.setTop (mkF m 408 #[.val (.int p0), .val (.long p1), .second, .val (.int p2), .val (.int p3), .val (.int zn), .val (.int z157), .val (.int z158), .val (.int z160), .val (.int z161), .val (.int z162), .val (.ref b163), .val (.ref b183), .val (.ref b413), .val (.long z457), .second, .val (.int z458), .val (.int zr)] [(.int (0 : Int32))])) t)
              have q_z470 := (hz470.trans (if_neg hj400_471))
              subst q_z470
              exact k
          refine own_leave X469 Bd.notSynchronized (v := some (.int (nar .boolean z470))) (fun h => by rw [Bd.returns] at h; cases h) (fun fs hr => retN X469 hx (t := .boolean) Bd.returns (by simp) (hb hby at_408) hr) ?_ (by decide) (by decide)
          refine ⟨?_, N469⟩
          rw [hz470, if_pos hav]; rfl
        · exact absurd hct hc388_468
set_option maxRecDepth 65536 in
set_option maxHeartbeats 40000000 in
theorem comes_1 {Post : Tables → Env → Array Value → State → Outcome → State → Prop} (hpost : ∀ tb e args s v u, (limb_1_1.after args s (.returned v) u = true ∧ limb_1_2.after args s (.returned v) u = true ∧ True) → FrameEnd s (.returned v) u (Jvm.fieldLocs frame_1_writes args s ++ Jvm.arrayLocs frame_1_arrays args s ++ Jvm.staticLocs frame_1_statics s) 24 128 → Post tb e args s (.returned v) u) :
    ArmFor flags0 classFile x code maxLocals ret World_1 tables_1 room_1 Calls_1 rest_1 Pre_1 Post := by
  intro l hfl _ _ p e ha hc hk s m args below hf hA hF happ hP
  obtain ⟨hcalls, hrest, hpre⟩ := hP
  obtain ⟨-, -, -, hnamed, -, -, -, hat⟩ := (Spec.applies_iff hf).mp happ
  obtain ⟨hg, hn⟩ := and_e (Cond.before_iff.mp (show (Jvm.Cond.and given_1 narrow_1).before args s = true from hpre))
  obtain ⟨g0, g⟩ := and_e hg
  obtain ⟨ga0, g⟩ := and_e g
  obtain ⟨ga1, g⟩ := and_e g
  obtain ⟨ga2, g⟩ := and_e g
  have ga3 := g
  obtain ⟨w0, w1, w2, w3, rfl⟩ : ∃ w0 w1 w2 w3 : Value, args = #[w0, w1, w2, w3] := by
    have hs : args.size = 4 := by simpa [Cond.value, given_1] using g0
    obtain ⟨L⟩ := args
    match L, hs with
    | [w0, w1, w2, w3], _ => exact ⟨w0, w1, w2, w3, rfl⟩
  have hw := fun d (hd : d ∈ tables_1) => atoms_spec (ws := Jvm.Cond.code x code maxLocals ret :: tables_1) hat d (List.mem_cons_of_mem _ hd)
  have hfit : Fit s := fun {y c} hc i hi => by
    obtain ⟨ha, rfl⟩ := Array.getElem?_eq_some_iff.mp hc
    have q := List.all_eq_true.mp ((Array.all_eq_true_iff_forall_mem.mp hF) _ (Array.getElem_mem ha)) i (List.mem_range.mpr hi)
    simpa [Array.getElem?_eq_getElem hi] using q
  obtain ⟨i0, ei0⟩ := is_v ga0
  obtain rfl : w0 = (.int i0) := Option.some.inj ei0
  obtain ⟨i1, ei1⟩ := isL_v ga1
  obtain rfl : w1 = (.long i1) := Option.some.inj ei1
  obtain ⟨i2, ei2⟩ := is_v ga2
  obtain rfl : w2 = (.int i2) := Option.some.inj ei2
  obtain ⟨i3, ei3⟩ := is_v ga3
  obtain rfl : w3 = (.int i3) := Option.some.inj ei3
  obtain ⟨n, o, h1, h2, h3, _, L, rfl, ⟨rfl, N⟩, hq⟩ := rm0 l s _ hw tables_1 i0 i1 i2 i3 s.heap s.heap.size (Nat.le_refl _)  p e ha hc hk s m _ below hf ((Spec.applies_iff_loose hf).mp happ).1 ⟨rfl, State.Warmed39.refl s, rfl⟩ trivial
  refine ⟨n, _, h1, h2, h3, hpost _ _ _ _ _ _ ⟨Cond.after_iff.mpr rfl, Cond.after_iff.mpr (eq_i res_at (Term.int_eval (1)) rfl), trivial⟩ ⟨hq.1, hq.2.1, (hq.2.2.sift fun y hy => Or.inr (N y hy)).mono (by decide) (by decide)⟩⟩
theorem main_1_1 : Claimed_1_1 := comes_1 fun _ _ _ _ _ _ h hF => ⟨h.1, hF⟩
theorem main_1_2 : Claimed_1_2 := comes_1 fun _ _ _ _ _ _ h hF => ⟨h.2.1, hF⟩
end Jvm.Pilot.@@N@@
namespace Jvm.Pilot.@@N@@
open Jvm Jvm.ClassFile Sem Op Lib Jvm.Free Jvm.Stand Jvm.Pilot.@@N@@.Jvm.D
/-! MADE BY PROGRAM (witnessworld.py) out of the Statement's table words and the real class files: 10 classes; the members and pool entries that the words name. The judged class is class 1, her method 1. -/
namespace start1
open Jvm.ClassFile
def u (s : String) : CpInfo := .utf8 (stringToUtf16 s)
/-- a pool by its gaps: so many unusable entries, then the entry; so many at the end -/
def gap : Nat → List CpInfo → List CpInfo
  | 0, r => r
  | n + 1, r => .unusable :: gap n r
def poolList (es : List (Nat × CpInfo)) (last : Nat) : List CpInfo := es.foldr (fun e r => gap e.1 (e.2 :: r)) (gap last [])
def pool (es : List (Nat × CpInfo)) (last : Nat) : Array CpInfo := ⟨poolList es last⟩
def fileOf (pool : Array CpInfo) (this : Nat) (attrs : Array Attribute := #[]) (ms : Array MethodInfo := #[]) (fl : Nat := 33) (sup : Nat := 0) (ifs : Array Nat := #[]) (fds : Array FieldInfo := #[]) : ClassFile where
  minorVersion := 0
  majorVersion := 65
  constantPool := pool
  accessFlags := fl
  thisClass := this
  superClass := sup
  interfaces := ifs
  fields := fds
  methods := ms
  attributes := attrs
def plain (name : String) (sup : Option ClassId) : Class where
  name := name
  kind := .ordinary
  loader := none
  accessFlags := 33
  super := sup
  interfaces := #[]
  cf := none
  fields := #[]
  methods := #[]
  instanceTypes := #[]
  staticTypes := #[]
  resolved := #[]
  callSites := []
  init := .initialized
  statics := none
  mirror := none

def pool0 : Array CpInfo := pool [(5, u "<init>"), (0, u "()V"), (1, .class_ 10), (1, u "java/lang/Object")] 113

def k0c0 : Code := { maxStack := 0, maxLocals := 1, code := object_method_1_code, exceptionTable := #[], attributes := #[] }
def k0m0 : Method := { name := "<init>", desc := "()V", sig := { parameters := [], returnType := none }, accessFlags := 1, code := some k0c0 }
/-- java/lang/Object -/
def k0 : Class := { plain "java/lang/Object" none with
  accessFlags := 33
  interfaces := #[]
  cf := some (fileOf pool0 8 #[] #[{ accessFlags := 1, nameIndex := 5, descriptorIndex := 6, attributes := #[] }] 33 0 #[] #[])
  fields := #[]
  methods := #[k0m0]
  instanceTypes := #[]
  staticTypes := #[]
  resolved := Array.replicate 124 none
  statics := none }

def pool1 : Array CpInfo := pool [(2, .class_ 4), (0, .nameAndType 5 6), (0, u "java/lang/Object"), (0, u "<init>"), (0, u "()V"), (0, .long 65536), (3, .long 2147483647), (1, .integer 65536), (0, .long 16383), (1, .class_ 17), (0, u "com/example/honeyguide/honeyguide/Spans"), (0, .methodref 16 3), (0, .methodref 20 21), (0, .class_ 22), (0, .nameAndType 23 24), (0, u "com/example/honeyguide/honeyguide/SpansAfterPinLaw"), (0, u "addIf"), (0, u "(Lcom/example/honeyguide/honeyguide/Spans;[III)V"), (0, .long 18446744071562067968), (1, .methodref 20 28), (0, .nameAndType 29 30), (0, u "below"), (0, u "([IIII)I"), (0, .methodref 16 32), (0, .nameAndType 33 34), (0, u "count"), (0, u "()I"), (0, .methodref 16 36), (0, .nameAndType 37 38), (0, u "after"), (0, u "(I)I"), (0, .methodref 16 40), (0, .nameAndType 41 42), (0, u "add"), (0, u "(II)V"), (2, u "law"), (0, u "(IJII)Z")] 5

def k1m0 : Method := { name := "<init>", desc := "()V", sig := { parameters := [], returnType := none }, accessFlags := 1, code := none }
def k1c1 : Code := { maxStack := 5, maxLocals := 18, code := code, exceptionTable := #[], attributes := #[] }
def k1m1 : Method := { name := "law", desc := "(IJII)Z", sig := { parameters := [.int, .long, .int, .int], returnType := some .boolean }, accessFlags := 9, code := some k1c1 }
def k1c2 : Code := { maxStack := 4, maxLocals := 4, code := method_3_code, exceptionTable := #[], attributes := #[] }
def k1m2 : Method := { name := "addIf", desc := "(Lcom/example/honeyguide/honeyguide/Spans;[III)V", sig := { parameters := [(.object "com/example/honeyguide/honeyguide/Spans"), (.array .int), .int, .int], returnType := none }, accessFlags := 10, code := some k1c2 }
def k1c3 : Code := { maxStack := 2, maxLocals := 4, code := method_4_code, exceptionTable := #[], attributes := #[] }
def k1m3 : Method := { name := "below", desc := "([IIII)I", sig := { parameters := [(.array .int), .int, .int, .int], returnType := some .int }, accessFlags := 10, code := some k1c3 }
/-- com/example/honeyguide/honeyguide/SpansAfterPinLaw -/
def k1 : Class := { plain "com/example/honeyguide/honeyguide/SpansAfterPinLaw" (some 0) with
  accessFlags := 49
  interfaces := #[]
  cf := some (fileOf pool1 20 #[] #[{ accessFlags := 1, nameIndex := 5, descriptorIndex := 6, attributes := #[] }, { accessFlags := 9, nameIndex := 45, descriptorIndex := 46, attributes := #[] }, { accessFlags := 10, nameIndex := 23, descriptorIndex := 24, attributes := #[] }, { accessFlags := 10, nameIndex := 29, descriptorIndex := 30, attributes := #[] }] 49 2 #[] #[])
  fields := #[]
  methods := #[k1m0, k1m1, k1m2, k1m3]
  instanceTypes := #[]
  staticTypes := #[]
  resolved := Array.replicate 52 none
  statics := none }

def pool2 : Array CpInfo := pool [(1, .methodref 2 3), (0, .class_ 4), (0, .nameAndType 5 6), (0, u "java/lang/Object"), (0, u "<init>"), (0, u "()V"), (0, .fieldref 8 9), (0, .class_ 10), (0, .nameAndType 11 12), (0, u "com/example/honeyguide/honeyguide/Spans"), (0, u "starts"), (0, u "[I"), (0, .fieldref 8 14), (0, .nameAndType 15 12), (0, u "ends"), (0, .fieldref 8 17), (0, .nameAndType 18 19), (0, u "head"), (0, u "I"), (0, .fieldref 8 21), (0, .nameAndType 22 19), (0, u "count"), (0, .methodref 8 24), (0, .nameAndType 25 26), (0, u "after"), (0, u "(I)I"), (0, .methodref 8 28), (0, .nameAndType 29 30), (0, u "replace"), (0, u "(IIII)V"), (3, .methodref 35 36), (0, .class_ 37), (0, .nameAndType 38 39), (0, u "java/lang/System"), (0, u "arraycopy"), (0, u "(Ljava/lang/Object;ILjava/lang/Object;II)V"), (2, u "()I"), (7, u "add"), (0, u "(II)V")] 2

def k2c0 : Code := { maxStack := 2, maxLocals := 1, code := prog_161_method_1_code, exceptionTable := #[], attributes := #[] }
def k2m0 : Method := { name := "<init>", desc := "()V", sig := { parameters := [], returnType := none }, accessFlags := 0, code := some k2c0 }
def k2c1 : Code := { maxStack := 1, maxLocals := 1, code := prog_161_method_2_code, exceptionTable := #[], attributes := #[] }
def k2m1 : Method := { name := "count", desc := "()I", sig := { parameters := [], returnType := some .int }, accessFlags := 0, code := some k2c1 }
def k2c2 : Code := { maxStack := 3, maxLocals := 5, code := prog_161_method_5_code, exceptionTable := #[], attributes := #[] }
def k2m2 : Method := { name := "after", desc := "(I)I", sig := { parameters := [.int], returnType := some .int }, accessFlags := 0, code := some k2c2 }
def k2c3 : Code := { maxStack := 5, maxLocals := 4, code := prog_161_method_8_code, exceptionTable := #[], attributes := #[] }
def k2m3 : Method := { name := "add", desc := "(II)V", sig := { parameters := [.int, .int], returnType := none }, accessFlags := 0, code := some k2c3 }
def k2c4 : Code := { maxStack := 5, maxLocals := 8, code := prog_161_method_9_code, exceptionTable := #[], attributes := #[] }
def k2m4 : Method := { name := "replace", desc := "(IIII)V", sig := { parameters := [.int, .int, .int, .int], returnType := none }, accessFlags := 0, code := some k2c4 }
/-- com/example/honeyguide/honeyguide/Spans -/
def k2 : Class := { plain "com/example/honeyguide/honeyguide/Spans" (some 0) with
  accessFlags := 48
  interfaces := #[]
  cf := some (fileOf pool2 8 #[] #[{ accessFlags := 0, nameIndex := 5, descriptorIndex := 6, attributes := #[] }, { accessFlags := 0, nameIndex := 22, descriptorIndex := 42, attributes := #[] }, { accessFlags := 0, nameIndex := 25, descriptorIndex := 26, attributes := #[] }, { accessFlags := 0, nameIndex := 50, descriptorIndex := 51, attributes := #[] }, { accessFlags := 0, nameIndex := 29, descriptorIndex := 30, attributes := #[] }] 48 2 #[] #[{ accessFlags := 2, nameIndex := 11, descriptorIndex := 12, attributes := #[] }, { accessFlags := 2, nameIndex := 15, descriptorIndex := 12, attributes := #[] }, { accessFlags := 2, nameIndex := 18, descriptorIndex := 19, attributes := #[] }, { accessFlags := 2, nameIndex := 22, descriptorIndex := 19, attributes := #[] }])
  fields := #[{ name := "starts", type := (.array .int), accessFlags := 2, slot := 0, constantValue := 0 }, { name := "ends", type := (.array .int), accessFlags := 2, slot := 1, constantValue := 0 }, { name := "head", type := .int, accessFlags := 2, slot := 2, constantValue := 0 }, { name := "count", type := .int, accessFlags := 2, slot := 3, constantValue := 0 }]
  methods := #[k2m0, k2m1, k2m2, k2m3, k2m4]
  instanceTypes := #[(.array .int), (.array .int), .int, .int]
  staticTypes := #[]
  resolved := Array.replicate 54 none
  statics := none }

def pool3 : Array CpInfo := pool [(2, .class_ 4), (1, u "java/lang/Object"), (0, u "<init>"), (0, u "()V"), (1, .class_ 10), (1, u "java/lang/System"), (0, u "allowSecurityManager"), (0, u "I"), (16, u "cons"), (0, u "Ljava/io/Console;"), (77, .class_ 110), (1, u "java/lang/System$CallersHolder"), (43, u "initialErrStream"), (0, u "Ljava/io/PrintStream;"), (19, u "security"), (0, u "Ljava/lang/SecurityManager;"), (31, .class_ 209), (0, u "java/lang/System$1"), (7, u "props"), (0, u "Ljava/util/Properties;"), (2, u "lineSeparator"), (0, u "Ljava/lang/String;"), (96, .class_ 321), (1, u "java/lang/System$LoggerFinder"), (5, .class_ 328), (0, u "java/lang/System$Logger"), (67, u "err"), (2, u "out"), (91, u "notSupportedJnuEncoding"), (15, u "in"), (17, u "initialIn"), (0, u "Ljava/io/InputStream;"), (35, u "bootLayer"), (0, u "Ljava/lang/ModuleLayer;"), (99, .class_ 664), (0, u "java/lang/System$2"), (9, u "NEVER"), (2, u "MAYBE"), (49, u "arraycopy"), (0, u "(Ljava/lang/Object;ILjava/lang/Object;II)V"), (72, .class_ 802), (0, u "java/lang/System$Logger$Level")] 31

def k3m0 : Method := { name := "<init>", desc := "()V", sig := { parameters := [], returnType := none }, accessFlags := 2, code := none }
def k3m1 : Method := { name := "arraycopy", desc := "(Ljava/lang/Object;ILjava/lang/Object;II)V", sig := { parameters := [(.object "java/lang/Object"), .int, (.object "java/lang/Object"), .int, .int], returnType := none }, accessFlags := 265, code := none }
/-- java/lang/System -/
def k3 : Class := { plain "java/lang/System" (some 0) with
  accessFlags := 49
  interfaces := #[]
  cf := some (fileOf pool3 8 #[.nestMembers #[319, 327, 801, 108, 663, 208]] #[{ accessFlags := 2, nameIndex := 5, descriptorIndex := 6, attributes := #[] }, { accessFlags := 265, nameIndex := 727, descriptorIndex := 728, attributes := #[] }] 49 2 #[] #[{ accessFlags := 25, nameIndex := 507, descriptorIndex := 526, attributes := #[] }, { accessFlags := 25, nameIndex := 399, descriptorIndex := 155, attributes := #[] }, { accessFlags := 25, nameIndex := 396, descriptorIndex := 155, attributes := #[] }, { accessFlags := 10, nameIndex := 525, descriptorIndex := 526, attributes := #[] }, { accessFlags := 26, nameIndex := 674, descriptorIndex := 12, attributes := #[] }, { accessFlags := 26, nameIndex := 677, descriptorIndex := 12, attributes := #[] }, { accessFlags := 10, nameIndex := 11, descriptorIndex := 12, attributes := #[] }, { accessFlags := 74, nameIndex := 175, descriptorIndex := 176, attributes := #[] }, { accessFlags := 10, nameIndex := 491, descriptorIndex := 222, attributes := #[] }, { accessFlags := 74, nameIndex := 29, descriptorIndex := 30, attributes := #[] }, { accessFlags := 74, nameIndex := 154, descriptorIndex := 155, attributes := #[] }, { accessFlags := 10, nameIndex := 217, descriptorIndex := 218, attributes := #[] }, { accessFlags := 10, nameIndex := 221, descriptorIndex := 222, attributes := #[] }, { accessFlags := 8, nameIndex := 562, descriptorIndex := 563, attributes := #[] }])
  fields := #[{ name := "in", type := (.object "java/io/InputStream"), accessFlags := 25, slot := 0, constantValue := 0 }, { name := "out", type := (.object "java/io/PrintStream"), accessFlags := 25, slot := 1, constantValue := 0 }, { name := "err", type := (.object "java/io/PrintStream"), accessFlags := 25, slot := 2, constantValue := 0 }, { name := "initialIn", type := (.object "java/io/InputStream"), accessFlags := 10, slot := 3, constantValue := 0 }, { name := "NEVER", type := .int, accessFlags := 26, slot := 4, constantValue := 0 }, { name := "MAYBE", type := .int, accessFlags := 26, slot := 5, constantValue := 0 }, { name := "allowSecurityManager", type := .int, accessFlags := 10, slot := 6, constantValue := 0 }, { name := "security", type := (.object "java/lang/SecurityManager"), accessFlags := 74, slot := 7, constantValue := 0 }, { name := "notSupportedJnuEncoding", type := (.object "java/lang/String"), accessFlags := 10, slot := 8, constantValue := 0 }, { name := "cons", type := (.object "java/io/Console"), accessFlags := 74, slot := 9, constantValue := 0 }, { name := "initialErrStream", type := (.object "java/io/PrintStream"), accessFlags := 74, slot := 10, constantValue := 0 }, { name := "props", type := (.object "java/util/Properties"), accessFlags := 10, slot := 11, constantValue := 0 }, { name := "lineSeparator", type := (.object "java/lang/String"), accessFlags := 10, slot := 12, constantValue := 0 }, { name := "bootLayer", type := (.object "java/lang/ModuleLayer"), accessFlags := 8, slot := 13, constantValue := 0 }]
  methods := #[k3m0, k3m1]
  instanceTypes := #[]
  staticTypes := #[(.object "java/io/InputStream"), (.object "java/io/PrintStream"), (.object "java/io/PrintStream"), (.object "java/io/InputStream"), .int, .int, .int, (.object "java/lang/SecurityManager"), (.object "java/lang/String"), (.object "java/io/Console"), (.object "java/io/PrintStream"), (.object "java/util/Properties"), (.object "java/lang/String"), (.object "java/lang/ModuleLayer")]
  resolved := Array.replicate 834 none
  statics := none }

def pool4 : Array CpInfo := pool [(1, u "java/lang/Cloneable"), (0, .class_ 1), (0, u "java/lang/Object"), (0, .class_ 3)] 3

/-- java/lang/Cloneable -/
def k4 : Class := { plain "java/lang/Cloneable" (some 0) with
  accessFlags := 1537
  interfaces := #[]
  cf := some (fileOf pool4 2 #[] #[] 1537 4 #[] #[])
  fields := #[]
  methods := #[]
  instanceTypes := #[]
  staticTypes := #[]
  resolved := Array.replicate 8 none
  statics := none }

def pool5 : Array CpInfo := pool [(1, u "java/io/Serializable"), (0, .class_ 1), (0, u "java/lang/Object"), (0, .class_ 3)] 3

/-- java/io/Serializable -/
def k5 : Class := { plain "java/io/Serializable" (some 0) with
  accessFlags := 1537
  interfaces := #[]
  cf := some (fileOf pool5 2 #[] #[] 1537 4 #[] #[])
  fields := #[]
  methods := #[]
  instanceTypes := #[]
  staticTypes := #[]
  resolved := Array.replicate 8 none
  statics := none }

/-- the primitive byte -/
def k6 : Class := { plain "byte" none with kind := .primitive 'B', accessFlags := 0x411 }
/-- [B -/
def k7 : Class := { plain "[B" (some 0) with kind := .array 6 .byte, interfaces := #[4, 5], accessFlags := 1041 }

/-- the primitive int -/
def k8 : Class := { plain "int" none with kind := .primitive 'I', accessFlags := 0x411 }
/-- [I -/
def k9 : Class := { plain "[I" (some 0) with kind := .array 8 .int, interfaces := #[4, 5], accessFlags := 1041 }

def heap : Heap := #[]
def classes : Array Class := #[k0, k1, k2, k3, k4, k5, k6, k7, k8, k9]
def interned : List (Array UInt16 × Addr) := []
def slotsUsed : Nat := 0
def theMethod : MethodId := ⟨1, 1⟩
def args0 : Array Value := #[.int 5, .long 7, .int 3, .int 9]
def aboutOver (below : List Frame) : State where
  vm := { classes := classes, interned := interned.toArray }
  heap := heap
  slotsUsed := slotsUsed
  threads := #[{ frames := .invoking theMethod args0 :: below }]
def below0 : List Frame := [.native { method := ⟨0, 0⟩, args := #[] }]
def about1 : State := aboutOver below0
def p0 : Program := .bare "" "" ""
def e0 : Env := launch0.env 0 0 0
theorem w_frames : about1.frames = Frame.invoking theMethod args0 :: below0 := rfl
set_option maxRecDepth 65536 in
theorem w_args : argsFit about1.vm theMethod args0 = true := by decide +kernel
set_option maxRecDepth 65536 in
theorem w_heap : heapFits about1 = true := by decide +kernel
set_option maxRecDepth 65536 in
theorem w_runnable : about1.curStatus? = some .runnable := by decide +kernel
set_option maxRecDepth 65536 in
theorem w_alone : about1.alone = true := by decide +kernel
set_option maxRecDepth 65536 in
theorem w_named : about1.methodNamed? x = some theMethod := by decide +kernel
set_option maxRecDepth 65536 in
theorem w_hears : about1.hears theMethod below0 = true := by decide +kernel
set_option maxRecDepth 65536 in
theorem w_ripe : about1.ripe theMethod args0 below0 = true := by decide +kernel
theorem w_running : about1.status = .running := rfl
set_option maxRecDepth 65536 in
theorem w_room : about1.hasRoom e0.platform room_1 = true :=
  launch0.hasRoom_least _ room_1 (by decide +kernel) (by decide +kernel) (by decide +kernel) (by decide +kernel) (by decide +kernel) (by decide +kernel)
theorem allAtoms_all (ts : List Jvm.Cond) (a : Array Jvm.Value) (st : Jvm.State) : (allAtoms ts).before a st = ts.all (fun c => c.before a st) := by
  induction ts with
  | nil => rfl
  | cons c t ih =>
    show (Jvm.Cond.and c (allAtoms t)).before a st = _
    rw [Jvm.Cond.before_and, ih, List.all_cons]
def words1 : List Jvm.Cond := Jvm.Cond.code x code maxLocals ret :: tables_1
/-- a 'code' word, met by the world's own term for the bytes: nothing is compared byte by byte -/
theorem code_word {y : MethodName} {bytes : ByteArray} {mx : Nat} {rt : Option FieldType} {a : Array Value} {s : State} {m : MethodId} {meth : Method} {c : Code} (h1 : s.methodNamed? y = some m) (h2 : s.vm.method? m = some meth) (h3 : meth.code = some c) (h4 : c.code = bytes)
    (h5 : (c.maxLocals == mx && c.exceptionTable.isEmpty && decide (c.maxStack ≤ mostOperands) && decide (meth.sig.returnType = rt) && !meth.locks && decide (parseMethodDescriptor y.desc = some meth.sig)) = true) : (Jvm.Cond.code y bytes mx rt).before a s = true := by
  simp only [Bool.and_eq_true, beq_iff_eq, Bool.not_eq_true', decide_eq_true_eq] at h5
  obtain ⟨⟨⟨⟨⟨g1, g2⟩, g3⟩, g4⟩, g5⟩, g6⟩ := h5
  simp [Cond.before, Cond.holds, Cond.value, h1, h2, h3, h4, g1, g2, g3, g4, g5, g6]
def isCode : Jvm.Cond → Bool
  | .code _ _ _ _ => true
  | _ => false
theorem all_split {L : List Jvm.Cond} {P : Jvm.Cond → Bool} (h1 : L.all (fun c => isCode c || P c) = true) (h2 : ∀ c ∈ L.filter isCode, P c = true) : L.all P = true := by
  refine List.all_eq_true.mpr fun c hc => ?_
  have h := List.all_eq_true.mp h1 c hc
  rcases Bool.eq_false_or_eq_true (isCode c) with hi | hi
  · exact h2 c (List.mem_filter.mpr ⟨hc, hi⟩)
  · simpa [hi] using h
set_option maxRecDepth 65536 in
theorem w_c0 : (Jvm.Cond.code x code maxLocals ret).before args0 about1 = true := code_word (m := ⟨1, 1⟩) (meth := k1m1) (c := k1c1) (by decide +kernel) rfl rfl rfl (by decide +kernel)
set_option maxRecDepth 65536 in
theorem w_c1 : (Jvm.Cond.code ({ cls := "com/example/honeyguide/honeyguide/Spans", name := "<init>", desc := "()V" } : Jvm.MethodName) prog_161_method_1_code (1 : Nat) (Option.none : Option Jvm.ClassFile.FieldType)).before args0 about1 = true := code_word (m := ⟨2, 0⟩) (meth := k2m0) (c := k2c0) (by decide +kernel) rfl rfl rfl (by decide +kernel)
set_option maxRecDepth 65536 in
theorem w_c2 : (Jvm.Cond.code ({ cls := "java/lang/Object", name := "<init>", desc := "()V" } : Jvm.MethodName) object_method_1_code (1 : Nat) (Option.none : Option Jvm.ClassFile.FieldType)).before args0 about1 = true := code_word (m := ⟨0, 0⟩) (meth := k0m0) (c := k0c0) (by decide +kernel) rfl rfl rfl (by decide +kernel)
set_option maxRecDepth 65536 in
theorem w_c3 : (Jvm.Cond.code ({ cls := "com/example/honeyguide/honeyguide/SpansAfterPinLaw", name := "addIf", desc := "(Lcom/example/honeyguide/honeyguide/Spans;[III)V" } : Jvm.MethodName) method_3_code (4 : Nat) (Option.none : Option Jvm.ClassFile.FieldType)).before args0 about1 = true := code_word (m := ⟨1, 2⟩) (meth := k1m2) (c := k1c2) (by decide +kernel) rfl rfl rfl (by decide +kernel)
set_option maxRecDepth 65536 in
theorem w_c4 : (Jvm.Cond.code ({ cls := "com/example/honeyguide/honeyguide/SpansAfterPinLaw", name := "below", desc := "([IIII)I" } : Jvm.MethodName) method_4_code (4 : Nat) (Option.some Jvm.ClassFile.FieldType.int)).before args0 about1 = true := code_word (m := ⟨1, 3⟩) (meth := k1m3) (c := k1c3) (by decide +kernel) rfl rfl rfl (by decide +kernel)
set_option maxRecDepth 65536 in
theorem w_c5 : (Jvm.Cond.code ({ cls := "com/example/honeyguide/honeyguide/Spans", name := "count", desc := "()I" } : Jvm.MethodName) prog_161_method_2_code (1 : Nat) (Option.some Jvm.ClassFile.FieldType.int)).before args0 about1 = true := code_word (m := ⟨2, 1⟩) (meth := k2m1) (c := k2c1) (by decide +kernel) rfl rfl rfl (by decide +kernel)
set_option maxRecDepth 65536 in
theorem w_c6 : (Jvm.Cond.code ({ cls := "com/example/honeyguide/honeyguide/Spans", name := "after", desc := "(I)I" } : Jvm.MethodName) prog_161_method_5_code (5 : Nat) (Option.some Jvm.ClassFile.FieldType.int)).before args0 about1 = true := code_word (m := ⟨2, 2⟩) (meth := k2m2) (c := k2c2) (by decide +kernel) rfl rfl rfl (by decide +kernel)
set_option maxRecDepth 65536 in
theorem w_c7 : (Jvm.Cond.code ({ cls := "com/example/honeyguide/honeyguide/Spans", name := "add", desc := "(II)V" } : Jvm.MethodName) prog_161_method_8_code (4 : Nat) (Option.none : Option Jvm.ClassFile.FieldType)).before args0 about1 = true := code_word (m := ⟨2, 3⟩) (meth := k2m3) (c := k2c3) (by decide +kernel) rfl rfl rfl (by decide +kernel)
set_option maxRecDepth 65536 in
theorem w_c8 : (Jvm.Cond.code ({ cls := "com/example/honeyguide/honeyguide/Spans", name := "replace", desc := "(IIII)V" } : Jvm.MethodName) prog_161_method_9_code (8 : Nat) (Option.none : Option Jvm.ClassFile.FieldType)).before args0 about1 = true := code_word (m := ⟨2, 4⟩) (meth := k2m4) (c := k2c4) (by decide +kernel) rfl rfl rfl (by decide +kernel)
def codes1 : List Jvm.Cond := [Jvm.Cond.code x code maxLocals ret, Jvm.Cond.code ({ cls := "com/example/honeyguide/honeyguide/Spans", name := "<init>", desc := "()V" } : Jvm.MethodName) prog_161_method_1_code (1 : Nat) (Option.none : Option Jvm.ClassFile.FieldType), Jvm.Cond.code ({ cls := "java/lang/Object", name := "<init>", desc := "()V" } : Jvm.MethodName) object_method_1_code (1 : Nat) (Option.none : Option Jvm.ClassFile.FieldType), Jvm.Cond.code ({ cls := "com/example/honeyguide/honeyguide/SpansAfterPinLaw", name := "addIf", desc := "(Lcom/example/honeyguide/honeyguide/Spans;[III)V" } : Jvm.MethodName) method_3_code (4 : Nat) (Option.none : Option Jvm.ClassFile.FieldType), Jvm.Cond.code ({ cls := "com/example/honeyguide/honeyguide/SpansAfterPinLaw", name := "below", desc := "([IIII)I" } : Jvm.MethodName) method_4_code (4 : Nat) (Option.some Jvm.ClassFile.FieldType.int), Jvm.Cond.code ({ cls := "com/example/honeyguide/honeyguide/Spans", name := "count", desc := "()I" } : Jvm.MethodName) prog_161_method_2_code (1 : Nat) (Option.some Jvm.ClassFile.FieldType.int), Jvm.Cond.code ({ cls := "com/example/honeyguide/honeyguide/Spans", name := "after", desc := "(I)I" } : Jvm.MethodName) prog_161_method_5_code (5 : Nat) (Option.some Jvm.ClassFile.FieldType.int), Jvm.Cond.code ({ cls := "com/example/honeyguide/honeyguide/Spans", name := "add", desc := "(II)V" } : Jvm.MethodName) prog_161_method_8_code (4 : Nat) (Option.none : Option Jvm.ClassFile.FieldType), Jvm.Cond.code ({ cls := "com/example/honeyguide/honeyguide/Spans", name := "replace", desc := "(IIII)V" } : Jvm.MethodName) prog_161_method_9_code (8 : Nat) (Option.none : Option Jvm.ClassFile.FieldType)]
set_option maxRecDepth 65536 in
theorem codes_eq : words1.filter isCode = codes1 := rfl
theorem w_codes : ∀ c ∈ words1.filter isCode, c.before args0 about1 = true := by
  rw [codes_eq]
  intro c hc
  simp only [codes1, List.mem_cons, List.not_mem_nil, or_false] at hc
  rcases hc with rfl | rfl | rfl | rfl | rfl | rfl | rfl | rfl | rfl
  · exact w_c0
  · exact w_c1
  · exact w_c2
  · exact w_c3
  · exact w_c4
  · exact w_c5
  · exact w_c6
  · exact w_c7
  · exact w_c8
set_option maxRecDepth 65536 in
theorem w_t1 : (words1.take 24).all (fun c => isCode c || c.before args0 about1) = true := by decide +kernel
set_option maxRecDepth 65536 in
theorem w_t2 : ((words1.drop 24).take 24).all (fun c => isCode c || c.before args0 about1) = true := by decide +kernel
set_option maxRecDepth 65536 in
theorem w_t3 : ((words1.drop 24).drop 24).all (fun c => isCode c || c.before args0 about1) = true := by decide +kernel
theorem w_tables : (allAtoms (Jvm.Cond.code x code maxLocals ret :: tables_1)).before args0 about1 = true := by
  rw [allAtoms_all]
  show words1.all (fun c => c.before args0 about1) = true
  refine all_split ?_ w_codes
  rw [← List.take_append_drop 24 words1, List.all_append, w_t1, ← List.take_append_drop 24 (words1.drop 24), List.all_append, w_t2, w_t3]
  rfl
set_option maxRecDepth 65536 in
theorem w_case : (Jvm.Cond.and given_1 narrow_1).before args0 about1 = true := by decide +kernel
theorem w_applies : (headSpec (Jvm.Cond.code x code maxLocals ret :: tables_1) room_1).applies x e0.platform about1 = true :=
  (Spec.applies_iff w_frames).mpr ⟨w_running, w_runnable, w_alone, w_named, w_hears, w_ripe, w_room, w_tables⟩
theorem atStart : AtStart classFile x code maxLocals ret World_1 tables_1 room_1 Calls_1 rest_1 Pre_1 launch0 p0 e0 about1 theMethod args0 below0 :=
  ⟨lists_1, trivial, launch0.admits_env _ _ _, launch0.least_env, fairChoices_fair.cas, fairChoices_fair.clock, w_frames, w_args, w_heap, w_applies, trivial, trivial, w_case⟩
end start1
theorem witness_1 : WitnessClaimed_1 := ⟨start1.p0, start1.e0, start1.about1, start1.theMethod, start1.args0, start1.below0, start1.atStart⟩
end Jvm.Pilot.@@N@@
