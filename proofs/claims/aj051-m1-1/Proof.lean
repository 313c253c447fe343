import JvmDerived
import JvmDerived.Pilot.@@N@@Statement
import JvmDerived.Pilot.@@N@@Code
set_option linter.unusedVariables false
set_option linter.unusedSimpArgs false
namespace Jvm.RoadKit
open Sem ClassFile Op Lib Jvm.Stand Jvm.Free Jvm.LawKit
section New
variable {p : Program} {l : Launch} {e : Env} {R : Room} {s : State} {m : MethodId} {args : Array Value} {below : List Frame} {meth : Method} {c : Code} {T : State} {locs : List Loc} {cells slots : Nat}
theorem retI (X : Stand p l e R s m args below meth c T locs cells slots) (hx : p.tables.exec = Jvm.exec) {pc : Nat} {Ls : Array Slot} {z : Int32} {rest : List Value} (hret : meth.sig.returnType = some .int) (hd : decode c.code pc = .ok (.ireturn, 1)) {fs : List Frame}
    (hl : ∀ (f : JFrame) (acts : List Action), f.method = m → f.locked = none → f.entered = [] → (doReturn e (T.setTop f) acts (some (.int z))).1 = T.setFrames fs) : Steps p.tables e below (T.setTop (mkF m pc Ls (.int z :: rest))) (T.setFrames fs) :=
  retOut X hx hret rfl (Or.inl ⟨rfl, Or.inl rfl, _, rfl⟩) hd hl
end New
end Jvm.RoadKit
namespace Jvm.Pilot.@@N@@
open Jvm Jvm.ClassFile Sem Op Lib Jvm.Free Jvm.Stand Jvm.LawKit Jvm.RoadKit Bundle Jvm.Pilot.@@N@@.Jvm.D
/-! own_Goes: from A the run comes to a state of which P holds -/
def own_Goes (p : Program) (e : Env) (below : List Frame) (P : State → Prop) (A : State) : Prop := ∃ B, Steps p.tables e below A B ∧ P B
def own_Fin (s : State) (below : List Frame) (QQ : Option Value → Heap → List Loc → Prop) (C N : Nat) (B : State) : Prop := ∃ v L, B.status = .running ∧ Ended B below (.returned v) ∧ QQ v B.heap L ∧ FrameEnd s (.returned v) B L C N
theorem own_via {p : Program} {e : Env} {below : List Frame} {P : State → Prop} {A : State} (B : State) (h : ∀ t, Steps p.tables e below B t → Steps p.tables e below A t) (k : own_Goes p e below P B) : own_Goes p e below P A := by
  obtain ⟨t, h1, h2⟩ := k
  exact ⟨t, h t h1, h2⟩
theorem own_body {p : Program} {e : Env} {below : List Frame} {s s₁ : State} {QQ : Option Value → Heap → List Loc → Prop} {C N ml : Nat} {m : MethodId} {args : Array Value} {F : JFrame} (hF : entryFrame m args ml = F) (k : own_Goes p e below (own_Fin s below QQ C N) (s₁.setTop F)) :
    ∃ s₂ o, Steps p.tables e below (s₁.setTop (entryFrame m args ml)) s₂ ∧ s₂.status = .running ∧ Ended s₂ below o ∧ (∃ v L, o = .returned v ∧ QQ v s₂.heap L ∧ FrameEnd s o s₂ L C N) := by
  obtain ⟨B, h1, v, L, h2, h3, h4, h5⟩ := k
  exact ⟨B, .returned v, hF ▸ h1, h2, h3, v, L, rfl, h4, h5⟩
theorem own_leave {p : Program} {l : Launch} {e : Env} {R : Room} {s : State} {m : MethodId} {args : Array Value} {below : List Frame} {meth : Method} {c : Code} {T : State} {locs : List Loc} {cells slots : Nat} {QQ : Option Value → Heap → List Loc → Prop} {C N : Nat}
    (X : Stand p l e R s m args below meth c T locs cells slots) (hlocks : meth.locks = false) {v : Option Value} (hv : meth.sig.returnType = none → v = none) {F : JFrame}
    (hstep : ∀ fs, (∀ (f : JFrame) (acts : List Action), f.method = m → f.locked = none → f.entered = [] → (doReturn e (T.setTop f) acts v).1 = T.setFrames fs) → Steps p.tables e below (T.setTop F) (T.setFrames fs))
    (hq : QQ v T.heap locs) (hc : cells ≤ C) (hn : slots ≤ N) : own_Goes p e below (own_Fin s below QQ C N) (T.setTop F) := by
  obtain ⟨fs, hr, hrun, hended, hW, hsame⟩ := X.leave hv hlocks
  exact ⟨_, hstep fs hr, v, locs, hrun, hended, hq, ⟨_, rfl⟩, hW, hsame.mono hc hn⟩
/-- what a body that writes nothing leaves -/
def own_Q (r : Option Value) (h0 : Heap) (n0 : Nat) (v : Option Value) (h : Heap) (L : List Loc) : Prop := v = r ∧ Fr n0 L ∧ h = h0
/-! own_A: an array of ints or chars, by a function of the place -/
def own_A (Z : State) (h : Heap) (a : Addr) (ty : FieldType) (n : Nat) (f : Nat → Int32) : Prop := ∃ c : Cell, Arr Z h a c ty ∧ c.slots.size = n ∧ ∀ i, i < n → c.slots[i]? = some (.int (f i))
def own_up (f : Nat → Int32) (j : Nat) (v : Int32) (i : Nat) : Int32 := if i = j then v else f i
section OwnA
variable {Z : State} {h h' : Heap} {a b : Addr} {ty : FieldType} {n sl : Nat} {f : Nat → Int32} {v : Value} {ws : List Addr}
theorem own_A.ext (F : own_A Z h a ty n f) (E : Ext h h') : own_A Z h' a ty n f := by obtain ⟨c, A, r⟩ := F; exact ⟨c, A.ext E, r⟩
theorem own_A.other (F : own_A Z h b ty n f) (W : Wr h h' a sl v) (q : b ≠ a) : own_A Z h' b ty n f := by obtain ⟨c, A, r⟩ := F; exact ⟨c, A.other W q, r⟩
theorem own_A.keep (F : own_A Z h a ty n f) (K : Keep h h' ws) (q : a ∉ ws) : own_A Z h' a ty n f := by obtain ⟨c, A, r⟩ := F; exact ⟨c, ⟨K.2.1 a c A.1 q, A.2⟩, r⟩
theorem own_A.lt (F : own_A Z h a ty n f) : a < h.size := by obtain ⟨c, A, -⟩ := F; exact A.lt
theorem own_A.set {j : Nat} {x : Int32} (F : own_A Z h a ty n f) (W : Wr h h' a j (.int x)) : own_A Z h' a ty n (own_up f j x) := by
  obtain ⟨c, A, S, H⟩ := F
  refine ⟨c.setSlot j (.int x), A.same W, by simpa [Cell.setSlot] using S, fun i hi => ?_⟩
  unfold own_up
  by_cases e : i = j
  · subst e; rw [if_pos rfl]; simp [Cell.setSlot, S, hi]
  · rw [if_neg e]; rw [← H i hi]; exact Array.getElem?_setIfInBounds_ne (Ne.symm e)
theorem own_A.of {k : ClassId} {z : Int32} {vs : List Value} {d : Value} (F : Arv Z h a k ty z vs d) (hf : ∀ i, i < z.toNatClampNeg → vs.getD i d = .int (f i)) : own_A Z h a ty z.toNatClampNeg f := by
  obtain ⟨c, A, -, S, -, H, -⟩ := F
  exact ⟨c, A, S, fun i hi => by rw [H i (by rw [S]; exact hi), hf i hi]⟩
theorem own_A.cast {m : Nat} {g : Nat → Int32} (F : own_A Z h a ty n f) (e : n = m) (q : ∀ i, i < m → f i = g i) : own_A Z h a ty m g := by
  obtain ⟨c, A, S, H⟩ := F
  subst e
  exact ⟨c, A, S, fun i hi => by rw [H i hi, q i hi]⟩
end OwnA
theorem own_in {c : Cell} {n : Nat} {j : Int32} (S : c.slots.size = n) (q : 0 ≤ j.toInt ∧ j.toInt < n) : ¬ (j < 0 ∨ c.slots.size ≤ j.toNatClampNeg) := by
  have e0 : (0 : Int32).toInt = 0 := rfl
  have ek : j.toNatClampNeg = j.toInt.toNat := rfl
  rw [Int32.lt_iff_toInt_lt, S, ek]; omega
theorem own_at {c : Cell} {n : Nat} {f : Nat → Int32} {j : Int32} (H : ∀ i, i < n → c.slots[i]? = some (.int (f i))) (q : 0 ≤ j.toInt ∧ j.toInt < n) : c.slots[j.toNatClampNeg]? = some (.int (f j.toInt.toNat)) := H _ (by have ek : j.toNatClampNeg = j.toInt.toNat := rfl; omega)
theorem own_selpriv {s : State} {args : Array Value} {y : MethodName} {n : Nat} (wi : (Cond.instantiable y.cls n).before args s = true) (hpriv : s.PrivateAt y) (hinst : (Cond.instanceMethod y).before args s = true) (hy : y.cls ≠ "java/lang/invoke/MethodHandle" ∧ y.cls ≠ "java/lang/invoke/VarHandle") : (Cond.selects y.cls y y).before args s = true := by
  obtain ⟨c, k, h1, h2, h3, h4, -⟩ := Cond.instantiable_spec wi
  exact Jvm.Stand.selects_self_of_private h1 h2 (by simp only [Bool.or_eq_false_iff] at h4; exact h4.1) hpriv hinst hy
/-! floats, by their bits: loading, the constant 0, comparing -/
section OwnF
variable {tb : Tables} [Ours tb] {e : Env} {below : List Frame} {T target : State} {m : MethodId} {c : Code} {g : JFrame}
theorem own_fconst0 (h : At T m c below) (hx : tb.exec = Jvm.exec) (hg : g.method = m) (hd : decode c.code g.pc = .ok (.fconst 0, 1)) (hr : Steps tb e below (T.setTop { g with pc := g.pc + 1, stack := .float (0 : UInt32) :: g.stack }) target) : Steps tb e below (T.setTop g) target := by
  subst hg
  jvm_step h [h.top, hx, hd, fconst.wp_sem]
  exact hr
theorem own_floadN (h : At T m c below) (hx : tb.exec = Jvm.exec) (hg : g.method = m) {k : Fin 4} {v : UInt32} (hd : decode c.code g.pc = .ok (.fload_n k, 1)) (hl : g.locals[k.val]? = some (.val (.float v))) (hr : Steps tb e below (T.setTop { g with pc := g.pc + 1, stack := .float v :: g.stack }) target) : Steps tb e below (T.setTop g) target := by
  subst hg
  jvm_step h [h.top, hx, hd, hl]
  exact hr
theorem own_fcmp (h : At T m c below) (hx : tb.exec = Jvm.exec) (hg : g.method = m) {op : CmpOp} {x y : UInt32} {z : Int32} {rest : List Value} (hd : decode c.code g.pc = .ok (.fcmp op, 1)) (hs : g.stack = .float y :: .float x :: rest) (hz : cmpValue (FP.fcmp x y) op = z) (hr : Steps tb e below (T.setTop { g with pc := g.pc + 1, stack := .int z :: rest }) target) : Steps tb e below (T.setTop g) target := by
  subst hg
  jvm_step h [h.top, hx, hd, hs, fcmp.wp_sem]
  subst hz
  exact hr
end OwnF
/-! own_Ob: an Object[] of n places, the first ones by a list (the rest null) -/
def own_Ob (Z : State) (h : Heap) (a : Addr) (n : Nat) (vs : List Value) : Prop := ∃ c : Cell, Arr Z h a c (.object "java/lang/Object") ∧ c.slots.size = n ∧ (∀ i, i < n → c.slots[i]? = some (vs.getD i .null)) ∧ (n = 0 ∨ Ovr Z c.cls "java/lang/Object")
section OwnOb
variable {Z : State} {h h' : Heap} {a b y : Addr} {n sl : Nat} {vs us : List Value} {v : Value} {ws : List Addr}
theorem own_Ob.ext (F : own_Ob Z h a n vs) (E : Ext h h') : own_Ob Z h' a n vs := by obtain ⟨c, A, r⟩ := F; exact ⟨c, A.ext E, r⟩
theorem own_Ob.other (F : own_Ob Z h b n vs) (W : Wr h h' a sl v) (q : b ≠ a) : own_Ob Z h' b n vs := by obtain ⟨c, A, r⟩ := F; exact ⟨c, A.other W q, r⟩
theorem own_Ob.keep (F : own_Ob Z h a n vs) (K : Keep h h' ws) (q : a ∉ ws) : own_Ob Z h' a n vs := by obtain ⟨c, A, r⟩ := F; exact ⟨c, ⟨K.2.1 a c A.1 q, A.2⟩, r⟩
theorem own_Ob.lt (F : own_Ob Z h a n vs) : a < h.size := by obtain ⟨c, A, -⟩ := F; exact A.lt
theorem own_Ob.set {j : Nat} (F : own_Ob Z h a n vs) (W : Wr h h' a j v) (q : ∀ i, i < n → us.getD i .null = if i = j then v else vs.getD i .null) : own_Ob Z h' a n us := by
  obtain ⟨c, A, S, H, O⟩ := F
  refine ⟨c.setSlot j v, A.same W, by simpa [Cell.setSlot] using S, fun i hi => ?_, O⟩
  rw [q i hi]
  by_cases e : i = j
  · subst e; rw [if_pos rfl]; simp [Cell.setSlot, S, hi]
  · rw [if_neg e]; rw [← H i hi]; exact Array.getElem?_setIfInBounds_ne (Ne.symm e)
theorem own_Ob.new {k : ClassId} {z : Int32} (A : Arr Z h a (newA k (.object "java/lang/Object") z) (.object "java/lang/Object")) (O : Ovr Z k "java/lang/Object") (e : z.toNatClampNeg = n) : own_Ob Z h a n [] := by
  refine ⟨_, A, by simp [newA, e], fun i hi => ?_, Or.inr O⟩
  simp [newA, e, defaultValue, hi]
theorem own_Ob.sto (F : own_Ob Z h a n vs) (hn : n ≠ 0) (I : Ins Z h y "java/lang/Object" true) : ∃ c, Arr Z h a c (.object "java/lang/Object") ∧ c.slots.size = n ∧ Sto Z h a (.ref y) := by
  obtain ⟨c, A, S, -, O⟩ := F
  exact ⟨c, A, S, Sto.of A (O.resolve_left hn) I⟩
end OwnOb
theorem own_stakeepW {Z : State} {h h' : Heap} {C n d : String} {v : Value} {ws : List Addr} (F : Sta Z h C n d v) (N : ∀ x ∈ ws, ∃ c : Cell, h[x]? = some c ∧ c.vm.isStatics = false) (K : Keep h h' ws) : Sta Z h' C n d v := by
  obtain ⟨cf, i, k, f, st, cell, h1, h2, h3, h4, h5, h6, r⟩ := F
  refine ⟨cf, i, k, f, st, cell, h1, h2, h3, h4, K.2.1 _ _ h5 (fun q => ?_), h6, r⟩
  obtain ⟨c, e1, e2⟩ := N _ q
  cases h5.symm.trans e1
  rw [h6] at e2; cases e2
theorem own_nsE {Z : State} {h : Heap} {a : Addr} {C : String} (E : Exa Z h a C) : ∃ c : Cell, h[a]? = some c ∧ c.vm.isStatics = false := by obtain ⟨c, k, h1, h2, h3, h4, -⟩ := E; exact ⟨c, h1, h4⟩
theorem own_nsA {Z : State} {h : Heap} {a : Addr} {ty : FieldType} {n : Nat} {f : Nat → Int32} (F : own_A Z h a ty n f) : ∃ c : Cell, h[a]? = some c ∧ c.vm.isStatics = false := by obtain ⟨c, A, -⟩ := F; exact ⟨c, A.1, A.plain⟩
theorem own_nsO {Z : State} {h : Heap} {a : Addr} {n : Nat} {vs : List Value} (F : own_Ob Z h a n vs) : ∃ c : Cell, h[a]? = some c ∧ c.vm.isStatics = false := by obtain ⟨c, A, -⟩ := F; exact ⟨c, A.1, A.plain⟩
/-! the plain law -/
def own_id (i : Nat) : Int32 := Nat.toInt32 i
theorem own_lt0 {p : Int32} (h : 1 ≤ p.toInt) : (0 : Int32) < p := by
  have e : (0 : Int32).toInt = 0 := rfl
  rw [Int32.lt_iff_toInt_lt]; omega
theorem own_nlt4 {p : Int32} (h : p.toInt ≤ 4) : ¬ (4 : Int32) < p := by
  have e : (4 : Int32).toInt = 4 := rfl
  rw [Int32.lt_iff_toInt_lt]; omega
theorem own_nn {p : Int32} (h : 1 ≤ p.toInt) : ¬ p < 0 := by
  have e : (0 : Int32).toInt = 0 := rfl
  rw [Int32.lt_iff_toInt_lt]; omega
theorem own_c4 {p : Int32} (h : p.toInt ≤ 4) : p.toNatClampNeg ≤ 4 := by
  have ek : p.toNatClampNeg = p.toInt.toNat := rfl
  omega
theorem own_ib {i p : Int32} (h : i < p) (h0 : 0 ≤ i.toInt) : 0 ≤ i.toInt ∧ i.toInt < (p.toNatClampNeg : Int) := by
  have ek : p.toNatClampNeg = p.toInt.toNat := rfl
  rw [Int32.lt_iff_toInt_lt] at h
  rw [ek]; omega
theorem own_ex {i p : Int32} (h : ¬ i < p) : p.toNatClampNeg ≤ i.toInt.toNat := by
  have ek : p.toNatClampNeg = p.toInt.toNat := rfl
  rw [Int32.lt_iff_toInt_lt] at h
  rw [ek]; omega
theorem own_and3 (x : Int32) : x &&& 3 = 0 ∨ x &&& 3 = 1 ∨ x &&& 3 = 2 ∨ x &&& 3 = 3 := by
  have h : ∀ b : BitVec 32, b &&& 3#32 = 0#32 ∨ b &&& 3#32 = 1#32 ∨ b &&& 3#32 = 2#32 ∨ b &&& 3#32 = 3#32 := fun b => by
    have q : (b &&& 3#32).toNat < 4 := by
      rw [BitVec.toNat_and]; exact Nat.lt_succ_of_le Nat.and_le_right
    have c : (b &&& 3#32).toNat = 0 ∨ (b &&& 3#32).toNat = 1 ∨ (b &&& 3#32).toNat = 2 ∨ (b &&& 3#32).toNat = 3 := by omega
    rcases c with c | c | c | c
    · exact Or.inl (BitVec.eq_of_toNat_eq c)
    · exact Or.inr (Or.inl (BitVec.eq_of_toNat_eq c))
    · exact Or.inr (Or.inr (Or.inl (BitVec.eq_of_toNat_eq c)))
    · exact Or.inr (Or.inr (Or.inr (BitVec.eq_of_toNat_eq c)))
  rcases h x.toBitVec with h | h | h | h
  · exact Or.inl (Int32.toBitVec_inj.mp h)
  · exact Or.inr (Or.inl (Int32.toBitVec_inj.mp h))
  · exact Or.inr (Or.inr (Or.inl (Int32.toBitVec_inj.mp h)))
  · exact Or.inr (Or.inr (Or.inr (Int32.toBitVec_inj.mp h)))
theorem own_m4 {z x : Int32} (h : z = x &&& (3 : Int32)) : z = 0 ∨ z = 1 ∨ z = 2 ∨ z = 3 := by subst h; exact own_and3 x
theorem own_n {z x : Int32} (h : z = (1 : Int32) + (x &&& (3 : Int32))) : 1 ≤ z.toInt ∧ z.toInt ≤ 4 := by
  subst h
  rcases own_and3 x with e | e | e | e <;> rw [e] <;> decide
theorem own_nz1 {z x : Int32} (h : z = (1 : Int32) + (x &&& (3 : Int32))) : z ≠ 0 := by
  have := own_n h
  intro e; subst e
  have : (0 : Int32).toInt = 0 := rfl
  omega
theorem own_pos (x : Int32) : 0 ≤ (x &&& (2147483647 : Int32)).toInt := by
  have h : (x &&& (2147483647 : Int32)).toBitVec.toNat ≤ 2147483647 := by
    rw [Int32.toBitVec_and, BitVec.toNat_and]; exact Nat.and_le_right
  show 0 ≤ (x &&& (2147483647 : Int32)).toBitVec.toInt
  rw [BitVec.toInt_eq_toNat_cond, if_pos (by omega)]
  omega
theorem own_rem {k x n : Int32} (h : k = (x &&& (2147483647 : Int32)) % n) (hn : 1 ≤ n.toInt) : 0 ≤ k.toInt ∧ k.toInt < n.toInt := by
  subst h
  have h1 := own_pos x
  rw [Int32.toInt_mod]
  exact ⟨Int.tmod_nonneg _ h1, Int.tmod_lt_of_pos _ (by omega)⟩
theorem own_kb {k x n p : Int32} {N : Nat} (hN : N = n.toNatClampNeg) (hn : n = (1 : Int32) + (p &&& (3 : Int32))) (h : k = (x &&& (2147483647 : Int32)) % n) : 0 ≤ k.toInt ∧ k.toInt < (N : Int) := by
  have := own_n hn
  have := own_rem h this.1
  have ek : n.toNatClampNeg = n.toInt.toNat := rfl
  omega
theorem own_idk {k : Int32} (h : 0 ≤ k.toInt) : own_id k.toInt.toNat = k := by
  unfold own_id
  apply Int32.toInt_inj.mp
  have := rng32 k
  show (Int32.ofNat _).toInt = _
  rw [Int32.toInt_ofNat_of_lt (by omega)]; omega
theorem own_inj {a b : Int32} (ha : 0 ≤ a.toInt) (hb : 0 ≤ b.toInt) (e : a.toInt.toNat = b.toInt.toNat) : a = b := Int32.toInt_inj.mp (by omega)
/-- what isChanged says -/
def own_ch (k : Int32) (f : Nat → Int32) : Int32 := if f k.toInt.toNat = k then (0 : Int32) else (1 : Int32)
theorem own_B {k : Int32} (hk : 0 ≤ k.toInt) : own_ch k own_id = 0 := by unfold own_ch; rw [own_idk hk, if_pos rfl]
theorem own_ne1 {k n : Int32} (hk : k.toInt < n.toInt) : ¬ n = k := fun e => by subst e; omega
theorem own_ne2 {k n : Int32} (hk : k.toInt < n.toInt) (hn : 1 ≤ n.toInt ∧ n.toInt ≤ 4) : ¬ n + (1 : Int32) = k := fun e => by
  subst e
  have := c_iadd n (1 : Int32); have e1 : (1 : Int32).toInt = 1 := rfl
  have := rng32 (n + (1 : Int32))
  omega
theorem own_L1 {k h1 n : Int32} (hk : 0 ≤ k.toInt ∧ k.toInt < n.toInt) (hh : 0 ≤ h1.toInt ∧ h1.toInt < n.toInt) : own_ch k (own_up own_id h1.toInt.toNat n) = if k = h1 then (1 : Int32) else (0 : Int32) := by
  unfold own_ch own_up
  by_cases e : k = h1
  · subst e; rw [if_pos rfl, if_pos rfl, if_neg (own_ne1 hk.2)]
  · rw [if_neg e, if_neg (fun q => e (own_inj hk.1 hh.1 q)), own_idk hk.1, if_pos rfl]
theorem own_L2 {k h1 h2 n : Int32} (hn : 1 ≤ n.toInt ∧ n.toInt ≤ 4) (hk : 0 ≤ k.toInt ∧ k.toInt < n.toInt) (hh : 0 ≤ h1.toInt ∧ h1.toInt < n.toInt) (hg : 0 ≤ h2.toInt ∧ h2.toInt < n.toInt) :
    own_ch k (own_up (own_up own_id h1.toInt.toNat n) h2.toInt.toNat (n + (1 : Int32))) = if k = h1 then (1 : Int32) else if k = h2 then (1 : Int32) else (0 : Int32) := by
  by_cases e2 : k = h2
  · subst e2
    unfold own_ch own_up
    rw [if_pos rfl, if_neg (own_ne2 hk.2 hn), if_pos rfl]
    split <;> rfl
  · rw [if_neg e2, ← own_L1 hk hh]
    unfold own_ch
    have : own_up (own_up own_id h1.toInt.toNat n) h2.toInt.toNat (n + (1 : Int32)) k.toInt.toNat = own_up own_id h1.toInt.toNat n k.toInt.toNat := by
      rw [own_up, if_neg (fun q => e2 (own_inj hk.1 hg.1 q))]
    rw [this]
/-! the start -/
theorem own_stat {s : State} {args : Array Value} {C n d K : String} (hini : (Cond.initialized C).before args s = true) (hl : (Cond.laysStatic C n d).before args s = true) (hx : (Cond.exactly (Term.static C n d) K).value args s none s [] = some true) : ∃ a, (Term.static C n d).eval args s none [] s = some (.ref a) ∧ Sta s s.heap C n d (.ref a) ∧ Exa s s.heap a K := by
  obtain ⟨a, cc, cell, k, t1, -⟩ := Cond.exactly_spec (Cond.before_iff.mpr hx)
  exact ⟨a, t1, Sta.start t1 (Or.inr ⟨hini, hl⟩), Exa.start t1 hx⟩
theorem own_fieldev {t : Term} {args : Array Value} {s : State} {a : Addr} {C n d : String} (ht : t.eval args s none [] s = some (.ref a)) : (Term.field t C n d).eval args s none [] s = s.fieldOf? a C n d := by simp [Term.eval, ht]
theorem own_const {s : State} {args : Array Value} {C n d : String} {k : Int32} (hini : (Cond.initialized C).before args s = true) (hl : (Cond.laysStatic C n d).before args s = true) (hx : (Cond.exactly (Term.static C n d) C).value args s none s [] = some true)
    (ho : (Cond.eq (Term.field (Term.static C n d) "java/lang/Enum" "ordinal" "I") (Term.int k)).value args s none s [] = some true) : ∃ a, Sta s s.heap C n d (.ref a) ∧ Exa s s.heap a C ∧ s.fieldOf? a "java/lang/Enum" "ordinal" "I" = some (.int k) := by
  obtain ⟨a, c, cell, kk, e1, -⟩ := Cond.exactly_spec (show (Cond.exactly (Term.static C n d) C).holds args s none s [] = true by unfold Cond.holds; rw [hx]; rfl)
  have e3 := Cond.eq_int (show (Cond.eq (Term.field (Term.static C n d) "java/lang/Enum" "ordinal" "I") (Term.int k)).holds args s none s [] = true by unfold Cond.holds; rw [ho]; rfl) (rfl : (Term.int k).eval args s none [] s = some (.int k))
  rw [own_fieldev e1] at e3
  exact ⟨a, Sta.start e1 (Or.inr ⟨hini, hl⟩), Exa.start e1 hx, e3⟩
theorem own_ob0 {s : State} {args : Array Value} {C n d : String} (hfit : Fit s) (hini : (Cond.initialized C).before args s = true) (h2 : (Cond.laysStatic C n d).before args s = true) (hd : parseFieldDescriptor d = some (.array (.object "java/lang/Object")))
    (h4 : (Cond.arrayOf (Term.static C n d) (.object "java/lang/Object")).before args s = true) (h6 : (Cond.eq (Term.length (Term.static C n d)) (Term.int (0 : Int32))).before args s = true) : ∃ a, Sta s s.heap C n d (.ref a) ∧ own_Ob s s.heap a 0 [] := by
  obtain ⟨w, ew, -⟩ := static_fit hfit h2 hd
  obtain ⟨a, cl, rfl, hc, harr, hvm⟩ := Jvm.Free.IntBox.arrayOf_fwd h4 ew
  obtain ⟨q1, q2⟩ := Jvm.Free.IntBox.length_fwd h6 ew hc harr hvm
  have hsz : cl.slots.size = 0 := by
    have := congrArg Int32.toNatClampNeg q2
    have e1 : (0 : Int32).toNatClampNeg = 0 := rfl
    rw [e1] at this
    rw [← this]
    simp only [Int32.toNatClampNeg, Nat.toInt32, Int32.size]
    simp [Int.bmod]
    omega
  exact ⟨a, Sta.start ew (Or.inr ⟨hini, h2⟩), cl, ⟨hc, harr, hvm⟩, hsz, fun i hi => absurd hi (Nat.not_lt_zero _), Or.inl rfl⟩
theorem own_elem {t u : Term} {args : Array Value} {s : State} {idx : List Nat} {a : Addr} {j : Int32} {cl : Cell} (ht : t.eval args s none idx s = some (.ref a)) (hu : u.eval args s none idx s = some (.int j)) (hj : ¬ j < 0) (hat : s.arrayAt? a = some cl) : (Term.elem t u).eval args s none idx s = cl.slots[j.toNatClampNeg]? := by
  simp [Term.eval, ht, hu, hj, hat]
theorem own_vb {c : Jvm.Cond} {args : Array Value} {s : State} (h : c.value args s none s [] = some true) : c.before args s = true := Cond.before_iff.mpr h
theorem own_sw {s : State} {args : Array Value} {C n d : String} (hfit : Fit s) (hini : (Cond.initialized C).before args s = true) (h2 : (Cond.laysStatic C n d).before args s = true) (hd : parseFieldDescriptor d = some (.array .int))
    (h4 : (Cond.arrayOf (Term.static C n d) .int).before args s = true) (h6 : (Cond.eq (Term.length (Term.static C n d)) (Term.int (3 : Int32))).before args s = true)
    (e0 : (Cond.eq (Term.elem (Term.static C n d) (Term.int (0 : Int32))) (Term.int (1 : Int32))).before args s = true) (e1 : (Cond.eq (Term.elem (Term.static C n d) (Term.int (1 : Int32))) (Term.int (2 : Int32))).before args s = true) (e2 : (Cond.eq (Term.elem (Term.static C n d) (Term.int (2 : Int32))) (Term.int (3 : Int32))).before args s = true) :
    ∃ a, Sta s s.heap C n d (.ref a) ∧ own_A s s.heap a .int 3 (fun i => Nat.toInt32 (i + 1)) := by
  obtain ⟨w, ew, -⟩ := static_fit hfit h2 hd
  obtain ⟨a, cl, rfl, hc, harr, hvm⟩ := Jvm.Free.IntBox.arrayOf_fwd h4 ew
  obtain ⟨q1, q2⟩ := Jvm.Free.IntBox.length_fwd h6 ew hc harr hvm
  have hat := Jvm.Free.IntBox.arrayAt_of hc harr hvm
  have hsz : cl.slots.size = 3 := by
    have := congrArg Int32.toNatClampNeg q2
    have e1 : (3 : Int32).toNatClampNeg = 3 := rfl
    rw [e1] at this
    rw [← this]
    simp only [Int32.toNatClampNeg, Nat.toInt32, Int32.size]
    simp [Int.bmod]
    omega
  have g0 := Cond.eq_int (show (Cond.eq (Term.elem (Term.static C n d) (Term.int (0 : Int32))) (Term.int (1 : Int32))).holds args s none s [] = true from e0) (rfl : (Term.int 1).eval args s none [] s = some (.int 1))
  have g1 := Cond.eq_int (show (Cond.eq (Term.elem (Term.static C n d) (Term.int (1 : Int32))) (Term.int (2 : Int32))).holds args s none s [] = true from e1) (rfl : (Term.int 2).eval args s none [] s = some (.int 2))
  have g2 := Cond.eq_int (show (Cond.eq (Term.elem (Term.static C n d) (Term.int (2 : Int32))) (Term.int (3 : Int32))).holds args s none s [] = true from e2) (rfl : (Term.int 3).eval args s none [] s = some (.int 3))
  rw [own_elem ew (rfl : (Term.int 0).eval args s none [] s = some (.int 0)) (by decide) hat] at g0
  rw [own_elem ew (rfl : (Term.int 1).eval args s none [] s = some (.int 1)) (by decide) hat] at g1
  rw [own_elem ew (rfl : (Term.int 2).eval args s none [] s = some (.int 2)) (by decide) hat] at g2
  refine ⟨a, Sta.start ew (Or.inr ⟨hini, h2⟩), cl, ⟨hc, harr, hvm⟩, hsz, fun i hi => ?_⟩
  rcases i with _ | _ | _ | i
  · exact g0
  · exact g1
  · exact g2
  · omega
theorem d6_0 : decode jdk_22_method_1_code 0 = .ok (.aload_n 0, 1) := by decide +kernel
theorem d6_1 : decode jdk_22_method_1_code 1 = .ok (.invokespecial 1, 3) := by decide +kernel
theorem d6_4 : decode jdk_22_method_1_code 4 = .ok (.return_, 1) := by decide +kernel
theorem pn_java_util_AbstractCollection : plainName "java/util/AbstractCollection" = true := by first | (simp [plainName, overriddenIn]; done) | decide +kernel
theorem ef_6 (m : MethodId) (p0 : Addr) : entryFrame m #[(.ref p0)] 1 = mkF m 0 #[.val (.ref p0)] [] := by first | (simp [entryFrame, mkF, argsToLocals, Value.category]; done) | rfl
set_option maxRecDepth 65536 in
set_option maxHeartbeats 40000000 in
theorem rm6 (l : Launch) (Z : State) (a0 : Array Value) (hw : ∀ d ∈ tables_1, d.before a0 Z = true) (ws : List Jvm.Cond) (p0 : Addr) (h0 : Heap) (n0 : Nat) (Z0 : n0 ≤ h0.size)  :
    MetFree l (⟨"java/util/AbstractCollection", "<init>", "()V"⟩ : MethodName) (head1 (Jvm.Cond.code (⟨"java/util/AbstractCollection", "<init>", "()V"⟩ : MethodName) jdk_22_method_1_code 1 none :: ws) ({ frames := 1, cells := 0, slots := 0, locals := 12 } : Room)) (fun a U => a = #[(.ref p0)] ∧ Z.Warmed39 U.vm ∧ U.heap = h0) (fun _ _ _ _ _ => True) (fun _ U o U' => ∃ v L, o = .returned v ∧ (own_Q none h0 n0) v U'.heap L ∧ FrameEnd U o U' L ({ frames := 1, cells := 0, slots := 0, locals := 12 } : Room).cells ({ frames := 1, cells := 0, slots := 0, locals := 12 } : Room).slots) := by
  refine MetFree.of_bodySF (plainFor_of_name pn_java_util_AbstractCollection) hisR ?_
  intro p e s m args below meth c s₁ Bd hml0 hP hK
  obtain ⟨rfl, hZ, hh⟩ := hP
  have hx := Bd.exec
  have hby := Bd.bytes
  have hml : c.maxLocals = 1 := hml0
  have hown : s.vm.findClass "java/util/AbstractCollection" = some m.cls := findClass_of_methodNamed Bd.named
  have hnm := (name_of_methodNamed Bd.named Bd.method).1
  have X0 : Stand p l e ({ frames := 1, cells := 0, slots := 0, locals := 12 } : Room) s m #[(.ref p0)] below meth c s₁ [] 0 0 := Stand.of_body Bd
  have e0 : s₁.heap = h0 := by rw [← hh, Bd.state]; rfl
  have N0 := Fr.nil n0
  refine own_body (QQ := (own_Q none h0 n0)) (ef_6 m p0) ?_
  refine own_via (s₁.setTop (mkF m 1 #[.val (.ref p0)] [(.ref p0)])) (fun t k => XS.aloadN X0.here hx rfl (hb hby d6_0) rfl rfl k) ?_
  obtain ⟨T1, X1, e1, st1⟩ := initO X0 hx hZ hown (hw _ (List.mem_of_getElem? (i := 40) rfl)) (hw _ (List.mem_of_getElem? (i := 8) rfl)) (hw _ (List.mem_of_getElem? (i := 9) rfl)) e0 (g := (mkF m 1 #[.val (.ref p0)] [(.ref p0)])) rfl (by rw [hml]; rfl) rfl (hb hby d6_1) (by decide) (W := 0) (by show 2 * 0 + _ ≤ _; exact Nat.le_of_eq rfl) (by decide)
  refine own_via (T1.setTop (mkF m 4 #[.val (.ref p0)] [])) (fun t k => st1 t k) ?_
  refine own_leave X1 Bd.notSynchronized (v := none) (fun _ => rfl) (fun fs hr => X1.returnOut hx Bd.returns (hb hby d6_4) hr) ?_ (by decide) (by decide)
  refine ⟨?_, N0, e1⟩
  rfl
theorem d9_0 : decode jdk_71_method_1_code 0 = .ok (.aload_n 0, 1) := by decide +kernel
theorem d9_1 : decode jdk_71_method_1_code 1 = .ok (.invokespecial 1, 3) := by decide +kernel
theorem d9_4 : decode jdk_71_method_1_code 4 = .ok (.return_, 1) := by decide +kernel
theorem pn_java_util_AbstractMap : plainName "java/util/AbstractMap" = true := by first | (simp [plainName, overriddenIn]; done) | decide +kernel
theorem ef_9 (m : MethodId) (p0 : Addr) : entryFrame m #[(.ref p0)] 1 = mkF m 0 #[.val (.ref p0)] [] := by first | (simp [entryFrame, mkF, argsToLocals, Value.category]; done) | rfl
set_option maxRecDepth 65536 in
set_option maxHeartbeats 40000000 in
theorem rm9 (l : Launch) (Z : State) (a0 : Array Value) (hw : ∀ d ∈ tables_1, d.before a0 Z = true) (ws : List Jvm.Cond) (p0 : Addr) (h0 : Heap) (n0 : Nat) (Z0 : n0 ≤ h0.size)  :
    MetFree l (⟨"java/util/AbstractMap", "<init>", "()V"⟩ : MethodName) (head1 (Jvm.Cond.code (⟨"java/util/AbstractMap", "<init>", "()V"⟩ : MethodName) jdk_71_method_1_code 1 none :: ws) ({ frames := 1, cells := 0, slots := 0, locals := 12 } : Room)) (fun a U => a = #[(.ref p0)] ∧ Z.Warmed39 U.vm ∧ U.heap = h0) (fun _ _ _ _ _ => True) (fun _ U o U' => ∃ v L, o = .returned v ∧ (own_Q none h0 n0) v U'.heap L ∧ FrameEnd U o U' L ({ frames := 1, cells := 0, slots := 0, locals := 12 } : Room).cells ({ frames := 1, cells := 0, slots := 0, locals := 12 } : Room).slots) := by
  refine MetFree.of_bodySF (plainFor_of_name pn_java_util_AbstractMap) hisR ?_
  intro p e s m args below meth c s₁ Bd hml0 hP hK
  obtain ⟨rfl, hZ, hh⟩ := hP
  have hx := Bd.exec
  have hby := Bd.bytes
  have hml : c.maxLocals = 1 := hml0
  have hown : s.vm.findClass "java/util/AbstractMap" = some m.cls := findClass_of_methodNamed Bd.named
  have hnm := (name_of_methodNamed Bd.named Bd.method).1
  have X0 : Stand p l e ({ frames := 1, cells := 0, slots := 0, locals := 12 } : Room) s m #[(.ref p0)] below meth c s₁ [] 0 0 := Stand.of_body Bd
  have e0 : s₁.heap = h0 := by rw [← hh, Bd.state]; rfl
  have N0 := Fr.nil n0
  refine own_body (QQ := (own_Q none h0 n0)) (ef_9 m p0) ?_
  refine own_via (s₁.setTop (mkF m 1 #[.val (.ref p0)] [(.ref p0)])) (fun t k => XS.aloadN X0.here hx rfl (hb hby d9_0) rfl rfl k) ?_
  obtain ⟨T2, X2, e2, st2⟩ := initO X0 hx hZ hown (hw _ (List.mem_of_getElem? (i := 63) rfl)) (hw _ (List.mem_of_getElem? (i := 8) rfl)) (hw _ (List.mem_of_getElem? (i := 9) rfl)) e0 (g := (mkF m 1 #[.val (.ref p0)] [(.ref p0)])) rfl (by rw [hml]; rfl) rfl (hb hby d9_1) (by decide) (W := 0) (by show 2 * 0 + _ ≤ _; exact Nat.le_of_eq rfl) (by decide)
  refine own_via (T2.setTop (mkF m 4 #[.val (.ref p0)] [])) (fun t k => st2 t k) ?_
  refine own_leave X2 Bd.notSynchronized (v := none) (fun _ => rfl) (fun fs hr => X2.returnOut hx Bd.returns (hb hby d9_4) hr) ?_ (by decide) (by decide)
  refine ⟨?_, N0, e2⟩
  rfl
theorem d17_0 : decode jdk_91_method_1_code 0 = .ok (.aload_n 0, 1) := by decide +kernel
theorem d17_1 : decode jdk_91_method_1_code 1 = .ok (.invokespecial 1, 3) := by decide +kernel
theorem d17_4 : decode jdk_91_method_1_code 4 = .ok (.return_, 1) := by decide +kernel
theorem pd_0 : parseMethodDescriptor "()V" = some ⟨[], none⟩ := by decide +kernel
theorem pn_java_util_AbstractSet : plainName "java/util/AbstractSet" = true := by first | (simp [plainName, overriddenIn]; done) | decide +kernel
theorem ef_17 (m : MethodId) (p0 : Addr) : entryFrame m #[(.ref p0)] 1 = mkF m 0 #[.val (.ref p0)] [] := by first | (simp [entryFrame, mkF, argsToLocals, Value.category]; done) | rfl
set_option maxRecDepth 65536 in
set_option maxHeartbeats 40000000 in
theorem rm17 (l : Launch) (Z : State) (a0 : Array Value) (hw : ∀ d ∈ tables_1, d.before a0 Z = true) (ws : List Jvm.Cond) (p0 : Addr) (h0 : Heap) (n0 : Nat) (Z0 : n0 ≤ h0.size)  :
    MetFree l (⟨"java/util/AbstractSet", "<init>", "()V"⟩ : MethodName) (head1 (Jvm.Cond.code (⟨"java/util/AbstractSet", "<init>", "()V"⟩ : MethodName) jdk_91_method_1_code 1 none :: ws) ({ frames := 2, cells := 0, slots := 0, locals := 24 } : Room)) (fun a U => a = #[(.ref p0)] ∧ Z.Warmed39 U.vm ∧ U.heap = h0) (fun _ _ _ _ _ => True) (fun _ U o U' => ∃ v L, o = .returned v ∧ (own_Q none h0 n0) v U'.heap L ∧ FrameEnd U o U' L ({ frames := 2, cells := 0, slots := 0, locals := 24 } : Room).cells ({ frames := 2, cells := 0, slots := 0, locals := 24 } : Room).slots) := by
  refine MetFree.of_bodySF (plainFor_of_name pn_java_util_AbstractSet) hisR ?_
  intro p e s m args below meth c s₁ Bd hml0 hP hK
  obtain ⟨rfl, hZ, hh⟩ := hP
  have hx := Bd.exec
  have hby := Bd.bytes
  have hml : c.maxLocals = 1 := hml0
  have hown : s.vm.findClass "java/util/AbstractSet" = some m.cls := findClass_of_methodNamed Bd.named
  have hnm := (name_of_methodNamed Bd.named Bd.method).1
  have X0 : Stand p l e ({ frames := 2, cells := 0, slots := 0, locals := 24 } : Room) s m #[(.ref p0)] below meth c s₁ [] 0 0 := Stand.of_body Bd
  have e0 : s₁.heap = h0 := by rw [← hh, Bd.state]; rfl
  have N0 := Fr.nil n0
  refine own_body (QQ := (own_Q none h0 n0)) (ef_17 m p0) ?_
  refine own_via (s₁.setTop (mkF m 1 #[.val (.ref p0)] [(.ref p0)])) (fun t k => XS.aloadN X0.here hx rfl (hb hby d17_0) rfl rfl k) ?_
  obtain ⟨_, _, ⟨T3, L3, k3, n3⟩, -, X3, ⟨Lc3, hQ3, l3, y3, z3⟩, st3⟩ := X0.specialBack hx (y := (⟨"java/util/AbstractCollection", "<init>", "()V"⟩ : MethodName)) rfl hown (mvT hZ (hw _ (List.mem_of_getElem? (i := 137) rfl))) (mvT hZ (hw _ (List.mem_of_getElem? (i := 35) rfl))) (mvT hZ (hw _ (List.mem_of_getElem? (i := 39) rfl))) (by decide) (backOf (W := 0) (rm6 l Z a0 hw [] p0 h0 n0 Z0) hZ (hw _ (List.mem_of_getElem? (i := 39) rfl)) (hw _ (List.mem_of_getElem? (i := 38) rfl)) (by decide) (by decide)) (g := (mkF m 1 #[.val (.ref p0)] [(.ref p0)])) rfl (by rw [hml]; rfl) (Steps.refl _) (a := p0) (argsL := []) (rest := []) (lenOf pd_0 rfl) rfl (by show 2 * 0 + _ ≤ _; exact Nat.le_of_eq rfl) (hb hby d17_1) (fun _ _ => ⟨rfl, e0, (by decide : 0 + 0 ≤ _), (by decide : 0 + 0 ≤ _)⟩)
  dsimp only [Pt.U, Pt.locs, Pt.cells, Pt.slots] at X3 l3 y3 z3 st3 hQ3
  rw [y3, z3] at X3
  have X3 : Stand _ _ _ _ _ _ _ _ _ _ T3 L3 0 0 := X3
  obtain ⟨rfl, N3q, e3⟩ := hQ3
  have N3 : Fr n0 L3 := by rw [l3]; exact Fr.app N0 N3q
  refine own_via (T3.setTop (mkF m 4 #[.val (.ref p0)] [])) (fun t k => st3.trans k) ?_
  refine own_leave X3 Bd.notSynchronized (v := none) (fun _ => rfl) (fun fs hr => X3.returnOut hx Bd.returns (hb hby d17_4) hr) ?_ (by decide) (by decide)
  refine ⟨?_, N3, e3⟩
  rfl
def own_Q5 (Z : State) (p0 : Addr)  (h0 : Heap) (n0 : Nat) (v : Option Value) (h : Heap) (L : List Loc) : Prop := v = none ∧ Fr n0 L ∧ Keep h0 h [p0] ∧ Exa Z h p0 "java/util/ArrayList" ∧ Fld Z h p0 "java/util/AbstractList" "modCount" "I" (.int (0 : Int32)) ∧ Fld Z h p0 "java/util/ArrayList" "elementData" "[Ljava/lang/Object;" .null ∧ Fld Z h p0 "java/util/ArrayList" "size" "I" (.int (0 : Int32))
theorem d5_0 : decode jdk_39_method_1_code 0 = .ok (.aload_n 0, 1) := by decide +kernel
theorem d5_1 : decode jdk_39_method_1_code 1 = .ok (.invokespecial 1, 3) := by decide +kernel
theorem d5_4 : decode jdk_39_method_1_code 4 = .ok (.aload_n 0, 1) := by decide +kernel
theorem d5_5 : decode jdk_39_method_1_code 5 = .ok (.iconst 0, 1) := by decide +kernel
theorem d5_6 : decode jdk_39_method_1_code 6 = .ok (.putfield 7, 3) := by decide +kernel
theorem d5_9 : decode jdk_39_method_1_code 9 = .ok (.return_, 1) := by decide +kernel
theorem pn_java_util_AbstractList : plainName "java/util/AbstractList" = true := by first | (simp [plainName, overriddenIn]; done) | decide +kernel
theorem ef_5 (m : MethodId) (p0 : Addr) : entryFrame m #[(.ref p0)] 1 = mkF m 0 #[.val (.ref p0)] [] := by first | (simp [entryFrame, mkF, argsToLocals, Value.category]; done) | rfl
set_option maxRecDepth 65536 in
set_option maxHeartbeats 40000000 in
theorem rm5 (l : Launch) (Z : State) (a0 : Array Value) (hw : ∀ d ∈ tables_1, d.before a0 Z = true) (ws : List Jvm.Cond) (p0 : Addr) (h0 : Heap) (n0 : Nat) (Z0 : n0 ≤ h0.size) (P0 : Exa Z h0 p0 "java/util/ArrayList") (P1 : Fld Z h0 p0 "java/util/AbstractList" "modCount" "I" (.int (0 : Int32))) (P2 : Fld Z h0 p0 "java/util/ArrayList" "elementData" "[Ljava/lang/Object;" .null) (P3 : Fld Z h0 p0 "java/util/ArrayList" "size" "I" (.int (0 : Int32))) (gg_p0 : n0 ≤ p0) :
    MetFree l (⟨"java/util/AbstractList", "<init>", "()V"⟩ : MethodName) (head1 (Jvm.Cond.code (⟨"java/util/AbstractList", "<init>", "()V"⟩ : MethodName) jdk_39_method_1_code 1 none :: ws) ({ frames := 2, cells := 0, slots := 0, locals := 24 } : Room)) (fun a U => a = #[(.ref p0)] ∧ Z.Warmed39 U.vm ∧ U.heap = h0) (fun _ _ _ _ _ => True) (fun _ U o U' => ∃ v L, o = .returned v ∧ (own_Q5 Z p0  h0 n0) v U'.heap L ∧ FrameEnd U o U' L ({ frames := 2, cells := 0, slots := 0, locals := 24 } : Room).cells ({ frames := 2, cells := 0, slots := 0, locals := 24 } : Room).slots) := by
  refine MetFree.of_bodySF (plainFor_of_name pn_java_util_AbstractList) hisR ?_
  intro p e s m args below meth c s₁ Bd hml0 hP hK
  obtain ⟨rfl, hZ, hh⟩ := hP
  have hx := Bd.exec
  have hby := Bd.bytes
  have hml : c.maxLocals = 1 := hml0
  have hown : s.vm.findClass "java/util/AbstractList" = some m.cls := findClass_of_methodNamed Bd.named
  have hnm := (name_of_methodNamed Bd.named Bd.method).1
  have X0 : Stand p l e ({ frames := 2, cells := 0, slots := 0, locals := 24 } : Room) s m #[(.ref p0)] below meth c s₁ [] 0 0 := Stand.of_body Bd
  have e0 : s₁.heap = h0 := by rw [← hh, Bd.state]; rfl
  have N0 := Fr.nil n0
  refine own_body (QQ := (own_Q5 Z p0  h0 n0)) (ef_5 m p0) ?_
  refine own_via (s₁.setTop (mkF m 1 #[.val (.ref p0)] [(.ref p0)])) (fun t k => XS.aloadN X0.here hx rfl (hb hby d5_0) rfl rfl k) ?_
  obtain ⟨_, _, ⟨T4, L4, k4, n4⟩, -, X4, ⟨Lc4, hQ4, l4, y4, z4⟩, st4⟩ := X0.specialBack hx (y := (⟨"java/util/AbstractCollection", "<init>", "()V"⟩ : MethodName)) rfl hown (mvT hZ (hw _ (List.mem_of_getElem? (i := 34) rfl))) (mvT hZ (hw _ (List.mem_of_getElem? (i := 35) rfl))) (mvT hZ (hw _ (List.mem_of_getElem? (i := 39) rfl))) (by decide) (backOf (W := 0) (rm6 l Z a0 hw [] p0 h0 n0 (Nat.le_trans Z0 (Keep.refl h0 [p0]).1)) hZ (hw _ (List.mem_of_getElem? (i := 39) rfl)) (hw _ (List.mem_of_getElem? (i := 38) rfl)) (by decide) (by decide)) (g := (mkF m 1 #[.val (.ref p0)] [(.ref p0)])) rfl (by rw [hml]; rfl) (Steps.refl _) (a := p0) (argsL := []) (rest := []) (lenOf pd_0 rfl) rfl (by show 2 * 0 + _ ≤ _; exact Nat.le_of_eq rfl) (hb hby d5_1) (fun _ _ => ⟨rfl, e0, (by decide : 0 + 0 ≤ _), (by decide : 0 + 0 ≤ _)⟩)
  dsimp only [Pt.U, Pt.locs, Pt.cells, Pt.slots] at X4 l4 y4 z4 st4 hQ4
  rw [y4, z4] at X4
  have X4 : Stand _ _ _ _ _ _ _ _ _ _ T4 L4 0 0 := X4
  obtain ⟨rfl, N4q, e4⟩ := hQ4
  have N4 : Fr n0 L4 := by rw [l4]; exact Fr.app N0 N4q
  refine own_via (T4.setTop (mkF m 4 #[.val (.ref p0)] [])) (fun t k => st4.trans k) ?_
  refine own_via (T4.setTop (mkF m 5 #[.val (.ref p0)] [(.ref p0)])) (fun t k => XS.aloadN X4.here hx rfl (hb hby d5_4) rfl rfl k) ?_
  refine own_via (T4.setTop (mkF m 6 #[.val (.ref p0)] [(.int (0 : Int32)), (.ref p0)])) (fun t k => XS.iconst X4.here hx rfl (hb hby d5_5) k) ?_
  obtain ⟨T5, h5, X5, e5, W5, st5⟩ := putF X4 hx hZ hown (host := "") (Or.inl (hw _ (List.mem_of_getElem? (i := 41) rfl))) Via.refl e4 P1 P0 (Or.inl (hw _ (List.mem_of_getElem? (i := 42) rfl))) (hw _ (List.mem_of_getElem? (i := 23) rfl)) (ty := .int) (by decide) rfl rfl (g := (mkF m 6 #[.val (.ref p0)] [(.int (0 : Int32)), (.ref p0)])) rfl rfl (hb hby d5_6)
  have Fw5 := P1.same W5
  have N5 := Fr.snoc X5 N4 gg_p0
  have K6 : Keep h0 h5 [p0] := (Keep.refl h0 [p0]).wr W5 (Or.inl (List.mem_of_getElem? (i := 0) rfl))
  refine own_via (T5.setTop (mkF m 9 #[.val (.ref p0)] [])) (fun t k => st5 t k) ?_
  refine own_leave X5 Bd.notSynchronized (v := none) (fun _ => rfl) (fun fs hr => X5.returnOut hx Bd.returns (hb hby d5_9) hr) ?_ (by decide) (by decide)
  have F7 := (P0.wr W5)
  have F8 := (P2.other W5 (Or.inr (slot_ne (Or.inl (hw _ (List.mem_of_getElem? (i := 45) rfl))) (Or.inl (hw _ (List.mem_of_getElem? (i := 42) rfl))) (by decide) (t := (.array (.object "java/lang/Object"))) (t' := .int) (by decide) (by decide))))
  have F9 := (P3.other W5 (Or.inr (slot_ne (Or.inl (hw _ (List.mem_of_getElem? (i := 106) rfl))) (Or.inl (hw _ (List.mem_of_getElem? (i := 42) rfl))) (by decide) (t := .int) (t' := .int) (by decide) (by decide))))
  show (own_Q5 Z p0  h0 n0) _ T5.heap _
  rw [e5]
  exact ⟨rfl, N5, K6, F7, Fw5, F8, F9⟩
def own_Q4 (Z : State) (p0 : Addr) (dA : Addr) (h0 : Heap) (n0 : Nat) (v : Option Value) (h : Heap) (L : List Loc) : Prop := v = none ∧ Fr n0 L ∧ Keep h0 h [p0] ∧ Exa Z h p0 "java/util/ArrayList" ∧ Fld Z h p0 "java/util/AbstractList" "modCount" "I" (.int (0 : Int32)) ∧ Fld Z h p0 "java/util/ArrayList" "elementData" "[Ljava/lang/Object;" (.ref dA) ∧ Fld Z h p0 "java/util/ArrayList" "size" "I" (.int (0 : Int32))
theorem d4_0 : decode jdk_38_method_2_code 0 = .ok (.aload_n 0, 1) := by decide +kernel
theorem d4_1 : decode jdk_38_method_2_code 1 = .ok (.invokespecial 1, 3) := by decide +kernel
theorem d4_4 : decode jdk_38_method_2_code 4 = .ok (.aload_n 0, 1) := by decide +kernel
theorem d4_5 : decode jdk_38_method_2_code 5 = .ok (.getstatic 39, 3) := by decide +kernel
theorem d4_8 : decode jdk_38_method_2_code 8 = .ok (.putfield 9, 3) := by decide +kernel
theorem d4_11 : decode jdk_38_method_2_code 11 = .ok (.return_, 1) := by decide +kernel
theorem pn_java_util_ArrayList : plainName "java/util/ArrayList" = true := by first | (simp [plainName, overriddenIn]; done) | decide +kernel
theorem ef_4 (m : MethodId) (p0 : Addr) : entryFrame m #[(.ref p0)] 1 = mkF m 0 #[.val (.ref p0)] [] := by first | (simp [entryFrame, mkF, argsToLocals, Value.category]; done) | rfl
set_option maxRecDepth 65536 in
set_option maxHeartbeats 40000000 in
theorem rm4 (l : Launch) (Z : State) (a0 : Array Value) (hw : ∀ d ∈ tables_1, d.before a0 Z = true) (ws : List Jvm.Cond) (p0 : Addr) (h0 : Heap) (n0 : Nat) (Z0 : n0 ≤ h0.size) (dA : Addr) (P0 : Exa Z h0 p0 "java/util/ArrayList") (P1 : Fld Z h0 p0 "java/util/AbstractList" "modCount" "I" (.int (0 : Int32))) (P2 : Fld Z h0 p0 "java/util/ArrayList" "elementData" "[Ljava/lang/Object;" .null) (P3 : Fld Z h0 p0 "java/util/ArrayList" "size" "I" (.int (0 : Int32))) (P4 : Sta Z h0 "java/util/ArrayList" "DEFAULTCAPACITY_EMPTY_ELEMENTDATA" "[Ljava/lang/Object;" (.ref dA)) (gg_p0 : n0 ≤ p0) :
    MetFree l (⟨"java/util/ArrayList", "<init>", "()V"⟩ : MethodName) (head1 (Jvm.Cond.code (⟨"java/util/ArrayList", "<init>", "()V"⟩ : MethodName) jdk_38_method_2_code 1 none :: ws) ({ frames := 3, cells := 0, slots := 0, locals := 36 } : Room)) (fun a U => a = #[(.ref p0)] ∧ Z.Warmed39 U.vm ∧ U.heap = h0) (fun _ _ _ _ _ => True) (fun _ U o U' => ∃ v L, o = .returned v ∧ (own_Q4 Z p0 dA h0 n0) v U'.heap L ∧ FrameEnd U o U' L ({ frames := 3, cells := 0, slots := 0, locals := 36 } : Room).cells ({ frames := 3, cells := 0, slots := 0, locals := 36 } : Room).slots) := by
  refine MetFree.of_bodySF (plainFor_of_name pn_java_util_ArrayList) hisR ?_
  intro p e s m args below meth c s₁ Bd hml0 hP hK
  obtain ⟨rfl, hZ, hh⟩ := hP
  have hx := Bd.exec
  have hby := Bd.bytes
  have hml : c.maxLocals = 1 := hml0
  have hown : s.vm.findClass "java/util/ArrayList" = some m.cls := findClass_of_methodNamed Bd.named
  have hnm := (name_of_methodNamed Bd.named Bd.method).1
  have X0 : Stand p l e ({ frames := 3, cells := 0, slots := 0, locals := 36 } : Room) s m #[(.ref p0)] below meth c s₁ [] 0 0 := Stand.of_body Bd
  have e0 : s₁.heap = h0 := by rw [← hh, Bd.state]; rfl
  have N0 := Fr.nil n0
  refine own_body (QQ := (own_Q4 Z p0 dA h0 n0)) (ef_4 m p0) ?_
  have hNS : ∀ x ∈ [p0], ∃ c : Cell, h0[x]? = some c ∧ c.vm.isStatics = false := by
    intro x hx
    rcases List.mem_cons.mp hx with e | hx
    · rw [e]; exact own_nsE P0
    exact nomatch hx
  refine own_via (s₁.setTop (mkF m 1 #[.val (.ref p0)] [(.ref p0)])) (fun t k => XS.aloadN X0.here hx rfl (hb hby d4_0) rfl rfl k) ?_
  obtain ⟨_, _, ⟨T10, L10, k10, n10⟩, -, X10, ⟨Lc10, hQ10, l10, y10, z10⟩, st10⟩ := X0.specialBack hx (y := (⟨"java/util/AbstractList", "<init>", "()V"⟩ : MethodName)) rfl hown (mvT hZ (hw _ (List.mem_of_getElem? (i := 28) rfl))) (mvT hZ (hw _ (List.mem_of_getElem? (i := 29) rfl))) (mvT hZ (hw _ (List.mem_of_getElem? (i := 33) rfl))) (by decide) (backOf (W := 0) (rm5 l Z a0 hw [] p0 h0 n0 (Nat.le_trans Z0 (Keep.refl h0 [p0]).1) P0 P1 P2 P3 gg_p0) hZ (hw _ (List.mem_of_getElem? (i := 33) rfl)) (hw _ (List.mem_of_getElem? (i := 32) rfl)) (by decide) (by decide)) (g := (mkF m 1 #[.val (.ref p0)] [(.ref p0)])) rfl (by rw [hml]; rfl) (Steps.refl _) (a := p0) (argsL := []) (rest := []) (lenOf pd_0 rfl) rfl (by show 2 * 0 + _ ≤ _; exact Nat.le_of_eq rfl) (hb hby d4_1) (fun _ _ => ⟨rfl, e0, (by decide : 0 + 0 ≤ _), (by decide : 0 + 0 ≤ _)⟩)
  dsimp only [Pt.U, Pt.locs, Pt.cells, Pt.slots] at X10 l10 y10 z10 st10 hQ10
  rw [y10, z10] at X10
  have X10 : Stand _ _ _ _ _ _ _ _ _ _ T10 L10 0 0 := X10
  obtain ⟨h10, e10⟩ : ∃ h, T10.heap = h := ⟨_, rfl⟩
  rw [e10] at hQ10
  obtain ⟨rfl, N10q, K10q, G10_0, G10_1, G10_2, G10_3⟩ := hQ10
  have N10 : Fr n0 L10 := by rw [l10]; exact Fr.app N0 N10q
  have K11 : Keep h0 h10 [p0] := (Keep.refl h0 [p0]).trans K10q (fun x hx => (List.mem_cons.mp hx).elim (fun e => e ▸ Or.inl (List.mem_of_getElem? (i := 0) rfl)) (fun hx => nomatch hx))
  refine own_via (T10.setTop (mkF m 4 #[.val (.ref p0)] [])) (fun t k => st10.trans k) ?_
  refine own_via (T10.setTop (mkF m 5 #[.val (.ref p0)] [(.ref p0)])) (fun t k => XS.aloadN X10.here hx rfl (hb hby d4_4) rfl rfl k) ?_
  obtain ⟨T12, X12, e12, st12⟩ := getS2 X10 hx hZ hown (host := "") (Or.inl (hw _ (List.mem_of_getElem? (i := 43) rfl))) Via.refl e10 (own_stakeepW P4 hNS K11) (g := (mkF m 5 #[.val (.ref p0)] [(.ref p0)])) rfl (hb hby d4_5)
  refine own_via (T12.setTop (mkF m 8 #[.val (.ref p0)] [(.ref dA), (.ref p0)])) (fun t k => st12 t k) ?_
  obtain ⟨T13, h13, X13, e13, W13, st13⟩ := putF X12 hx hZ hown (host := "") (Or.inl (hw _ (List.mem_of_getElem? (i := 44) rfl))) Via.refl e12 G10_2 G10_0 (Or.inl (hw _ (List.mem_of_getElem? (i := 45) rfl))) (hw _ (List.mem_of_getElem? (i := 23) rfl)) (ty := (.array (.object "java/lang/Object"))) (by decide) rfl rfl (g := (mkF m 8 #[.val (.ref p0)] [(.ref dA), (.ref p0)])) rfl rfl (hb hby d4_8)
  have Fw13 := G10_2.same W13
  have N13 := Fr.snoc X13 N10 gg_p0
  have K14 : Keep h0 h13 [p0] := K11.wr W13 (Or.inl (List.mem_of_getElem? (i := 0) rfl))
  refine own_via (T13.setTop (mkF m 11 #[.val (.ref p0)] [])) (fun t k => st13 t k) ?_
  refine own_leave X13 Bd.notSynchronized (v := none) (fun _ => rfl) (fun fs hr => X13.returnOut hx Bd.returns (hb hby d4_11) hr) ?_ (by decide) (by decide)
  have F15 := (G10_0.wr W13)
  have F16 := (G10_1.other W13 (Or.inr (slot_ne (Or.inl (hw _ (List.mem_of_getElem? (i := 42) rfl))) (Or.inl (hw _ (List.mem_of_getElem? (i := 45) rfl))) (by decide) (t := .int) (t' := (.array (.object "java/lang/Object"))) (by decide) (by decide))))
  have F17 := (G10_3.other W13 (Or.inr (slot_ne (Or.inl (hw _ (List.mem_of_getElem? (i := 106) rfl))) (Or.inl (hw _ (List.mem_of_getElem? (i := 45) rfl))) (by decide) (t := .int) (t' := (.array (.object "java/lang/Object"))) (by decide) (by decide))))
  show (own_Q4 Z p0 dA h0 n0) _ T13.heap _
  rw [e13]
  exact ⟨rfl, N13, K14, F15, F16, Fw13, F17⟩
def own_Q11 (Z : State) (p0 : Addr) (p1 : Addr) (mc : Int32) (h0 : Heap) (n0 : Nat) (v : Option Value) (h : Heap) (L : List Loc) : Prop := v = none ∧ Fr n0 L ∧ Keep h0 h [p0] ∧ Exa Z h p0 "java/util/ArrayList$Itr" ∧ Fld Z h p0 "java/util/ArrayList$Itr" "this$0" "Ljava/util/ArrayList;" (.ref p1) ∧ Fld Z h p0 "java/util/ArrayList$Itr" "cursor" "I" (.int (0 : Int32)) ∧ Fld Z h p0 "java/util/ArrayList$Itr" "lastRet" "I" (.int (-1 : Int32)) ∧ Fld Z h p0 "java/util/ArrayList$Itr" "expectedModCount" "I" (.int mc)
theorem d11_0 : decode jdk_49_method_1_code 0 = .ok (.aload_n 0, 1) := by decide +kernel
theorem d11_1 : decode jdk_49_method_1_code 1 = .ok (.aload_n 1, 1) := by decide +kernel
theorem d11_2 : decode jdk_49_method_1_code 2 = .ok (.putfield 1, 3) := by decide +kernel
theorem d11_5 : decode jdk_49_method_1_code 5 = .ok (.aload_n 0, 1) := by decide +kernel
theorem d11_6 : decode jdk_49_method_1_code 6 = .ok (.invokespecial 7, 3) := by decide +kernel
theorem d11_9 : decode jdk_49_method_1_code 9 = .ok (.aload_n 0, 1) := by decide +kernel
theorem d11_10 : decode jdk_49_method_1_code 10 = .ok (.iconst (-1), 1) := by decide +kernel
theorem d11_11 : decode jdk_49_method_1_code 11 = .ok (.putfield 13, 3) := by decide +kernel
theorem d11_14 : decode jdk_49_method_1_code 14 = .ok (.aload_n 0, 1) := by decide +kernel
theorem d11_15 : decode jdk_49_method_1_code 15 = .ok (.aload_n 0, 1) := by decide +kernel
theorem d11_16 : decode jdk_49_method_1_code 16 = .ok (.getfield 1, 3) := by decide +kernel
theorem d11_19 : decode jdk_49_method_1_code 19 = .ok (.getfield 17, 3) := by decide +kernel
theorem d11_22 : decode jdk_49_method_1_code 22 = .ok (.putfield 22, 3) := by decide +kernel
theorem d11_25 : decode jdk_49_method_1_code 25 = .ok (.return_, 1) := by decide +kernel
theorem pn_java_util_ArrayList_Itr : plainName "java/util/ArrayList$Itr" = true := by first | (simp [plainName, overriddenIn]; done) | decide +kernel
theorem ef_11 (m : MethodId) (p0 : Addr) (p1 : Addr) : entryFrame m #[(.ref p0), (.ref p1)] 2 = mkF m 0 #[.val (.ref p0), .val (.ref p1)] [] := by first | (simp [entryFrame, mkF, argsToLocals, Value.category]; done) | rfl
set_option maxRecDepth 65536 in
set_option maxHeartbeats 40000000 in
theorem rm11 (l : Launch) (Z : State) (a0 : Array Value) (hw : ∀ d ∈ tables_1, d.before a0 Z = true) (ws : List Jvm.Cond) (p0 : Addr) (p1 : Addr) (h0 : Heap) (n0 : Nat) (Z0 : n0 ≤ h0.size) (mc : Int32) (P0 : Exa Z h0 p0 "java/util/ArrayList$Itr") (P1 : Fld Z h0 p0 "java/util/ArrayList$Itr" "this$0" "Ljava/util/ArrayList;" .null) (P2 : Fld Z h0 p0 "java/util/ArrayList$Itr" "cursor" "I" (.int (0 : Int32))) (P3 : Fld Z h0 p0 "java/util/ArrayList$Itr" "lastRet" "I" (.int (0 : Int32))) (P4 : Fld Z h0 p0 "java/util/ArrayList$Itr" "expectedModCount" "I" (.int (0 : Int32))) (P5 : Fld Z h0 p1 "java/util/AbstractList" "modCount" "I" (.int mc)) (gg_p0 : n0 ≤ p0) (hne : p1 ≠ p0) :
    MetFree l (⟨"java/util/ArrayList$Itr", "<init>", "(Ljava/util/ArrayList;)V"⟩ : MethodName) (head1 (Jvm.Cond.code (⟨"java/util/ArrayList$Itr", "<init>", "(Ljava/util/ArrayList;)V"⟩ : MethodName) jdk_49_method_1_code 2 none :: ws) ({ frames := 1, cells := 0, slots := 0, locals := 12 } : Room)) (fun a U => a = #[(.ref p0), (.ref p1)] ∧ Z.Warmed39 U.vm ∧ U.heap = h0) (fun _ _ _ _ _ => True) (fun _ U o U' => ∃ v L, o = .returned v ∧ (own_Q11 Z p0 p1 mc h0 n0) v U'.heap L ∧ FrameEnd U o U' L ({ frames := 1, cells := 0, slots := 0, locals := 12 } : Room).cells ({ frames := 1, cells := 0, slots := 0, locals := 12 } : Room).slots) := by
  refine MetFree.of_bodySF (plainFor_of_name pn_java_util_ArrayList_Itr) hisR ?_
  intro p e s m args below meth c s₁ Bd hml0 hP hK
  obtain ⟨rfl, hZ, hh⟩ := hP
  have hx := Bd.exec
  have hby := Bd.bytes
  have hml : c.maxLocals = 2 := hml0
  have hown : s.vm.findClass "java/util/ArrayList$Itr" = some m.cls := findClass_of_methodNamed Bd.named
  have hnm := (name_of_methodNamed Bd.named Bd.method).1
  have X0 : Stand p l e ({ frames := 1, cells := 0, slots := 0, locals := 12 } : Room) s m #[(.ref p0), (.ref p1)] below meth c s₁ [] 0 0 := Stand.of_body Bd
  have e0 : s₁.heap = h0 := by rw [← hh, Bd.state]; rfl
  have N0 := Fr.nil n0
  refine own_body (QQ := (own_Q11 Z p0 p1 mc h0 n0)) (ef_11 m p0 p1) ?_
  refine own_via (s₁.setTop (mkF m 1 #[.val (.ref p0), .val (.ref p1)] [(.ref p0)])) (fun t k => XS.aloadN X0.here hx rfl (hb hby d11_0) rfl rfl k) ?_
  refine own_via (s₁.setTop (mkF m 2 #[.val (.ref p0), .val (.ref p1)] [(.ref p1), (.ref p0)])) (fun t k => XS.aloadN X0.here hx rfl (hb hby d11_1) rfl rfl k) ?_
  obtain ⟨T18, h18, X18, e18, W18, st18⟩ := putF X0 hx hZ hown (host := "") (Or.inl (hw _ (List.mem_of_getElem? (i := 85) rfl))) Via.refl e0 P1 P0 (Or.inr ⟨(hw _ (List.mem_of_getElem? (i := 86) rfl)), rfl, hnm⟩) (hw _ (List.mem_of_getElem? (i := 79) rfl)) (ty := (.object "java/util/ArrayList")) (by decide) rfl rfl (g := (mkF m 2 #[.val (.ref p0), .val (.ref p1)] [(.ref p1), (.ref p0)])) rfl rfl (hb hby d11_2)
  have Fw18 := P1.same W18
  have N18 := Fr.snoc X18 N0 gg_p0
  have K19 : Keep h0 h18 [p0] := (Keep.refl h0 [p0]).wr W18 (Or.inl (List.mem_of_getElem? (i := 0) rfl))
  refine own_via (T18.setTop (mkF m 5 #[.val (.ref p0), .val (.ref p1)] [])) (fun t k => st18 t k) ?_
  refine own_via (T18.setTop (mkF m 6 #[.val (.ref p0), .val (.ref p1)] [(.ref p0)])) (fun t k => XS.aloadN X18.here hx rfl (hb hby d11_5) rfl rfl k) ?_
  obtain ⟨T20, X20, e20, st20⟩ := initO X18 hx hZ hown (hw _ (List.mem_of_getElem? (i := 87) rfl)) (hw _ (List.mem_of_getElem? (i := 8) rfl)) (hw _ (List.mem_of_getElem? (i := 9) rfl)) e18 (g := (mkF m 6 #[.val (.ref p0), .val (.ref p1)] [(.ref p0)])) rfl (by rw [hml]; rfl) rfl (hb hby d11_6) (by decide) (W := 0) (by show 2 * 0 + _ ≤ _; exact Nat.le_of_eq rfl) (by decide)
  refine own_via (T20.setTop (mkF m 9 #[.val (.ref p0), .val (.ref p1)] [])) (fun t k => st20 t k) ?_
  refine own_via (T20.setTop (mkF m 10 #[.val (.ref p0), .val (.ref p1)] [(.ref p0)])) (fun t k => XS.aloadN X20.here hx rfl (hb hby d11_9) rfl rfl k) ?_
  refine own_via (T20.setTop (mkF m 11 #[.val (.ref p0), .val (.ref p1)] [(.int (-1 : Int32)), (.ref p0)])) (fun t k => XS.iconst X20.here hx rfl (hb hby d11_10) k) ?_
  have F22 := (P3.other W18 (Or.inr (slot_ne (Or.inl (hw _ (List.mem_of_getElem? (i := 89) rfl))) (Or.inr (hw _ (List.mem_of_getElem? (i := 86) rfl))) (by decide) (t := .int) (t' := (.object "java/util/ArrayList")) (by decide) (by decide))))
  have F23 := (P0.wr W18)
  obtain ⟨T21, h21, X21, e21, W21, st21⟩ := putF X20 hx hZ hown (host := "") (Or.inl (hw _ (List.mem_of_getElem? (i := 88) rfl))) Via.refl e20 F22 F23 (Or.inl (hw _ (List.mem_of_getElem? (i := 89) rfl))) (hw _ (List.mem_of_getElem? (i := 79) rfl)) (ty := .int) (by decide) rfl rfl (g := (mkF m 11 #[.val (.ref p0), .val (.ref p1)] [(.int (-1 : Int32)), (.ref p0)])) rfl rfl (hb hby d11_11)
  have Fw21 := F22.same W21
  have N21 := Fr.snoc X21 N18 gg_p0
  have K24 : Keep h0 h21 [p0] := K19.wr W21 (Or.inl (List.mem_of_getElem? (i := 0) rfl))
  refine own_via (T21.setTop (mkF m 14 #[.val (.ref p0), .val (.ref p1)] [])) (fun t k => st21 t k) ?_
  refine own_via (T21.setTop (mkF m 15 #[.val (.ref p0), .val (.ref p1)] [(.ref p0)])) (fun t k => XS.aloadN X21.here hx rfl (hb hby d11_14) rfl rfl k) ?_
  refine own_via (T21.setTop (mkF m 16 #[.val (.ref p0), .val (.ref p1)] [(.ref p0), (.ref p0)])) (fun t k => XS.aloadN X21.here hx rfl (hb hby d11_15) rfl rfl k) ?_
  have F26 := (Fw18.other W21 (Or.inr (slot_ne (Or.inr (hw _ (List.mem_of_getElem? (i := 86) rfl))) (Or.inl (hw _ (List.mem_of_getElem? (i := 89) rfl))) (by decide) (t := (.object "java/util/ArrayList")) (t' := .int) (by decide) (by decide))))
  obtain ⟨T25, X25, e25, st25⟩ := getF X21 hx hZ hown (host := "") (Or.inl (hw _ (List.mem_of_getElem? (i := 85) rfl))) Via.refl e21 F26 (g := (mkF m 16 #[.val (.ref p0), .val (.ref p1)] [(.ref p0), (.ref p0)])) rfl rfl (hb hby d11_16)
  refine own_via (T25.setTop (mkF m 19 #[.val (.ref p0), .val (.ref p1)] [(.ref p1), (.ref p0)])) (fun t k => st25 t k) ?_
  have F28 := ((P5.other W18 (Or.inl hne)).other W21 (Or.inl hne))
  obtain ⟨T27, X27, e27, st27⟩ := getF X25 hx hZ hown (host := "") (Or.inl (hw _ (List.mem_of_getElem? (i := 90) rfl))) (Via.of (hw _ (List.mem_of_getElem? (i := 91) rfl))) e25 F28 (g := (mkF m 19 #[.val (.ref p0), .val (.ref p1)] [(.ref p1), (.ref p0)])) rfl rfl (hb hby d11_19)
  refine own_via (T27.setTop (mkF m 22 #[.val (.ref p0), .val (.ref p1)] [(.int mc), (.ref p0)])) (fun t k => st27 t k) ?_
  have F30 := ((P4.other W18 (Or.inr (slot_ne (Or.inl (hw _ (List.mem_of_getElem? (i := 93) rfl))) (Or.inr (hw _ (List.mem_of_getElem? (i := 86) rfl))) (by decide) (t := .int) (t' := (.object "java/util/ArrayList")) (by decide) (by decide)))).other W21 (Or.inr (slot_ne (Or.inl (hw _ (List.mem_of_getElem? (i := 93) rfl))) (Or.inl (hw _ (List.mem_of_getElem? (i := 89) rfl))) (by decide) (t := .int) (t' := .int) (by decide) (by decide))))
  have F31 := (F23.wr W21)
  obtain ⟨T29, h29, X29, e29, W29, st29⟩ := putF X27 hx hZ hown (host := "") (Or.inl (hw _ (List.mem_of_getElem? (i := 92) rfl))) Via.refl e27 F30 F31 (Or.inl (hw _ (List.mem_of_getElem? (i := 93) rfl))) (hw _ (List.mem_of_getElem? (i := 79) rfl)) (ty := .int) (by decide) rfl rfl (g := (mkF m 22 #[.val (.ref p0), .val (.ref p1)] [(.int mc), (.ref p0)])) rfl rfl (hb hby d11_22)
  have Fw29 := F30.same W29
  have N29 := Fr.snoc X29 N21 gg_p0
  have K32 : Keep h0 h29 [p0] := K24.wr W29 (Or.inl (List.mem_of_getElem? (i := 0) rfl))
  refine own_via (T29.setTop (mkF m 25 #[.val (.ref p0), .val (.ref p1)] [])) (fun t k => st29 t k) ?_
  refine own_leave X29 Bd.notSynchronized (v := none) (fun _ => rfl) (fun fs hr => X29.returnOut hx Bd.returns (hb hby d11_25) hr) ?_ (by decide) (by decide)
  have F33 := (F31.wr W29)
  have F34 := (F26.other W29 (Or.inr (slot_ne (Or.inr (hw _ (List.mem_of_getElem? (i := 86) rfl))) (Or.inl (hw _ (List.mem_of_getElem? (i := 93) rfl))) (by decide) (t := (.object "java/util/ArrayList")) (t' := .int) (by decide) (by decide))))
  have F35 := (((P2.other W18 (Or.inr (slot_ne (Or.inl (hw _ (List.mem_of_getElem? (i := 104) rfl))) (Or.inr (hw _ (List.mem_of_getElem? (i := 86) rfl))) (by decide) (t := .int) (t' := (.object "java/util/ArrayList")) (by decide) (by decide)))).other W21 (Or.inr (slot_ne (Or.inl (hw _ (List.mem_of_getElem? (i := 104) rfl))) (Or.inl (hw _ (List.mem_of_getElem? (i := 89) rfl))) (by decide) (t := .int) (t' := .int) (by decide) (by decide)))).other W29 (Or.inr (slot_ne (Or.inl (hw _ (List.mem_of_getElem? (i := 104) rfl))) (Or.inl (hw _ (List.mem_of_getElem? (i := 93) rfl))) (by decide) (t := .int) (t' := .int) (by decide) (by decide))))
  have F36 := (Fw21.other W29 (Or.inr (slot_ne (Or.inl (hw _ (List.mem_of_getElem? (i := 89) rfl))) (Or.inl (hw _ (List.mem_of_getElem? (i := 93) rfl))) (by decide) (t := .int) (t' := .int) (by decide) (by decide))))
  show (own_Q11 Z p0 p1 mc h0 n0) _ T29.heap _
  rw [e29]
  exact ⟨rfl, N29, K32, F33, F34, F35, F36, Fw29⟩
def own_Q10 (Z : State) (p0 : Addr) (mc : Int32) (h0 : Heap) (n0 : Nat) (v : Option Value) (h : Heap) (L : List Loc) : Prop := ∃ (r : Addr), v = some (.ref r) ∧ Fr n0 L ∧ Keep h0 h [] ∧ n0 ≤ r ∧ h0.size ≤ r ∧ Exa Z h r "java/util/ArrayList$Itr" ∧ Fld Z h r "java/util/ArrayList$Itr" "this$0" "Ljava/util/ArrayList;" (.ref p0) ∧ Fld Z h r "java/util/ArrayList$Itr" "cursor" "I" (.int (0 : Int32)) ∧ Fld Z h r "java/util/ArrayList$Itr" "lastRet" "I" (.int (-1 : Int32)) ∧ Fld Z h r "java/util/ArrayList$Itr" "expectedModCount" "I" (.int mc)
theorem d10_0 : decode jdk_38_method_55_code 0 = .ok (.new 267, 3) := by decide +kernel
theorem d10_3 : decode jdk_38_method_55_code 3 = .ok (.dup, 1) := by decide +kernel
theorem d10_4 : decode jdk_38_method_55_code 4 = .ok (.aload_n 0, 1) := by decide +kernel
theorem d10_5 : decode jdk_38_method_55_code 5 = .ok (.invokespecial 269, 3) := by decide +kernel
theorem d10_8 : decode jdk_38_method_55_code 8 = .ok (.areturn, 1) := by decide +kernel
theorem pd_1 : parseMethodDescriptor "(Ljava/util/ArrayList;)V" = some ⟨[(.object "java/util/ArrayList")], none⟩ := by decide +kernel
theorem ef_10 (m : MethodId) (p0 : Addr) : entryFrame m #[(.ref p0)] 1 = mkF m 0 #[.val (.ref p0)] [] := by first | (simp [entryFrame, mkF, argsToLocals, Value.category]; done) | rfl
set_option maxRecDepth 65536 in
set_option maxHeartbeats 40000000 in
theorem rm10 (l : Launch) (Z : State) (a0 : Array Value) (hw : ∀ d ∈ tables_1, d.before a0 Z = true) (ws : List Jvm.Cond) (p0 : Addr) (h0 : Heap) (n0 : Nat) (Z0 : n0 ≤ h0.size) (mc : Int32) (P0 : Fld Z h0 p0 "java/util/AbstractList" "modCount" "I" (.int mc)) :
    MetFree l (⟨"java/util/ArrayList", "iterator", "()Ljava/util/Iterator;"⟩ : MethodName) (head1 (Jvm.Cond.code (⟨"java/util/ArrayList", "iterator", "()Ljava/util/Iterator;"⟩ : MethodName) jdk_38_method_55_code 1 (some (.object "java/util/Iterator")) :: ws) ({ frames := 2, cells := 1, slots := 4, locals := 26 } : Room)) (fun a U => a = #[(.ref p0)] ∧ Z.Warmed39 U.vm ∧ U.heap = h0) (fun _ _ _ _ _ => True) (fun _ U o U' => ∃ v L, o = .returned v ∧ (own_Q10 Z p0 mc h0 n0) v U'.heap L ∧ FrameEnd U o U' L ({ frames := 2, cells := 1, slots := 4, locals := 26 } : Room).cells ({ frames := 2, cells := 1, slots := 4, locals := 26 } : Room).slots) := by
  refine MetFree.of_bodySF (plainFor_of_name pn_java_util_ArrayList) hisR ?_
  intro p e s m args below meth c s₁ Bd hml0 hP hK
  obtain ⟨rfl, hZ, hh⟩ := hP
  have hx := Bd.exec
  have hby := Bd.bytes
  have hml : c.maxLocals = 1 := hml0
  have hown : s.vm.findClass "java/util/ArrayList" = some m.cls := findClass_of_methodNamed Bd.named
  have hnm := (name_of_methodNamed Bd.named Bd.method).1
  have X0 : Stand p l e ({ frames := 2, cells := 1, slots := 4, locals := 26 } : Room) s m #[(.ref p0)] below meth c s₁ [] 0 0 := Stand.of_body Bd
  have e0 : s₁.heap = h0 := by rw [← hh, Bd.state]; rfl
  have N0 := Fr.nil n0
  refine own_body (QQ := (own_Q10 Z p0 mc h0 n0)) (ef_10 m p0) ?_
  obtain ⟨T37, h37, X37, e37, E37, A37, D37, -, st37⟩ := newO X0 hx hZ hown (hw _ (List.mem_of_getElem? (i := 78) rfl)) (hw _ (List.mem_of_getElem? (i := 79) rfl)) (hw _ (List.mem_of_getElem? (i := 80) rfl)) e0 (g := (mkF m 0 #[.val (.ref p0)] [])) rfl (hb hby d10_0) (by decide) (by decide)
  obtain ⟨b37, g37⟩ : ∃ z, z = h0.size := ⟨_, rfl⟩
  rw [← g37] at A37 D37 st37
  have gg_b37 : n0 ≤ b37 := Nat.le_trans (Nat.le_trans Z0 (Keep.refl h0 []).1) (Nat.le_of_eq g37.symm)
  have sz_b37 : h0.size ≤ b37 := Nat.le_trans (Keep.refl h0 []).1 (Nat.le_of_eq g37.symm)
  have ne_p0_b37 : p0 ≠ b37 := Nat.ne_of_lt (Nat.lt_of_lt_of_le P0.lt (Nat.le_of_eq g37.symm))
  have F_this_0_b37 : Fld Z h37 b37 "java/util/ArrayList$Itr" "this$0" "Ljava/util/ArrayList;" .null := D37 (Or.inr (hw _ (List.mem_of_getElem? (i := 86) rfl))) (ty := (.object "java/util/ArrayList")) (by decide)
  have F_lastRet_b37 : Fld Z h37 b37 "java/util/ArrayList$Itr" "lastRet" "I" (.int (0 : Int32)) := D37 (Or.inl (hw _ (List.mem_of_getElem? (i := 89) rfl))) (ty := .int) (by decide)
  have F_expectedModCount_b37 : Fld Z h37 b37 "java/util/ArrayList$Itr" "expectedModCount" "I" (.int (0 : Int32)) := D37 (Or.inl (hw _ (List.mem_of_getElem? (i := 93) rfl))) (ty := .int) (by decide)
  have F_cursor_b37 : Fld Z h37 b37 "java/util/ArrayList$Itr" "cursor" "I" (.int (0 : Int32)) := D37 (Or.inl (hw _ (List.mem_of_getElem? (i := 104) rfl))) (ty := .int) (by decide)
  have K38 : Keep h0 h37 [] := (Keep.refl h0 []).ext E37
  refine own_via (T37.setTop (mkF m 3 #[.val (.ref p0)] [(.ref b37)])) (fun t k => st37 t k) ?_
  refine own_via (T37.setTop (mkF m 4 #[.val (.ref p0)] [(.ref b37), (.ref b37)])) (fun t k => XS.dup X37.here hx rfl (hb hby d10_3) rfl rfl k) ?_
  refine own_via (T37.setTop (mkF m 5 #[.val (.ref p0)] [(.ref p0), (.ref b37), (.ref b37)])) (fun t k => XS.aloadN X37.here hx rfl (hb hby d10_4) rfl rfl k) ?_
  have F40 := (P0.ext E37)
  obtain ⟨_, _, ⟨T39, L39, k39, n39⟩, -, X39, ⟨Lc39, hQ39, l39, y39, z39⟩, st39⟩ := X37.specialBack hx (y := (⟨"java/util/ArrayList$Itr", "<init>", "(Ljava/util/ArrayList;)V"⟩ : MethodName)) rfl hown (mvT hZ (hw _ (List.mem_of_getElem? (i := 81) rfl))) (mvT hZ (hw _ (List.mem_of_getElem? (i := 82) rfl))) (mvT hZ (hw _ (List.mem_of_getElem? (i := 84) rfl))) (by decide) (backOf (W := 1) (rm11 l Z a0 hw [] b37 p0 h37 n0 (Nat.le_trans Z0 K38.1) mc A37 F_this_0_b37 F_cursor_b37 F_lastRet_b37 F_expectedModCount_b37 F40 gg_b37 ne_p0_b37) hZ (hw _ (List.mem_of_getElem? (i := 84) rfl)) (hw _ (List.mem_of_getElem? (i := 80) rfl)) (by decide) (by decide)) (g := (mkF m 5 #[.val (.ref p0)] [(.ref p0), (.ref b37), (.ref b37)])) rfl (by rw [hml]; rfl) (Steps.refl _) (a := b37) (argsL := [(.ref p0)]) (rest := [(.ref b37)]) (lenOf pd_1 rfl) rfl (by show 2 * 0 + _ ≤ _; exact Nat.le_of_eq rfl) (hb hby d10_5) (fun _ _ => ⟨rfl, e37, (by decide : 1 + 0 ≤ _), (by decide : 4 + 0 ≤ _)⟩)
  dsimp only [Pt.U, Pt.locs, Pt.cells, Pt.slots] at X39 l39 y39 z39 st39 hQ39
  rw [y39, z39] at X39
  have X39 : Stand _ _ _ _ _ _ _ _ _ _ T39 L39 1 4 := X39
  obtain ⟨h39, e39⟩ : ∃ h, T39.heap = h := ⟨_, rfl⟩
  rw [e39] at hQ39
  obtain ⟨rfl, N39q, K39q, G39_0, G39_1, G39_2, G39_3, G39_4⟩ := hQ39
  have N39 : Fr n0 L39 := by rw [l39]; exact Fr.app N0 N39q
  have K41 : Keep h0 h39 [] := K38.trans K39q (fun x hx => (List.mem_cons.mp hx).elim (fun e => e ▸ Or.inr sz_b37) (fun hx => nomatch hx))
  refine own_via (T39.setTop (mkF m 8 #[.val (.ref p0)] [(.ref b37)])) (fun t k => st39.trans k) ?_
  refine own_leave X39 Bd.notSynchronized (v := some (.ref b37)) (fun h => by rw [Bd.returns] at h; cases h) (fun fs hr => retOut X39 hx Bd.returns rfl (Or.inr (Or.inr (Or.inr (Or.inr ⟨rfl, rfl, rfl⟩)))) (hb hby d10_8) hr) ?_ (by decide) (by decide)
  show (own_Q10 Z p0 mc h0 n0) _ T39.heap _
  rw [e39]
  exact ⟨b37, rfl, N39, K41, gg_b37, sz_b37, G39_0, G39_1, G39_2, G39_3, G39_4⟩
def own_Q12c00 (Z : State) (p0 : Addr) (q : Addr) (h0 : Heap) (n0 : Nat) (v : Option Value) (h : Heap) (L : List Loc) : Prop := v = some (.int (0 : Int32)) ∧ Fr n0 L ∧ h = h0
theorem d12_0 : decode jdk_49_method_2_code 0 = .ok (.aload_n 0, 1) := by decide +kernel
theorem d12_1 : decode jdk_49_method_2_code 1 = .ok (.getfield 25, 3) := by decide +kernel
theorem d12_4 : decode jdk_49_method_2_code 4 = .ok (.aload_n 0, 1) := by decide +kernel
theorem d12_5 : decode jdk_49_method_2_code 5 = .ok (.getfield 1, 3) := by decide +kernel
theorem d12_8 : decode jdk_49_method_2_code 8 = .ok (.getfield 28, 3) := by decide +kernel
theorem d12_11 : decode jdk_49_method_2_code 11 = .ok (.if_icmp .eq 7, 3) := by decide +kernel
theorem d12_18 : decode jdk_49_method_2_code 18 = .ok (.iconst 0, 1) := by decide +kernel
theorem d12_19 : decode jdk_49_method_2_code 19 = .ok (.ireturn, 1) := by decide +kernel
theorem ef_12c00 (m : MethodId) (p0 : Addr) : entryFrame m #[(.ref p0)] 1 = mkF m 0 #[.val (.ref p0)] [] := by first | (simp [entryFrame, mkF, argsToLocals, Value.category]; done) | rfl
set_option maxRecDepth 65536 in
set_option maxHeartbeats 40000000 in
theorem rm12c00 (l : Launch) (Z : State) (a0 : Array Value) (hw : ∀ d ∈ tables_1, d.before a0 Z = true) (ws : List Jvm.Cond) (p0 : Addr) (h0 : Heap) (n0 : Nat) (Z0 : n0 ≤ h0.size) (q : Addr) (P0 : Fld Z h0 p0 "java/util/ArrayList$Itr" "cursor" "I" (.int (0 : Int32))) (P1 : Fld Z h0 p0 "java/util/ArrayList$Itr" "this$0" "Ljava/util/ArrayList;" (.ref q)) (P2 : Fld Z h0 q "java/util/ArrayList" "size" "I" (.int (0 : Int32))) :
    MetFree l (⟨"java/util/ArrayList$Itr", "hasNext", "()Z"⟩ : MethodName) (head1 (Jvm.Cond.code (⟨"java/util/ArrayList$Itr", "hasNext", "()Z"⟩ : MethodName) jdk_49_method_2_code 1 (some .boolean) :: ws) ({ frames := 0, cells := 0, slots := 0, locals := 0 } : Room)) (fun a U => a = #[(.ref p0)] ∧ Z.Warmed39 U.vm ∧ U.heap = h0) (fun _ _ _ _ _ => True) (fun _ U o U' => ∃ v L, o = .returned v ∧ (own_Q12c00 Z p0 q h0 n0) v U'.heap L ∧ FrameEnd U o U' L ({ frames := 0, cells := 0, slots := 0, locals := 0 } : Room).cells ({ frames := 0, cells := 0, slots := 0, locals := 0 } : Room).slots) := by
  refine MetFree.of_bodySF (plainFor_of_name pn_java_util_ArrayList_Itr) hisR ?_
  intro p e s m args below meth c s₁ Bd hml0 hP hK
  obtain ⟨rfl, hZ, hh⟩ := hP
  have hx := Bd.exec
  have hby := Bd.bytes
  have hml : c.maxLocals = 1 := hml0
  have hown : s.vm.findClass "java/util/ArrayList$Itr" = some m.cls := findClass_of_methodNamed Bd.named
  have hnm := (name_of_methodNamed Bd.named Bd.method).1
  have X0 : Stand p l e ({ frames := 0, cells := 0, slots := 0, locals := 0 } : Room) s m #[(.ref p0)] below meth c s₁ [] 0 0 := Stand.of_body Bd
  have e0 : s₁.heap = h0 := by rw [← hh, Bd.state]; rfl
  have N0 := Fr.nil n0
  refine own_body (QQ := (own_Q12c00 Z p0 q h0 n0)) (ef_12c00 m p0) ?_
  refine own_via (s₁.setTop (mkF m 1 #[.val (.ref p0)] [(.ref p0)])) (fun t k => XS.aloadN X0.here hx rfl (hb hby d12_0) rfl rfl k) ?_
  obtain ⟨T42, X42, e42, st42⟩ := getF X0 hx hZ hown (host := "") (Or.inl (hw _ (List.mem_of_getElem? (i := 103) rfl))) Via.refl e0 P0 (g := (mkF m 1 #[.val (.ref p0)] [(.ref p0)])) rfl rfl (hb hby d12_1)
  refine own_via (T42.setTop (mkF m 4 #[.val (.ref p0)] [(.int (0 : Int32))])) (fun t k => st42 t k) ?_
  refine own_via (T42.setTop (mkF m 5 #[.val (.ref p0)] [(.ref p0), (.int (0 : Int32))])) (fun t k => XS.aloadN X42.here hx rfl (hb hby d12_4) rfl rfl k) ?_
  obtain ⟨T43, X43, e43, st43⟩ := getF X42 hx hZ hown (host := "") (Or.inl (hw _ (List.mem_of_getElem? (i := 85) rfl))) Via.refl e42 P1 (g := (mkF m 5 #[.val (.ref p0)] [(.ref p0), (.int (0 : Int32))])) rfl rfl (hb hby d12_5)
  refine own_via (T43.setTop (mkF m 8 #[.val (.ref p0)] [(.ref q), (.int (0 : Int32))])) (fun t k => st43 t k) ?_
  obtain ⟨T44, X44, e44, st44⟩ := getF X43 hx hZ hown (Or.inr (hw _ (List.mem_of_getElem? (i := 105) rfl))) Via.refl e43 P2 (g := (mkF m 8 #[.val (.ref p0)] [(.ref q), (.int (0 : Int32))])) rfl rfl (hb hby d12_8)
  refine own_via (T44.setTop (mkF m 11 #[.val (.ref p0)] [(.int (0 : Int32)), (.int (0 : Int32))])) (fun t k => st44 t k) ?_
  refine own_via (T44.setTop (mkF m 18 #[.val (.ref p0)] [])) (fun t k => XS.icmpYes X44.here hx rfl (pc0 := 11) (pc' := 18) rfl (hb hby d12_11) rfl (teq (by decide)).1 (by decide) (by decide) k) ?_
  refine own_via (T44.setTop (mkF m 19 #[.val (.ref p0)] [(.int (0 : Int32))])) (fun t k => XS.iconst X44.here hx rfl (hb hby d12_18) k) ?_
  refine own_leave X44 Bd.notSynchronized (v := some (.int (0 : Int32))) (fun h => by rw [Bd.returns] at h; cases h) (fun fs hr => retN X44 hx (t := .boolean) Bd.returns (by simp) (hb hby d12_19) hr) ?_ (by decide) (by decide)
  exact ⟨rfl, N0, e44⟩
def own_Q12c01 (Z : State) (p0 : Addr) (q : Addr) (h0 : Heap) (n0 : Nat) (v : Option Value) (h : Heap) (L : List Loc) : Prop := v = some (.int (1 : Int32)) ∧ Fr n0 L ∧ h = h0
theorem d12_14 : decode jdk_49_method_2_code 14 = .ok (.iconst 1, 1) := by decide +kernel
theorem d12_15 : decode jdk_49_method_2_code 15 = .ok (.goto 4, 3) := by decide +kernel
theorem ef_12c01 (m : MethodId) (p0 : Addr) : entryFrame m #[(.ref p0)] 1 = mkF m 0 #[.val (.ref p0)] [] := by first | (simp [entryFrame, mkF, argsToLocals, Value.category]; done) | rfl
set_option maxRecDepth 65536 in
set_option maxHeartbeats 40000000 in
theorem rm12c01 (l : Launch) (Z : State) (a0 : Array Value) (hw : ∀ d ∈ tables_1, d.before a0 Z = true) (ws : List Jvm.Cond) (p0 : Addr) (h0 : Heap) (n0 : Nat) (Z0 : n0 ≤ h0.size) (q : Addr) (P0 : Fld Z h0 p0 "java/util/ArrayList$Itr" "cursor" "I" (.int (0 : Int32))) (P1 : Fld Z h0 p0 "java/util/ArrayList$Itr" "this$0" "Ljava/util/ArrayList;" (.ref q)) (P2 : Fld Z h0 q "java/util/ArrayList" "size" "I" (.int (1 : Int32))) :
    MetFree l (⟨"java/util/ArrayList$Itr", "hasNext", "()Z"⟩ : MethodName) (head1 (Jvm.Cond.code (⟨"java/util/ArrayList$Itr", "hasNext", "()Z"⟩ : MethodName) jdk_49_method_2_code 1 (some .boolean) :: ws) ({ frames := 0, cells := 0, slots := 0, locals := 0 } : Room)) (fun a U => a = #[(.ref p0)] ∧ Z.Warmed39 U.vm ∧ U.heap = h0) (fun _ _ _ _ _ => True) (fun _ U o U' => ∃ v L, o = .returned v ∧ (own_Q12c01 Z p0 q h0 n0) v U'.heap L ∧ FrameEnd U o U' L ({ frames := 0, cells := 0, slots := 0, locals := 0 } : Room).cells ({ frames := 0, cells := 0, slots := 0, locals := 0 } : Room).slots) := by
  refine MetFree.of_bodySF (plainFor_of_name pn_java_util_ArrayList_Itr) hisR ?_
  intro p e s m args below meth c s₁ Bd hml0 hP hK
  obtain ⟨rfl, hZ, hh⟩ := hP
  have hx := Bd.exec
  have hby := Bd.bytes
  have hml : c.maxLocals = 1 := hml0
  have hown : s.vm.findClass "java/util/ArrayList$Itr" = some m.cls := findClass_of_methodNamed Bd.named
  have hnm := (name_of_methodNamed Bd.named Bd.method).1
  have X0 : Stand p l e ({ frames := 0, cells := 0, slots := 0, locals := 0 } : Room) s m #[(.ref p0)] below meth c s₁ [] 0 0 := Stand.of_body Bd
  have e0 : s₁.heap = h0 := by rw [← hh, Bd.state]; rfl
  have N0 := Fr.nil n0
  refine own_body (QQ := (own_Q12c01 Z p0 q h0 n0)) (ef_12c01 m p0) ?_
  refine own_via (s₁.setTop (mkF m 1 #[.val (.ref p0)] [(.ref p0)])) (fun t k => XS.aloadN X0.here hx rfl (hb hby d12_0) rfl rfl k) ?_
  obtain ⟨T45, X45, e45, st45⟩ := getF X0 hx hZ hown (host := "") (Or.inl (hw _ (List.mem_of_getElem? (i := 103) rfl))) Via.refl e0 P0 (g := (mkF m 1 #[.val (.ref p0)] [(.ref p0)])) rfl rfl (hb hby d12_1)
  refine own_via (T45.setTop (mkF m 4 #[.val (.ref p0)] [(.int (0 : Int32))])) (fun t k => st45 t k) ?_
  refine own_via (T45.setTop (mkF m 5 #[.val (.ref p0)] [(.ref p0), (.int (0 : Int32))])) (fun t k => XS.aloadN X45.here hx rfl (hb hby d12_4) rfl rfl k) ?_
  obtain ⟨T46, X46, e46, st46⟩ := getF X45 hx hZ hown (host := "") (Or.inl (hw _ (List.mem_of_getElem? (i := 85) rfl))) Via.refl e45 P1 (g := (mkF m 5 #[.val (.ref p0)] [(.ref p0), (.int (0 : Int32))])) rfl rfl (hb hby d12_5)
  refine own_via (T46.setTop (mkF m 8 #[.val (.ref p0)] [(.ref q), (.int (0 : Int32))])) (fun t k => st46 t k) ?_
  obtain ⟨T47, X47, e47, st47⟩ := getF X46 hx hZ hown (Or.inr (hw _ (List.mem_of_getElem? (i := 105) rfl))) Via.refl e46 P2 (g := (mkF m 8 #[.val (.ref p0)] [(.ref q), (.int (0 : Int32))])) rfl rfl (hb hby d12_8)
  refine own_via (T47.setTop (mkF m 11 #[.val (.ref p0)] [(.int (1 : Int32)), (.int (0 : Int32))])) (fun t k => st47 t k) ?_
  refine own_via (T47.setTop (mkF m 14 #[.val (.ref p0)] [])) (fun t k => XS.icmpNo X47.here hx rfl (hb hby d12_11) rfl (feq (by decide)).1 k) ?_
  refine own_via (T47.setTop (mkF m 15 #[.val (.ref p0)] [(.int (1 : Int32))])) (fun t k => XS.iconst X47.here hx rfl (hb hby d12_14) k) ?_
  refine own_via (T47.setTop (mkF m 19 #[.val (.ref p0)] [(.int (1 : Int32))])) (fun t k => XS.goto X47.here hx rfl (pc0 := 15) (pc' := 19) rfl (hb hby d12_15) (by decide) (by decide) k) ?_
  refine own_leave X47 Bd.notSynchronized (v := some (.int (1 : Int32))) (fun h => by rw [Bd.returns] at h; cases h) (fun fs hr => retN X47 hx (t := .boolean) Bd.returns (by simp) (hb hby d12_19) hr) ?_ (by decide) (by decide)
  exact ⟨rfl, N0, e47⟩
def own_Q12c11 (Z : State) (p0 : Addr) (q : Addr) (h0 : Heap) (n0 : Nat) (v : Option Value) (h : Heap) (L : List Loc) : Prop := v = some (.int (0 : Int32)) ∧ Fr n0 L ∧ h = h0
theorem ef_12c11 (m : MethodId) (p0 : Addr) : entryFrame m #[(.ref p0)] 1 = mkF m 0 #[.val (.ref p0)] [] := by first | (simp [entryFrame, mkF, argsToLocals, Value.category]; done) | rfl
set_option maxRecDepth 65536 in
set_option maxHeartbeats 40000000 in
theorem rm12c11 (l : Launch) (Z : State) (a0 : Array Value) (hw : ∀ d ∈ tables_1, d.before a0 Z = true) (ws : List Jvm.Cond) (p0 : Addr) (h0 : Heap) (n0 : Nat) (Z0 : n0 ≤ h0.size) (q : Addr) (P0 : Fld Z h0 p0 "java/util/ArrayList$Itr" "cursor" "I" (.int (1 : Int32))) (P1 : Fld Z h0 p0 "java/util/ArrayList$Itr" "this$0" "Ljava/util/ArrayList;" (.ref q)) (P2 : Fld Z h0 q "java/util/ArrayList" "size" "I" (.int (1 : Int32))) :
    MetFree l (⟨"java/util/ArrayList$Itr", "hasNext", "()Z"⟩ : MethodName) (head1 (Jvm.Cond.code (⟨"java/util/ArrayList$Itr", "hasNext", "()Z"⟩ : MethodName) jdk_49_method_2_code 1 (some .boolean) :: ws) ({ frames := 0, cells := 0, slots := 0, locals := 0 } : Room)) (fun a U => a = #[(.ref p0)] ∧ Z.Warmed39 U.vm ∧ U.heap = h0) (fun _ _ _ _ _ => True) (fun _ U o U' => ∃ v L, o = .returned v ∧ (own_Q12c11 Z p0 q h0 n0) v U'.heap L ∧ FrameEnd U o U' L ({ frames := 0, cells := 0, slots := 0, locals := 0 } : Room).cells ({ frames := 0, cells := 0, slots := 0, locals := 0 } : Room).slots) := by
  refine MetFree.of_bodySF (plainFor_of_name pn_java_util_ArrayList_Itr) hisR ?_
  intro p e s m args below meth c s₁ Bd hml0 hP hK
  obtain ⟨rfl, hZ, hh⟩ := hP
  have hx := Bd.exec
  have hby := Bd.bytes
  have hml : c.maxLocals = 1 := hml0
  have hown : s.vm.findClass "java/util/ArrayList$Itr" = some m.cls := findClass_of_methodNamed Bd.named
  have hnm := (name_of_methodNamed Bd.named Bd.method).1
  have X0 : Stand p l e ({ frames := 0, cells := 0, slots := 0, locals := 0 } : Room) s m #[(.ref p0)] below meth c s₁ [] 0 0 := Stand.of_body Bd
  have e0 : s₁.heap = h0 := by rw [← hh, Bd.state]; rfl
  have N0 := Fr.nil n0
  refine own_body (QQ := (own_Q12c11 Z p0 q h0 n0)) (ef_12c11 m p0) ?_
  refine own_via (s₁.setTop (mkF m 1 #[.val (.ref p0)] [(.ref p0)])) (fun t k => XS.aloadN X0.here hx rfl (hb hby d12_0) rfl rfl k) ?_
  obtain ⟨T48, X48, e48, st48⟩ := getF X0 hx hZ hown (host := "") (Or.inl (hw _ (List.mem_of_getElem? (i := 103) rfl))) Via.refl e0 P0 (g := (mkF m 1 #[.val (.ref p0)] [(.ref p0)])) rfl rfl (hb hby d12_1)
  refine own_via (T48.setTop (mkF m 4 #[.val (.ref p0)] [(.int (1 : Int32))])) (fun t k => st48 t k) ?_
  refine own_via (T48.setTop (mkF m 5 #[.val (.ref p0)] [(.ref p0), (.int (1 : Int32))])) (fun t k => XS.aloadN X48.here hx rfl (hb hby d12_4) rfl rfl k) ?_
  obtain ⟨T49, X49, e49, st49⟩ := getF X48 hx hZ hown (host := "") (Or.inl (hw _ (List.mem_of_getElem? (i := 85) rfl))) Via.refl e48 P1 (g := (mkF m 5 #[.val (.ref p0)] [(.ref p0), (.int (1 : Int32))])) rfl rfl (hb hby d12_5)
  refine own_via (T49.setTop (mkF m 8 #[.val (.ref p0)] [(.ref q), (.int (1 : Int32))])) (fun t k => st49 t k) ?_
  obtain ⟨T50, X50, e50, st50⟩ := getF X49 hx hZ hown (Or.inr (hw _ (List.mem_of_getElem? (i := 105) rfl))) Via.refl e49 P2 (g := (mkF m 8 #[.val (.ref p0)] [(.ref q), (.int (1 : Int32))])) rfl rfl (hb hby d12_8)
  refine own_via (T50.setTop (mkF m 11 #[.val (.ref p0)] [(.int (1 : Int32)), (.int (1 : Int32))])) (fun t k => st50 t k) ?_
  refine own_via (T50.setTop (mkF m 18 #[.val (.ref p0)] [])) (fun t k => XS.icmpYes X50.here hx rfl (pc0 := 11) (pc' := 18) rfl (hb hby d12_11) rfl (teq (by decide)).1 (by decide) (by decide) k) ?_
  refine own_via (T50.setTop (mkF m 19 #[.val (.ref p0)] [(.int (0 : Int32))])) (fun t k => XS.iconst X50.here hx rfl (hb hby d12_18) k) ?_
  refine own_leave X50 Bd.notSynchronized (v := some (.int (0 : Int32))) (fun h => by rw [Bd.returns] at h; cases h) (fun fs hr => retN X50 hx (t := .boolean) Bd.returns (by simp) (hb hby d12_19) hr) ?_ (by decide) (by decide)
  exact ⟨rfl, N0, e50⟩
def own_Q12c02 (Z : State) (p0 : Addr) (q : Addr) (h0 : Heap) (n0 : Nat) (v : Option Value) (h : Heap) (L : List Loc) : Prop := v = some (.int (1 : Int32)) ∧ Fr n0 L ∧ h = h0
theorem ef_12c02 (m : MethodId) (p0 : Addr) : entryFrame m #[(.ref p0)] 1 = mkF m 0 #[.val (.ref p0)] [] := by first | (simp [entryFrame, mkF, argsToLocals, Value.category]; done) | rfl
set_option maxRecDepth 65536 in
set_option maxHeartbeats 40000000 in
theorem rm12c02 (l : Launch) (Z : State) (a0 : Array Value) (hw : ∀ d ∈ tables_1, d.before a0 Z = true) (ws : List Jvm.Cond) (p0 : Addr) (h0 : Heap) (n0 : Nat) (Z0 : n0 ≤ h0.size) (q : Addr) (P0 : Fld Z h0 p0 "java/util/ArrayList$Itr" "cursor" "I" (.int (0 : Int32))) (P1 : Fld Z h0 p0 "java/util/ArrayList$Itr" "this$0" "Ljava/util/ArrayList;" (.ref q)) (P2 : Fld Z h0 q "java/util/ArrayList" "size" "I" (.int (2 : Int32))) :
    MetFree l (⟨"java/util/ArrayList$Itr", "hasNext", "()Z"⟩ : MethodName) (head1 (Jvm.Cond.code (⟨"java/util/ArrayList$Itr", "hasNext", "()Z"⟩ : MethodName) jdk_49_method_2_code 1 (some .boolean) :: ws) ({ frames := 0, cells := 0, slots := 0, locals := 0 } : Room)) (fun a U => a = #[(.ref p0)] ∧ Z.Warmed39 U.vm ∧ U.heap = h0) (fun _ _ _ _ _ => True) (fun _ U o U' => ∃ v L, o = .returned v ∧ (own_Q12c02 Z p0 q h0 n0) v U'.heap L ∧ FrameEnd U o U' L ({ frames := 0, cells := 0, slots := 0, locals := 0 } : Room).cells ({ frames := 0, cells := 0, slots := 0, locals := 0 } : Room).slots) := by
  refine MetFree.of_bodySF (plainFor_of_name pn_java_util_ArrayList_Itr) hisR ?_
  intro p e s m args below meth c s₁ Bd hml0 hP hK
  obtain ⟨rfl, hZ, hh⟩ := hP
  have hx := Bd.exec
  have hby := Bd.bytes
  have hml : c.maxLocals = 1 := hml0
  have hown : s.vm.findClass "java/util/ArrayList$Itr" = some m.cls := findClass_of_methodNamed Bd.named
  have hnm := (name_of_methodNamed Bd.named Bd.method).1
  have X0 : Stand p l e ({ frames := 0, cells := 0, slots := 0, locals := 0 } : Room) s m #[(.ref p0)] below meth c s₁ [] 0 0 := Stand.of_body Bd
  have e0 : s₁.heap = h0 := by rw [← hh, Bd.state]; rfl
  have N0 := Fr.nil n0
  refine own_body (QQ := (own_Q12c02 Z p0 q h0 n0)) (ef_12c02 m p0) ?_
  refine own_via (s₁.setTop (mkF m 1 #[.val (.ref p0)] [(.ref p0)])) (fun t k => XS.aloadN X0.here hx rfl (hb hby d12_0) rfl rfl k) ?_
  obtain ⟨T51, X51, e51, st51⟩ := getF X0 hx hZ hown (host := "") (Or.inl (hw _ (List.mem_of_getElem? (i := 103) rfl))) Via.refl e0 P0 (g := (mkF m 1 #[.val (.ref p0)] [(.ref p0)])) rfl rfl (hb hby d12_1)
  refine own_via (T51.setTop (mkF m 4 #[.val (.ref p0)] [(.int (0 : Int32))])) (fun t k => st51 t k) ?_
  refine own_via (T51.setTop (mkF m 5 #[.val (.ref p0)] [(.ref p0), (.int (0 : Int32))])) (fun t k => XS.aloadN X51.here hx rfl (hb hby d12_4) rfl rfl k) ?_
  obtain ⟨T52, X52, e52, st52⟩ := getF X51 hx hZ hown (host := "") (Or.inl (hw _ (List.mem_of_getElem? (i := 85) rfl))) Via.refl e51 P1 (g := (mkF m 5 #[.val (.ref p0)] [(.ref p0), (.int (0 : Int32))])) rfl rfl (hb hby d12_5)
  refine own_via (T52.setTop (mkF m 8 #[.val (.ref p0)] [(.ref q), (.int (0 : Int32))])) (fun t k => st52 t k) ?_
  obtain ⟨T53, X53, e53, st53⟩ := getF X52 hx hZ hown (Or.inr (hw _ (List.mem_of_getElem? (i := 105) rfl))) Via.refl e52 P2 (g := (mkF m 8 #[.val (.ref p0)] [(.ref q), (.int (0 : Int32))])) rfl rfl (hb hby d12_8)
  refine own_via (T53.setTop (mkF m 11 #[.val (.ref p0)] [(.int (2 : Int32)), (.int (0 : Int32))])) (fun t k => st53 t k) ?_
  refine own_via (T53.setTop (mkF m 14 #[.val (.ref p0)] [])) (fun t k => XS.icmpNo X53.here hx rfl (hb hby d12_11) rfl (feq (by decide)).1 k) ?_
  refine own_via (T53.setTop (mkF m 15 #[.val (.ref p0)] [(.int (1 : Int32))])) (fun t k => XS.iconst X53.here hx rfl (hb hby d12_14) k) ?_
  refine own_via (T53.setTop (mkF m 19 #[.val (.ref p0)] [(.int (1 : Int32))])) (fun t k => XS.goto X53.here hx rfl (pc0 := 15) (pc' := 19) rfl (hb hby d12_15) (by decide) (by decide) k) ?_
  refine own_leave X53 Bd.notSynchronized (v := some (.int (1 : Int32))) (fun h => by rw [Bd.returns] at h; cases h) (fun fs hr => retN X53 hx (t := .boolean) Bd.returns (by simp) (hb hby d12_19) hr) ?_ (by decide) (by decide)
  exact ⟨rfl, N0, e53⟩
def own_Q12c12 (Z : State) (p0 : Addr) (q : Addr) (h0 : Heap) (n0 : Nat) (v : Option Value) (h : Heap) (L : List Loc) : Prop := v = some (.int (1 : Int32)) ∧ Fr n0 L ∧ h = h0
theorem ef_12c12 (m : MethodId) (p0 : Addr) : entryFrame m #[(.ref p0)] 1 = mkF m 0 #[.val (.ref p0)] [] := by first | (simp [entryFrame, mkF, argsToLocals, Value.category]; done) | rfl
set_option maxRecDepth 65536 in
set_option maxHeartbeats 40000000 in
theorem rm12c12 (l : Launch) (Z : State) (a0 : Array Value) (hw : ∀ d ∈ tables_1, d.before a0 Z = true) (ws : List Jvm.Cond) (p0 : Addr) (h0 : Heap) (n0 : Nat) (Z0 : n0 ≤ h0.size) (q : Addr) (P0 : Fld Z h0 p0 "java/util/ArrayList$Itr" "cursor" "I" (.int (1 : Int32))) (P1 : Fld Z h0 p0 "java/util/ArrayList$Itr" "this$0" "Ljava/util/ArrayList;" (.ref q)) (P2 : Fld Z h0 q "java/util/ArrayList" "size" "I" (.int (2 : Int32))) :
    MetFree l (⟨"java/util/ArrayList$Itr", "hasNext", "()Z"⟩ : MethodName) (head1 (Jvm.Cond.code (⟨"java/util/ArrayList$Itr", "hasNext", "()Z"⟩ : MethodName) jdk_49_method_2_code 1 (some .boolean) :: ws) ({ frames := 0, cells := 0, slots := 0, locals := 0 } : Room)) (fun a U => a = #[(.ref p0)] ∧ Z.Warmed39 U.vm ∧ U.heap = h0) (fun _ _ _ _ _ => True) (fun _ U o U' => ∃ v L, o = .returned v ∧ (own_Q12c12 Z p0 q h0 n0) v U'.heap L ∧ FrameEnd U o U' L ({ frames := 0, cells := 0, slots := 0, locals := 0 } : Room).cells ({ frames := 0, cells := 0, slots := 0, locals := 0 } : Room).slots) := by
  refine MetFree.of_bodySF (plainFor_of_name pn_java_util_ArrayList_Itr) hisR ?_
  intro p e s m args below meth c s₁ Bd hml0 hP hK
  obtain ⟨rfl, hZ, hh⟩ := hP
  have hx := Bd.exec
  have hby := Bd.bytes
  have hml : c.maxLocals = 1 := hml0
  have hown : s.vm.findClass "java/util/ArrayList$Itr" = some m.cls := findClass_of_methodNamed Bd.named
  have hnm := (name_of_methodNamed Bd.named Bd.method).1
  have X0 : Stand p l e ({ frames := 0, cells := 0, slots := 0, locals := 0 } : Room) s m #[(.ref p0)] below meth c s₁ [] 0 0 := Stand.of_body Bd
  have e0 : s₁.heap = h0 := by rw [← hh, Bd.state]; rfl
  have N0 := Fr.nil n0
  refine own_body (QQ := (own_Q12c12 Z p0 q h0 n0)) (ef_12c12 m p0) ?_
  refine own_via (s₁.setTop (mkF m 1 #[.val (.ref p0)] [(.ref p0)])) (fun t k => XS.aloadN X0.here hx rfl (hb hby d12_0) rfl rfl k) ?_
  obtain ⟨T54, X54, e54, st54⟩ := getF X0 hx hZ hown (host := "") (Or.inl (hw _ (List.mem_of_getElem? (i := 103) rfl))) Via.refl e0 P0 (g := (mkF m 1 #[.val (.ref p0)] [(.ref p0)])) rfl rfl (hb hby d12_1)
  refine own_via (T54.setTop (mkF m 4 #[.val (.ref p0)] [(.int (1 : Int32))])) (fun t k => st54 t k) ?_
  refine own_via (T54.setTop (mkF m 5 #[.val (.ref p0)] [(.ref p0), (.int (1 : Int32))])) (fun t k => XS.aloadN X54.here hx rfl (hb hby d12_4) rfl rfl k) ?_
  obtain ⟨T55, X55, e55, st55⟩ := getF X54 hx hZ hown (host := "") (Or.inl (hw _ (List.mem_of_getElem? (i := 85) rfl))) Via.refl e54 P1 (g := (mkF m 5 #[.val (.ref p0)] [(.ref p0), (.int (1 : Int32))])) rfl rfl (hb hby d12_5)
  refine own_via (T55.setTop (mkF m 8 #[.val (.ref p0)] [(.ref q), (.int (1 : Int32))])) (fun t k => st55 t k) ?_
  obtain ⟨T56, X56, e56, st56⟩ := getF X55 hx hZ hown (Or.inr (hw _ (List.mem_of_getElem? (i := 105) rfl))) Via.refl e55 P2 (g := (mkF m 8 #[.val (.ref p0)] [(.ref q), (.int (1 : Int32))])) rfl rfl (hb hby d12_8)
  refine own_via (T56.setTop (mkF m 11 #[.val (.ref p0)] [(.int (2 : Int32)), (.int (1 : Int32))])) (fun t k => st56 t k) ?_
  refine own_via (T56.setTop (mkF m 14 #[.val (.ref p0)] [])) (fun t k => XS.icmpNo X56.here hx rfl (hb hby d12_11) rfl (feq (by decide)).1 k) ?_
  refine own_via (T56.setTop (mkF m 15 #[.val (.ref p0)] [(.int (1 : Int32))])) (fun t k => XS.iconst X56.here hx rfl (hb hby d12_14) k) ?_
  refine own_via (T56.setTop (mkF m 19 #[.val (.ref p0)] [(.int (1 : Int32))])) (fun t k => XS.goto X56.here hx rfl (pc0 := 15) (pc' := 19) rfl (hb hby d12_15) (by decide) (by decide) k) ?_
  refine own_leave X56 Bd.notSynchronized (v := some (.int (1 : Int32))) (fun h => by rw [Bd.returns] at h; cases h) (fun fs hr => retN X56 hx (t := .boolean) Bd.returns (by simp) (hb hby d12_19) hr) ?_ (by decide) (by decide)
  exact ⟨rfl, N0, e56⟩
def own_Q12c22 (Z : State) (p0 : Addr) (q : Addr) (h0 : Heap) (n0 : Nat) (v : Option Value) (h : Heap) (L : List Loc) : Prop := v = some (.int (0 : Int32)) ∧ Fr n0 L ∧ h = h0
theorem ef_12c22 (m : MethodId) (p0 : Addr) : entryFrame m #[(.ref p0)] 1 = mkF m 0 #[.val (.ref p0)] [] := by first | (simp [entryFrame, mkF, argsToLocals, Value.category]; done) | rfl
set_option maxRecDepth 65536 in
set_option maxHeartbeats 40000000 in
theorem rm12c22 (l : Launch) (Z : State) (a0 : Array Value) (hw : ∀ d ∈ tables_1, d.before a0 Z = true) (ws : List Jvm.Cond) (p0 : Addr) (h0 : Heap) (n0 : Nat) (Z0 : n0 ≤ h0.size) (q : Addr) (P0 : Fld Z h0 p0 "java/util/ArrayList$Itr" "cursor" "I" (.int (2 : Int32))) (P1 : Fld Z h0 p0 "java/util/ArrayList$Itr" "this$0" "Ljava/util/ArrayList;" (.ref q)) (P2 : Fld Z h0 q "java/util/ArrayList" "size" "I" (.int (2 : Int32))) :
    MetFree l (⟨"java/util/ArrayList$Itr", "hasNext", "()Z"⟩ : MethodName) (head1 (Jvm.Cond.code (⟨"java/util/ArrayList$Itr", "hasNext", "()Z"⟩ : MethodName) jdk_49_method_2_code 1 (some .boolean) :: ws) ({ frames := 0, cells := 0, slots := 0, locals := 0 } : Room)) (fun a U => a = #[(.ref p0)] ∧ Z.Warmed39 U.vm ∧ U.heap = h0) (fun _ _ _ _ _ => True) (fun _ U o U' => ∃ v L, o = .returned v ∧ (own_Q12c22 Z p0 q h0 n0) v U'.heap L ∧ FrameEnd U o U' L ({ frames := 0, cells := 0, slots := 0, locals := 0 } : Room).cells ({ frames := 0, cells := 0, slots := 0, locals := 0 } : Room).slots) := by
  refine MetFree.of_bodySF (plainFor_of_name pn_java_util_ArrayList_Itr) hisR ?_
  intro p e s m args below meth c s₁ Bd hml0 hP hK
  obtain ⟨rfl, hZ, hh⟩ := hP
  have hx := Bd.exec
  have hby := Bd.bytes
  have hml : c.maxLocals = 1 := hml0
  have hown : s.vm.findClass "java/util/ArrayList$Itr" = some m.cls := findClass_of_methodNamed Bd.named
  have hnm := (name_of_methodNamed Bd.named Bd.method).1
  have X0 : Stand p l e ({ frames := 0, cells := 0, slots := 0, locals := 0 } : Room) s m #[(.ref p0)] below meth c s₁ [] 0 0 := Stand.of_body Bd
  have e0 : s₁.heap = h0 := by rw [← hh, Bd.state]; rfl
  have N0 := Fr.nil n0
  refine own_body (QQ := (own_Q12c22 Z p0 q h0 n0)) (ef_12c22 m p0) ?_
  refine own_via (s₁.setTop (mkF m 1 #[.val (.ref p0)] [(.ref p0)])) (fun t k => XS.aloadN X0.here hx rfl (hb hby d12_0) rfl rfl k) ?_
  obtain ⟨T57, X57, e57, st57⟩ := getF X0 hx hZ hown (host := "") (Or.inl (hw _ (List.mem_of_getElem? (i := 103) rfl))) Via.refl e0 P0 (g := (mkF m 1 #[.val (.ref p0)] [(.ref p0)])) rfl rfl (hb hby d12_1)
  refine own_via (T57.setTop (mkF m 4 #[.val (.ref p0)] [(.int (2 : Int32))])) (fun t k => st57 t k) ?_
  refine own_via (T57.setTop (mkF m 5 #[.val (.ref p0)] [(.ref p0), (.int (2 : Int32))])) (fun t k => XS.aloadN X57.here hx rfl (hb hby d12_4) rfl rfl k) ?_
  obtain ⟨T58, X58, e58, st58⟩ := getF X57 hx hZ hown (host := "") (Or.inl (hw _ (List.mem_of_getElem? (i := 85) rfl))) Via.refl e57 P1 (g := (mkF m 5 #[.val (.ref p0)] [(.ref p0), (.int (2 : Int32))])) rfl rfl (hb hby d12_5)
  refine own_via (T58.setTop (mkF m 8 #[.val (.ref p0)] [(.ref q), (.int (2 : Int32))])) (fun t k => st58 t k) ?_
  obtain ⟨T59, X59, e59, st59⟩ := getF X58 hx hZ hown (Or.inr (hw _ (List.mem_of_getElem? (i := 105) rfl))) Via.refl e58 P2 (g := (mkF m 8 #[.val (.ref p0)] [(.ref q), (.int (2 : Int32))])) rfl rfl (hb hby d12_8)
  refine own_via (T59.setTop (mkF m 11 #[.val (.ref p0)] [(.int (2 : Int32)), (.int (2 : Int32))])) (fun t k => st59 t k) ?_
  refine own_via (T59.setTop (mkF m 18 #[.val (.ref p0)] [])) (fun t k => XS.icmpYes X59.here hx rfl (pc0 := 11) (pc' := 18) rfl (hb hby d12_11) rfl (teq (by decide)).1 (by decide) (by decide) k) ?_
  refine own_via (T59.setTop (mkF m 19 #[.val (.ref p0)] [(.int (0 : Int32))])) (fun t k => XS.iconst X59.here hx rfl (hb hby d12_18) k) ?_
  refine own_leave X59 Bd.notSynchronized (v := some (.int (0 : Int32))) (fun h => by rw [Bd.returns] at h; cases h) (fun fs hr => retN X59 hx (t := .boolean) Bd.returns (by simp) (hb hby d12_19) hr) ?_ (by decide) (by decide)
  exact ⟨rfl, N0, e59⟩
def own_Q33 (Z : State) (p0 : Addr) (q : Addr) (mc : Int32) (h0 : Heap) (n0 : Nat) (v : Option Value) (h : Heap) (L : List Loc) : Prop := v = none ∧ Fr n0 L ∧ h = h0
theorem d33_0 : decode jdk_49_method_6_code 0 = .ok (.aload_n 0, 1) := by decide +kernel
theorem d33_1 : decode jdk_49_method_6_code 1 = .ok (.getfield 1, 3) := by decide +kernel
theorem d33_4 : decode jdk_49_method_6_code 4 = .ok (.getfield 17, 3) := by decide +kernel
theorem d33_7 : decode jdk_49_method_6_code 7 = .ok (.aload_n 0, 1) := by decide +kernel
theorem d33_8 : decode jdk_49_method_6_code 8 = .ok (.getfield 22, 3) := by decide +kernel
theorem d33_11 : decode jdk_49_method_6_code 11 = .ok (.if_icmp .eq 11, 3) := by decide +kernel
theorem d33_22 : decode jdk_49_method_6_code 22 = .ok (.return_, 1) := by decide +kernel
theorem ef_33 (m : MethodId) (p0 : Addr) : entryFrame m #[(.ref p0)] 1 = mkF m 0 #[.val (.ref p0)] [] := by first | (simp [entryFrame, mkF, argsToLocals, Value.category]; done) | rfl
set_option maxRecDepth 65536 in
set_option maxHeartbeats 40000000 in
theorem rm33 (l : Launch) (Z : State) (a0 : Array Value) (hw : ∀ d ∈ tables_1, d.before a0 Z = true) (ws : List Jvm.Cond) (p0 : Addr) (h0 : Heap) (n0 : Nat) (Z0 : n0 ≤ h0.size) (q : Addr) (mc : Int32) (P0 : Fld Z h0 p0 "java/util/ArrayList$Itr" "this$0" "Ljava/util/ArrayList;" (.ref q)) (P1 : Fld Z h0 q "java/util/AbstractList" "modCount" "I" (.int mc)) (P2 : Fld Z h0 p0 "java/util/ArrayList$Itr" "expectedModCount" "I" (.int mc)) :
    MetFree l (⟨"java/util/ArrayList$Itr", "checkForComodification", "()V"⟩ : MethodName) (head1 (Jvm.Cond.code (⟨"java/util/ArrayList$Itr", "checkForComodification", "()V"⟩ : MethodName) jdk_49_method_6_code 1 none :: ws) ({ frames := 0, cells := 0, slots := 0, locals := 0 } : Room)) (fun a U => a = #[(.ref p0)] ∧ Z.Warmed39 U.vm ∧ U.heap = h0) (fun _ _ _ _ _ => True) (fun _ U o U' => ∃ v L, o = .returned v ∧ (own_Q33 Z p0 q mc h0 n0) v U'.heap L ∧ FrameEnd U o U' L ({ frames := 0, cells := 0, slots := 0, locals := 0 } : Room).cells ({ frames := 0, cells := 0, slots := 0, locals := 0 } : Room).slots) := by
  refine MetFree.of_bodySF (plainFor_of_name pn_java_util_ArrayList_Itr) hisR ?_
  intro p e s m args below meth c s₁ Bd hml0 hP hK
  obtain ⟨rfl, hZ, hh⟩ := hP
  have hx := Bd.exec
  have hby := Bd.bytes
  have hml : c.maxLocals = 1 := hml0
  have hown : s.vm.findClass "java/util/ArrayList$Itr" = some m.cls := findClass_of_methodNamed Bd.named
  have hnm := (name_of_methodNamed Bd.named Bd.method).1
  have X0 : Stand p l e ({ frames := 0, cells := 0, slots := 0, locals := 0 } : Room) s m #[(.ref p0)] below meth c s₁ [] 0 0 := Stand.of_body Bd
  have e0 : s₁.heap = h0 := by rw [← hh, Bd.state]; rfl
  have N0 := Fr.nil n0
  refine own_body (QQ := (own_Q33 Z p0 q mc h0 n0)) (ef_33 m p0) ?_
  refine own_via (s₁.setTop (mkF m 1 #[.val (.ref p0)] [(.ref p0)])) (fun t k => XS.aloadN X0.here hx rfl (hb hby d33_0) rfl rfl k) ?_
  obtain ⟨T60, X60, e60, st60⟩ := getF X0 hx hZ hown (host := "") (Or.inl (hw _ (List.mem_of_getElem? (i := 85) rfl))) Via.refl e0 P0 (g := (mkF m 1 #[.val (.ref p0)] [(.ref p0)])) rfl rfl (hb hby d33_1)
  refine own_via (T60.setTop (mkF m 4 #[.val (.ref p0)] [(.ref q)])) (fun t k => st60 t k) ?_
  obtain ⟨T61, X61, e61, st61⟩ := getF X60 hx hZ hown (host := "") (Or.inl (hw _ (List.mem_of_getElem? (i := 90) rfl))) (Via.of (hw _ (List.mem_of_getElem? (i := 91) rfl))) e60 P1 (g := (mkF m 4 #[.val (.ref p0)] [(.ref q)])) rfl rfl (hb hby d33_4)
  refine own_via (T61.setTop (mkF m 7 #[.val (.ref p0)] [(.int mc)])) (fun t k => st61 t k) ?_
  refine own_via (T61.setTop (mkF m 8 #[.val (.ref p0)] [(.ref p0), (.int mc)])) (fun t k => XS.aloadN X61.here hx rfl (hb hby d33_7) rfl rfl k) ?_
  obtain ⟨T62, X62, e62, st62⟩ := getF X61 hx hZ hown (host := "") (Or.inl (hw _ (List.mem_of_getElem? (i := 92) rfl))) Via.refl e61 P2 (g := (mkF m 8 #[.val (.ref p0)] [(.ref p0), (.int mc)])) rfl rfl (hb hby d33_8)
  refine own_via (T62.setTop (mkF m 11 #[.val (.ref p0)] [(.int mc), (.int mc)])) (fun t k => st62 t k) ?_
  refine own_via (T62.setTop (mkF m 22 #[.val (.ref p0)] [])) (fun t k => XS.icmpYes X62.here hx rfl (pc0 := 11) (pc' := 22) rfl (hb hby d33_11) rfl (teq rfl).1 (by decide) (by decide) k) ?_
  refine own_leave X62 Bd.notSynchronized (v := none) (fun _ => rfl) (fun fs hr => X62.returnOut hx Bd.returns (hb hby d33_22) hr) ?_ (by decide) (by decide)
  exact ⟨rfl, N0, e62⟩
def own_Q32c01 (Z : State) (p0 : Addr) (q : Addr) (la : Int32) (mc : Int32) (el : Addr) (o0 : Addr) (h0 : Heap) (n0 : Nat) (v : Option Value) (h : Heap) (L : List Loc) : Prop := v = some (.ref o0) ∧ Fr n0 L ∧ Keep h0 h [p0] ∧ Exa Z h p0 "java/util/ArrayList$Itr" ∧ Fld Z h p0 "java/util/ArrayList$Itr" "this$0" "Ljava/util/ArrayList;" (.ref q) ∧ Fld Z h p0 "java/util/ArrayList$Itr" "cursor" "I" (.int (1 : Int32)) ∧ Fld Z h p0 "java/util/ArrayList$Itr" "lastRet" "I" (.int (0 : Int32)) ∧ Fld Z h p0 "java/util/ArrayList$Itr" "expectedModCount" "I" (.int mc)
theorem d32_0 : decode jdk_49_method_3_code 0 = .ok (.aload_n 0, 1) := by decide +kernel
theorem d32_1 : decode jdk_49_method_3_code 1 = .ok (.invokevirtual 31, 3) := by decide +kernel
theorem d32_4 : decode jdk_49_method_3_code 4 = .ok (.aload_n 0, 1) := by decide +kernel
theorem d32_5 : decode jdk_49_method_3_code 5 = .ok (.getfield 25, 3) := by decide +kernel
theorem d32_8 : decode jdk_49_method_3_code 8 = .ok (.istore_n 1, 1) := by decide +kernel
theorem d32_9 : decode jdk_49_method_3_code 9 = .ok (.iload_n 1, 1) := by decide +kernel
theorem d32_10 : decode jdk_49_method_3_code 10 = .ok (.aload_n 0, 1) := by decide +kernel
theorem d32_11 : decode jdk_49_method_3_code 11 = .ok (.getfield 1, 3) := by decide +kernel
theorem d32_14 : decode jdk_49_method_3_code 14 = .ok (.getfield 28, 3) := by decide +kernel
theorem d32_17 : decode jdk_49_method_3_code 17 = .ok (.if_icmp .lt 11, 3) := by decide +kernel
theorem d32_28 : decode jdk_49_method_3_code 28 = .ok (.aload_n 0, 1) := by decide +kernel
theorem d32_29 : decode jdk_49_method_3_code 29 = .ok (.getfield 1, 3) := by decide +kernel
theorem d32_32 : decode jdk_49_method_3_code 32 = .ok (.getfield 37, 3) := by decide +kernel
theorem d32_35 : decode jdk_49_method_3_code 35 = .ok (.astore_n 2, 1) := by decide +kernel
theorem d32_36 : decode jdk_49_method_3_code 36 = .ok (.iload_n 1, 1) := by decide +kernel
theorem d32_37 : decode jdk_49_method_3_code 37 = .ok (.aload_n 2, 1) := by decide +kernel
theorem d32_38 : decode jdk_49_method_3_code 38 = .ok (.arraylength, 1) := by decide +kernel
theorem d32_39 : decode jdk_49_method_3_code 39 = .ok (.if_icmp .lt 11, 3) := by decide +kernel
theorem d32_50 : decode jdk_49_method_3_code 50 = .ok (.aload_n 0, 1) := by decide +kernel
theorem d32_51 : decode jdk_49_method_3_code 51 = .ok (.iload_n 1, 1) := by decide +kernel
theorem d32_52 : decode jdk_49_method_3_code 52 = .ok (.iconst 1, 1) := by decide +kernel
theorem d32_53 : decode jdk_49_method_3_code 53 = .ok (.iadd, 1) := by decide +kernel
theorem d32_54 : decode jdk_49_method_3_code 54 = .ok (.putfield 25, 3) := by decide +kernel
theorem d32_57 : decode jdk_49_method_3_code 57 = .ok (.aload_n 2, 1) := by decide +kernel
theorem d32_58 : decode jdk_49_method_3_code 58 = .ok (.aload_n 0, 1) := by decide +kernel
theorem d32_59 : decode jdk_49_method_3_code 59 = .ok (.iload_n 1, 1) := by decide +kernel
theorem d32_60 : decode jdk_49_method_3_code 60 = .ok (.dup_x1, 1) := by decide +kernel
theorem d32_61 : decode jdk_49_method_3_code 61 = .ok (.putfield 13, 3) := by decide +kernel
theorem d32_64 : decode jdk_49_method_3_code 64 = .ok (.aaload, 1) := by decide +kernel
theorem d32_65 : decode jdk_49_method_3_code 65 = .ok (.areturn, 1) := by decide +kernel
theorem ef_32c01 (m : MethodId) (p0 : Addr) : entryFrame m #[(.ref p0)] 3 = mkF m 0 #[.val (.ref p0), .unset, .unset] [] := by first | (simp [entryFrame, mkF, argsToLocals, Value.category]; done) | rfl
set_option maxRecDepth 65536 in
set_option maxHeartbeats 40000000 in
theorem rm32c01 (l : Launch) (Z : State) (a0 : Array Value) (hw : ∀ d ∈ tables_1, d.before a0 Z = true) (ws : List Jvm.Cond) (p0 : Addr) (h0 : Heap) (n0 : Nat) (Z0 : n0 ≤ h0.size) (q : Addr) (la : Int32) (mc : Int32) (el : Addr) (o0 : Addr) (P0 : Exa Z h0 p0 "java/util/ArrayList$Itr") (P1 : Fld Z h0 p0 "java/util/ArrayList$Itr" "this$0" "Ljava/util/ArrayList;" (.ref q)) (P2 : Fld Z h0 p0 "java/util/ArrayList$Itr" "cursor" "I" (.int (0 : Int32))) (P3 : Fld Z h0 p0 "java/util/ArrayList$Itr" "lastRet" "I" (.int la)) (P4 : Fld Z h0 p0 "java/util/ArrayList$Itr" "expectedModCount" "I" (.int mc)) (P5 : Fld Z h0 q "java/util/AbstractList" "modCount" "I" (.int mc)) (P6 : Fld Z h0 q "java/util/ArrayList" "elementData" "[Ljava/lang/Object;" (.ref el)) (P7 : Fld Z h0 q "java/util/ArrayList" "size" "I" (.int (1 : Int32))) (P8 : own_Ob Z h0 el 10 [.ref o0]) (gg_p0 : n0 ≤ p0) (hne : q ≠ p0) (hnf : el ≠ p0) :
    MetFree l (⟨"java/util/ArrayList$Itr", "next", "()Ljava/lang/Object;"⟩ : MethodName) (head1 (Jvm.Cond.code (⟨"java/util/ArrayList$Itr", "next", "()Ljava/lang/Object;"⟩ : MethodName) jdk_49_method_3_code 3 (some (.object "java/lang/Object")) :: ws) ({ frames := 1, cells := 0, slots := 0, locals := 12 } : Room)) (fun a U => a = #[(.ref p0)] ∧ Z.Warmed39 U.vm ∧ U.heap = h0) (fun _ _ _ _ _ => True) (fun _ U o U' => ∃ v L, o = .returned v ∧ (own_Q32c01 Z p0 q la mc el o0 h0 n0) v U'.heap L ∧ FrameEnd U o U' L ({ frames := 1, cells := 0, slots := 0, locals := 12 } : Room).cells ({ frames := 1, cells := 0, slots := 0, locals := 12 } : Room).slots) := by
  refine MetFree.of_bodySF (plainFor_of_name pn_java_util_ArrayList_Itr) hisR ?_
  intro p e s m args below meth c s₁ Bd hml0 hP hK
  obtain ⟨rfl, hZ, hh⟩ := hP
  have hx := Bd.exec
  have hby := Bd.bytes
  have hml : c.maxLocals = 3 := hml0
  have hown : s.vm.findClass "java/util/ArrayList$Itr" = some m.cls := findClass_of_methodNamed Bd.named
  have hnm := (name_of_methodNamed Bd.named Bd.method).1
  have X0 : Stand p l e ({ frames := 1, cells := 0, slots := 0, locals := 12 } : Room) s m #[(.ref p0)] below meth c s₁ [] 0 0 := Stand.of_body Bd
  have e0 : s₁.heap = h0 := by rw [← hh, Bd.state]; rfl
  have N0 := Fr.nil n0
  refine own_body (QQ := (own_Q32c01 Z p0 q la mc el o0 h0 n0)) (ef_32c01 m p0) ?_
  refine own_via (s₁.setTop (mkF m 1 #[.val (.ref p0), .unset, .unset] [(.ref p0)])) (fun t k => XS.aloadN X0.here hx rfl (hb hby d32_0) rfl rfl k) ?_
  obtain ⟨cq63, kq63, q63a, q63b, q63c⟩ := isOf hZ e0 P0
  obtain ⟨_, _, ⟨T63, L63, k63, n63⟩, -, X63, ⟨Lc63, hQ63, l63, y63, z63⟩, st63⟩ := X0.virtualBack hx (y := (⟨"java/util/ArrayList$Itr", "checkForComodification", "()V"⟩ : MethodName)) (z := (⟨"java/util/ArrayList$Itr", "checkForComodification", "()V"⟩ : MethodName)) hown (mvT hZ (hw _ (List.mem_of_getElem? (i := 250) rfl))) (mvT hZ (hw _ (List.mem_of_getElem? (i := 251) rfl))) (notFace_of_selects (args := #[]) (mvT hZ (hw _ (List.mem_of_getElem? (i := 253) rfl)))) (mvT hZ (hw _ (List.mem_of_getElem? (i := 253) rfl))) (mvT hZ (hw _ (List.mem_of_getElem? (i := 252) rfl))) (by decide) (backOf (W := 0) (rm33 l Z a0 hw [] p0 h0 n0 (Nat.le_trans Z0 (Keep.refl h0 [p0]).1) q mc P1 P5 P4) hZ (hw _ (List.mem_of_getElem? (i := 254) rfl)) (hw _ (List.mem_of_getElem? (i := 80) rfl)) (by decide) (by decide)) q63a q63c (g := (mkF m 1 #[.val (.ref p0), .unset, .unset] [(.ref p0)])) rfl (by rw [hml]; rfl) (Steps.refl _) (argsL := []) (rest := []) (lenOf pd_0 rfl) rfl (by show 2 * 0 + _ ≤ _; exact Nat.le_of_eq rfl) (hb hby d32_1) (fun _ _ => ⟨rfl, e0, (by decide : 0 + 0 ≤ _), (by decide : 0 + 0 ≤ _)⟩)
  dsimp only [Pt.U, Pt.locs, Pt.cells, Pt.slots] at X63 l63 y63 z63 st63 hQ63
  rw [y63, z63] at X63
  have X63 : Stand _ _ _ _ _ _ _ _ _ _ T63 L63 0 0 := X63
  obtain ⟨rfl, N63q, e63⟩ := hQ63
  have N63 : Fr n0 L63 := by rw [l63]; exact Fr.app N0 N63q
  refine own_via (T63.setTop (mkF m 4 #[.val (.ref p0), .unset, .unset] [])) (fun t k => st63.trans k) ?_
  refine own_via (T63.setTop (mkF m 5 #[.val (.ref p0), .unset, .unset] [(.ref p0)])) (fun t k => XS.aloadN X63.here hx rfl (hb hby d32_4) rfl rfl k) ?_
  obtain ⟨T64, X64, e64, st64⟩ := getF X63 hx hZ hown (host := "") (Or.inl (hw _ (List.mem_of_getElem? (i := 103) rfl))) Via.refl e63 P2 (g := (mkF m 5 #[.val (.ref p0), .unset, .unset] [(.ref p0)])) rfl rfl (hb hby d32_5)
  refine own_via (T64.setTop (mkF m 8 #[.val (.ref p0), .unset, .unset] [(.int (0 : Int32))])) (fun t k => st64 t k) ?_
  refine own_via (T64.setTop (mkF m 9 #[.val (.ref p0), .val (.int (0 : Int32)), .unset] [])) (fun t k => XS.istoreN X64.here hx rfl (hb hby d32_8) rfl (l' := #[.val (.ref p0), .val (.int (0 : Int32)), .unset]) rfl k) ?_
  refine own_via (T64.setTop (mkF m 10 #[.val (.ref p0), .val (.int (0 : Int32)), .unset] [(.int (0 : Int32))])) (fun t k => XS.iloadN X64.here hx rfl (hb hby d32_9) rfl  k) ?_
  refine own_via (T64.setTop (mkF m 11 #[.val (.ref p0), .val (.int (0 : Int32)), .unset] [(.ref p0), (.int (0 : Int32))])) (fun t k => XS.aloadN X64.here hx rfl (hb hby d32_10) rfl rfl k) ?_
  obtain ⟨T65, X65, e65, st65⟩ := getF X64 hx hZ hown (host := "") (Or.inl (hw _ (List.mem_of_getElem? (i := 85) rfl))) Via.refl e64 P1 (g := (mkF m 11 #[.val (.ref p0), .val (.int (0 : Int32)), .unset] [(.ref p0), (.int (0 : Int32))])) rfl rfl (hb hby d32_11)
  refine own_via (T65.setTop (mkF m 14 #[.val (.ref p0), .val (.int (0 : Int32)), .unset] [(.ref q), (.int (0 : Int32))])) (fun t k => st65 t k) ?_
  obtain ⟨T66, X66, e66, st66⟩ := getF X65 hx hZ hown (Or.inr (hw _ (List.mem_of_getElem? (i := 105) rfl))) Via.refl e65 P7 (g := (mkF m 14 #[.val (.ref p0), .val (.int (0 : Int32)), .unset] [(.ref q), (.int (0 : Int32))])) rfl rfl (hb hby d32_14)
  refine own_via (T66.setTop (mkF m 17 #[.val (.ref p0), .val (.int (0 : Int32)), .unset] [(.int (1 : Int32)), (.int (0 : Int32))])) (fun t k => st66 t k) ?_
  refine own_via (T66.setTop (mkF m 28 #[.val (.ref p0), .val (.int (0 : Int32)), .unset] [])) (fun t k => XS.icmpYes X66.here hx rfl (pc0 := 17) (pc' := 28) rfl (hb hby d32_17) rfl (tlt (by decide)).1 (by decide) (by decide) k) ?_
  refine own_via (T66.setTop (mkF m 29 #[.val (.ref p0), .val (.int (0 : Int32)), .unset] [(.ref p0)])) (fun t k => XS.aloadN X66.here hx rfl (hb hby d32_28) rfl rfl k) ?_
  obtain ⟨T67, X67, e67, st67⟩ := getF X66 hx hZ hown (host := "") (Or.inl (hw _ (List.mem_of_getElem? (i := 85) rfl))) Via.refl e66 P1 (g := (mkF m 29 #[.val (.ref p0), .val (.int (0 : Int32)), .unset] [(.ref p0)])) rfl rfl (hb hby d32_29)
  refine own_via (T67.setTop (mkF m 32 #[.val (.ref p0), .val (.int (0 : Int32)), .unset] [(.ref q)])) (fun t k => st67 t k) ?_
  obtain ⟨T68, X68, e68, st68⟩ := getF X67 hx hZ hown (host := "") (Or.inl (hw _ (List.mem_of_getElem? (i := 255) rfl))) Via.refl e67 P6 (g := (mkF m 32 #[.val (.ref p0), .val (.int (0 : Int32)), .unset] [(.ref q)])) rfl rfl (hb hby d32_32)
  refine own_via (T68.setTop (mkF m 35 #[.val (.ref p0), .val (.int (0 : Int32)), .unset] [(.ref el)])) (fun t k => st68 t k) ?_
  refine own_via (T68.setTop (mkF m 36 #[.val (.ref p0), .val (.int (0 : Int32)), .val (.ref el)] [])) (fun t k => XS.astoreN X68.here hx rfl (hb hby d32_35) rfl rfl (l' := #[.val (.ref p0), .val (.int (0 : Int32)), .val (.ref el)]) rfl k) ?_
  refine own_via (T68.setTop (mkF m 37 #[.val (.ref p0), .val (.int (0 : Int32)), .val (.ref el)] [(.int (0 : Int32))])) (fun t k => XS.iloadN X68.here hx rfl (hb hby d32_36) rfl  k) ?_
  refine own_via (T68.setTop (mkF m 38 #[.val (.ref p0), .val (.int (0 : Int32)), .val (.ref el)] [(.ref el), (.int (0 : Int32))])) (fun t k => XS.aloadN X68.here hx rfl (hb hby d32_37) rfl rfl k) ?_
  obtain ⟨cl70, Ar70, S70, H70, -⟩ := id P8
  refine own_via (T68.setTop (mkF m 39 #[.val (.ref p0), .val (.int (0 : Int32)), .val (.ref el)] [(.int (10 : Int32)), (.int (0 : Int32))])) (fun t k => X68.arraylength hx (by rw [e68]; exact Ar70.1) (State.isArrayOf_alike hZ.alike Ar70.2.1) (g := (mkF m 38 #[.val (.ref p0), .val (.int (0 : Int32)), .val (.ref el)] [(.ref el), (.int (0 : Int32))])) rfl rfl (hb hby d32_38) _ (by rw [S70]; exact k)) ?_
  refine own_via (T68.setTop (mkF m 50 #[.val (.ref p0), .val (.int (0 : Int32)), .val (.ref el)] [])) (fun t k => XS.icmpYes X68.here hx rfl (pc0 := 39) (pc' := 50) rfl (hb hby d32_39) rfl (tlt (by decide)).1 (by decide) (by decide) k) ?_
  refine own_via (T68.setTop (mkF m 51 #[.val (.ref p0), .val (.int (0 : Int32)), .val (.ref el)] [(.ref p0)])) (fun t k => XS.aloadN X68.here hx rfl (hb hby d32_50) rfl rfl k) ?_
  refine own_via (T68.setTop (mkF m 52 #[.val (.ref p0), .val (.int (0 : Int32)), .val (.ref el)] [(.int (0 : Int32)), (.ref p0)])) (fun t k => XS.iloadN X68.here hx rfl (hb hby d32_51) rfl  k) ?_
  refine own_via (T68.setTop (mkF m 53 #[.val (.ref p0), .val (.int (0 : Int32)), .val (.ref el)] [(.int (1 : Int32)), (.int (0 : Int32)), (.ref p0)])) (fun t k => XS.iconst X68.here hx rfl (hb hby d32_52) k) ?_
  refine own_via (T68.setTop (mkF m 54 #[.val (.ref p0), .val (.int (0 : Int32)), .val (.ref el)] [(.int (1 : Int32)), (.ref p0)])) (fun t k => XS.iadd X68.here hx rfl (hb hby d32_53) rfl k) ?_
  obtain ⟨T71, h71, X71, e71, W71, st71⟩ := putF X68 hx hZ hown (host := "") (Or.inl (hw _ (List.mem_of_getElem? (i := 103) rfl))) Via.refl e68 P2 P0 (Or.inl (hw _ (List.mem_of_getElem? (i := 104) rfl))) (hw _ (List.mem_of_getElem? (i := 79) rfl)) (ty := .int) (by decide) rfl rfl (g := (mkF m 54 #[.val (.ref p0), .val (.int (0 : Int32)), .val (.ref el)] [(.int (1 : Int32)), (.ref p0)])) rfl rfl (hb hby d32_54)
  have Fw71 := P2.same W71
  have N71 := Fr.snoc X71 N63 gg_p0
  have K72 : Keep h0 h71 [p0] := (Keep.refl h0 [p0]).wr W71 (Or.inl (List.mem_of_getElem? (i := 0) rfl))
  refine own_via (T71.setTop (mkF m 57 #[.val (.ref p0), .val (.int (0 : Int32)), .val (.ref el)] [])) (fun t k => st71 t k) ?_
  refine own_via (T71.setTop (mkF m 58 #[.val (.ref p0), .val (.int (0 : Int32)), .val (.ref el)] [(.ref el)])) (fun t k => XS.aloadN X71.here hx rfl (hb hby d32_57) rfl rfl k) ?_
  refine own_via (T71.setTop (mkF m 59 #[.val (.ref p0), .val (.int (0 : Int32)), .val (.ref el)] [(.ref p0), (.ref el)])) (fun t k => XS.aloadN X71.here hx rfl (hb hby d32_58) rfl rfl k) ?_
  refine own_via (T71.setTop (mkF m 60 #[.val (.ref p0), .val (.int (0 : Int32)), .val (.ref el)] [(.int (0 : Int32)), (.ref p0), (.ref el)])) (fun t k => XS.iloadN X71.here hx rfl (hb hby d32_59) rfl  k) ?_
  refine own_via (T71.setTop (mkF m 61 #[.val (.ref p0), .val (.int (0 : Int32)), .val (.ref el)] [(.int (0 : Int32)), (.ref p0), (.int (0 : Int32)), (.ref el)])) (fun t k => XS.dupX1 X71.here hx rfl (hb hby d32_60) rfl rfl rfl k) ?_
  have F74 := (P3.other W71 (Or.inr (slot_ne (Or.inl (hw _ (List.mem_of_getElem? (i := 89) rfl))) (Or.inl (hw _ (List.mem_of_getElem? (i := 104) rfl))) (by decide) (t := .int) (t' := .int) (by decide) (by decide))))
  have F75 := (P0.wr W71)
  obtain ⟨T73, h73, X73, e73, W73, st73⟩ := putF X71 hx hZ hown (host := "") (Or.inl (hw _ (List.mem_of_getElem? (i := 88) rfl))) Via.refl e71 F74 F75 (Or.inl (hw _ (List.mem_of_getElem? (i := 89) rfl))) (hw _ (List.mem_of_getElem? (i := 79) rfl)) (ty := .int) (by decide) rfl rfl (g := (mkF m 61 #[.val (.ref p0), .val (.int (0 : Int32)), .val (.ref el)] [(.int (0 : Int32)), (.ref p0), (.int (0 : Int32)), (.ref el)])) rfl rfl (hb hby d32_61)
  have Fw73 := F74.same W73
  have N73 := Fr.snoc X73 N71 gg_p0
  have K76 : Keep h0 h73 [p0] := K72.wr W73 (Or.inl (List.mem_of_getElem? (i := 0) rfl))
  refine own_via (T73.setTop (mkF m 64 #[.val (.ref p0), .val (.int (0 : Int32)), .val (.ref el)] [(.int (0 : Int32)), (.ref el)])) (fun t k => st73 t k) ?_
  have F78 := ((P8.other W71 hnf).other W73 hnf)
  obtain ⟨cl79, Ar79, S79, H79, -⟩ := id F78
  refine own_via (T73.setTop (mkF m 65 #[.val (.ref p0), .val (.int (0 : Int32)), .val (.ref el)] [(.ref o0)])) (fun t k => X73.aaload hx (j := (0 : Int32)) (v := (.ref o0)) (by rw [e73]; exact Ar79.1) (State.isArrayOf_alike hZ.alike Ar79.2.1) rfl Ar79.2.2 (own_in S79 (by decide)) (H79 0 (by decide)) (g := (mkF m 64 #[.val (.ref p0), .val (.int (0 : Int32)), .val (.ref el)] [(.int (0 : Int32)), (.ref el)])) rfl rfl (hb hby d32_64) _ k) ?_
  refine own_leave X73 Bd.notSynchronized (v := some (.ref o0)) (fun h => by rw [Bd.returns] at h; cases h) (fun fs hr => retOut X73 hx Bd.returns rfl (Or.inr (Or.inr (Or.inr (Or.inr ⟨rfl, rfl, rfl⟩)))) (hb hby d32_65) hr) ?_ (by decide) (by decide)
  have F80 := (F75.wr W73)
  have F81 := ((P1.other W71 (Or.inr (slot_ne (Or.inr (hw _ (List.mem_of_getElem? (i := 86) rfl))) (Or.inl (hw _ (List.mem_of_getElem? (i := 104) rfl))) (by decide) (t := (.object "java/util/ArrayList")) (t' := .int) (by decide) (by decide)))).other W73 (Or.inr (slot_ne (Or.inr (hw _ (List.mem_of_getElem? (i := 86) rfl))) (Or.inl (hw _ (List.mem_of_getElem? (i := 89) rfl))) (by decide) (t := (.object "java/util/ArrayList")) (t' := .int) (by decide) (by decide))))
  have F82 := (Fw71.other W73 (Or.inr (slot_ne (Or.inl (hw _ (List.mem_of_getElem? (i := 104) rfl))) (Or.inl (hw _ (List.mem_of_getElem? (i := 89) rfl))) (by decide) (t := .int) (t' := .int) (by decide) (by decide))))
  have F83 := ((P4.other W71 (Or.inr (slot_ne (Or.inl (hw _ (List.mem_of_getElem? (i := 93) rfl))) (Or.inl (hw _ (List.mem_of_getElem? (i := 104) rfl))) (by decide) (t := .int) (t' := .int) (by decide) (by decide)))).other W73 (Or.inr (slot_ne (Or.inl (hw _ (List.mem_of_getElem? (i := 93) rfl))) (Or.inl (hw _ (List.mem_of_getElem? (i := 89) rfl))) (by decide) (t := .int) (t' := .int) (by decide) (by decide))))
  show (own_Q32c01 Z p0 q la mc el o0 h0 n0) _ T73.heap _
  rw [e73]
  exact ⟨rfl, N73, K76, F80, F81, F82, Fw73, F83⟩
def own_Q32c02 (Z : State) (p0 : Addr) (q : Addr) (la : Int32) (mc : Int32) (el : Addr) (o0 : Addr) (o1 : Addr) (h0 : Heap) (n0 : Nat) (v : Option Value) (h : Heap) (L : List Loc) : Prop := v = some (.ref o0) ∧ Fr n0 L ∧ Keep h0 h [p0] ∧ Exa Z h p0 "java/util/ArrayList$Itr" ∧ Fld Z h p0 "java/util/ArrayList$Itr" "this$0" "Ljava/util/ArrayList;" (.ref q) ∧ Fld Z h p0 "java/util/ArrayList$Itr" "cursor" "I" (.int (1 : Int32)) ∧ Fld Z h p0 "java/util/ArrayList$Itr" "lastRet" "I" (.int (0 : Int32)) ∧ Fld Z h p0 "java/util/ArrayList$Itr" "expectedModCount" "I" (.int mc)
theorem ef_32c02 (m : MethodId) (p0 : Addr) : entryFrame m #[(.ref p0)] 3 = mkF m 0 #[.val (.ref p0), .unset, .unset] [] := by first | (simp [entryFrame, mkF, argsToLocals, Value.category]; done) | rfl
set_option maxRecDepth 65536 in
set_option maxHeartbeats 40000000 in
theorem rm32c02 (l : Launch) (Z : State) (a0 : Array Value) (hw : ∀ d ∈ tables_1, d.before a0 Z = true) (ws : List Jvm.Cond) (p0 : Addr) (h0 : Heap) (n0 : Nat) (Z0 : n0 ≤ h0.size) (q : Addr) (la : Int32) (mc : Int32) (el : Addr) (o0 : Addr) (o1 : Addr) (P0 : Exa Z h0 p0 "java/util/ArrayList$Itr") (P1 : Fld Z h0 p0 "java/util/ArrayList$Itr" "this$0" "Ljava/util/ArrayList;" (.ref q)) (P2 : Fld Z h0 p0 "java/util/ArrayList$Itr" "cursor" "I" (.int (0 : Int32))) (P3 : Fld Z h0 p0 "java/util/ArrayList$Itr" "lastRet" "I" (.int la)) (P4 : Fld Z h0 p0 "java/util/ArrayList$Itr" "expectedModCount" "I" (.int mc)) (P5 : Fld Z h0 q "java/util/AbstractList" "modCount" "I" (.int mc)) (P6 : Fld Z h0 q "java/util/ArrayList" "elementData" "[Ljava/lang/Object;" (.ref el)) (P7 : Fld Z h0 q "java/util/ArrayList" "size" "I" (.int (2 : Int32))) (P8 : own_Ob Z h0 el 10 [.ref o0, .ref o1]) (gg_p0 : n0 ≤ p0) (hne : q ≠ p0) (hnf : el ≠ p0) :
    MetFree l (⟨"java/util/ArrayList$Itr", "next", "()Ljava/lang/Object;"⟩ : MethodName) (head1 (Jvm.Cond.code (⟨"java/util/ArrayList$Itr", "next", "()Ljava/lang/Object;"⟩ : MethodName) jdk_49_method_3_code 3 (some (.object "java/lang/Object")) :: ws) ({ frames := 1, cells := 0, slots := 0, locals := 12 } : Room)) (fun a U => a = #[(.ref p0)] ∧ Z.Warmed39 U.vm ∧ U.heap = h0) (fun _ _ _ _ _ => True) (fun _ U o U' => ∃ v L, o = .returned v ∧ (own_Q32c02 Z p0 q la mc el o0 o1 h0 n0) v U'.heap L ∧ FrameEnd U o U' L ({ frames := 1, cells := 0, slots := 0, locals := 12 } : Room).cells ({ frames := 1, cells := 0, slots := 0, locals := 12 } : Room).slots) := by
  refine MetFree.of_bodySF (plainFor_of_name pn_java_util_ArrayList_Itr) hisR ?_
  intro p e s m args below meth c s₁ Bd hml0 hP hK
  obtain ⟨rfl, hZ, hh⟩ := hP
  have hx := Bd.exec
  have hby := Bd.bytes
  have hml : c.maxLocals = 3 := hml0
  have hown : s.vm.findClass "java/util/ArrayList$Itr" = some m.cls := findClass_of_methodNamed Bd.named
  have hnm := (name_of_methodNamed Bd.named Bd.method).1
  have X0 : Stand p l e ({ frames := 1, cells := 0, slots := 0, locals := 12 } : Room) s m #[(.ref p0)] below meth c s₁ [] 0 0 := Stand.of_body Bd
  have e0 : s₁.heap = h0 := by rw [← hh, Bd.state]; rfl
  have N0 := Fr.nil n0
  refine own_body (QQ := (own_Q32c02 Z p0 q la mc el o0 o1 h0 n0)) (ef_32c02 m p0) ?_
  refine own_via (s₁.setTop (mkF m 1 #[.val (.ref p0), .unset, .unset] [(.ref p0)])) (fun t k => XS.aloadN X0.here hx rfl (hb hby d32_0) rfl rfl k) ?_
  obtain ⟨cq84, kq84, q84a, q84b, q84c⟩ := isOf hZ e0 P0
  obtain ⟨_, _, ⟨T84, L84, k84, n84⟩, -, X84, ⟨Lc84, hQ84, l84, y84, z84⟩, st84⟩ := X0.virtualBack hx (y := (⟨"java/util/ArrayList$Itr", "checkForComodification", "()V"⟩ : MethodName)) (z := (⟨"java/util/ArrayList$Itr", "checkForComodification", "()V"⟩ : MethodName)) hown (mvT hZ (hw _ (List.mem_of_getElem? (i := 250) rfl))) (mvT hZ (hw _ (List.mem_of_getElem? (i := 251) rfl))) (notFace_of_selects (args := #[]) (mvT hZ (hw _ (List.mem_of_getElem? (i := 253) rfl)))) (mvT hZ (hw _ (List.mem_of_getElem? (i := 253) rfl))) (mvT hZ (hw _ (List.mem_of_getElem? (i := 252) rfl))) (by decide) (backOf (W := 0) (rm33 l Z a0 hw [] p0 h0 n0 (Nat.le_trans Z0 (Keep.refl h0 [p0]).1) q mc P1 P5 P4) hZ (hw _ (List.mem_of_getElem? (i := 254) rfl)) (hw _ (List.mem_of_getElem? (i := 80) rfl)) (by decide) (by decide)) q84a q84c (g := (mkF m 1 #[.val (.ref p0), .unset, .unset] [(.ref p0)])) rfl (by rw [hml]; rfl) (Steps.refl _) (argsL := []) (rest := []) (lenOf pd_0 rfl) rfl (by show 2 * 0 + _ ≤ _; exact Nat.le_of_eq rfl) (hb hby d32_1) (fun _ _ => ⟨rfl, e0, (by decide : 0 + 0 ≤ _), (by decide : 0 + 0 ≤ _)⟩)
  dsimp only [Pt.U, Pt.locs, Pt.cells, Pt.slots] at X84 l84 y84 z84 st84 hQ84
  rw [y84, z84] at X84
  have X84 : Stand _ _ _ _ _ _ _ _ _ _ T84 L84 0 0 := X84
  obtain ⟨rfl, N84q, e84⟩ := hQ84
  have N84 : Fr n0 L84 := by rw [l84]; exact Fr.app N0 N84q
  refine own_via (T84.setTop (mkF m 4 #[.val (.ref p0), .unset, .unset] [])) (fun t k => st84.trans k) ?_
  refine own_via (T84.setTop (mkF m 5 #[.val (.ref p0), .unset, .unset] [(.ref p0)])) (fun t k => XS.aloadN X84.here hx rfl (hb hby d32_4) rfl rfl k) ?_
  obtain ⟨T85, X85, e85, st85⟩ := getF X84 hx hZ hown (host := "") (Or.inl (hw _ (List.mem_of_getElem? (i := 103) rfl))) Via.refl e84 P2 (g := (mkF m 5 #[.val (.ref p0), .unset, .unset] [(.ref p0)])) rfl rfl (hb hby d32_5)
  refine own_via (T85.setTop (mkF m 8 #[.val (.ref p0), .unset, .unset] [(.int (0 : Int32))])) (fun t k => st85 t k) ?_
  refine own_via (T85.setTop (mkF m 9 #[.val (.ref p0), .val (.int (0 : Int32)), .unset] [])) (fun t k => XS.istoreN X85.here hx rfl (hb hby d32_8) rfl (l' := #[.val (.ref p0), .val (.int (0 : Int32)), .unset]) rfl k) ?_
  refine own_via (T85.setTop (mkF m 10 #[.val (.ref p0), .val (.int (0 : Int32)), .unset] [(.int (0 : Int32))])) (fun t k => XS.iloadN X85.here hx rfl (hb hby d32_9) rfl  k) ?_
  refine own_via (T85.setTop (mkF m 11 #[.val (.ref p0), .val (.int (0 : Int32)), .unset] [(.ref p0), (.int (0 : Int32))])) (fun t k => XS.aloadN X85.here hx rfl (hb hby d32_10) rfl rfl k) ?_
  obtain ⟨T86, X86, e86, st86⟩ := getF X85 hx hZ hown (host := "") (Or.inl (hw _ (List.mem_of_getElem? (i := 85) rfl))) Via.refl e85 P1 (g := (mkF m 11 #[.val (.ref p0), .val (.int (0 : Int32)), .unset] [(.ref p0), (.int (0 : Int32))])) rfl rfl (hb hby d32_11)
  refine own_via (T86.setTop (mkF m 14 #[.val (.ref p0), .val (.int (0 : Int32)), .unset] [(.ref q), (.int (0 : Int32))])) (fun t k => st86 t k) ?_
  obtain ⟨T87, X87, e87, st87⟩ := getF X86 hx hZ hown (Or.inr (hw _ (List.mem_of_getElem? (i := 105) rfl))) Via.refl e86 P7 (g := (mkF m 14 #[.val (.ref p0), .val (.int (0 : Int32)), .unset] [(.ref q), (.int (0 : Int32))])) rfl rfl (hb hby d32_14)
  refine own_via (T87.setTop (mkF m 17 #[.val (.ref p0), .val (.int (0 : Int32)), .unset] [(.int (2 : Int32)), (.int (0 : Int32))])) (fun t k => st87 t k) ?_
  refine own_via (T87.setTop (mkF m 28 #[.val (.ref p0), .val (.int (0 : Int32)), .unset] [])) (fun t k => XS.icmpYes X87.here hx rfl (pc0 := 17) (pc' := 28) rfl (hb hby d32_17) rfl (tlt (by decide)).1 (by decide) (by decide) k) ?_
  refine own_via (T87.setTop (mkF m 29 #[.val (.ref p0), .val (.int (0 : Int32)), .unset] [(.ref p0)])) (fun t k => XS.aloadN X87.here hx rfl (hb hby d32_28) rfl rfl k) ?_
  obtain ⟨T88, X88, e88, st88⟩ := getF X87 hx hZ hown (host := "") (Or.inl (hw _ (List.mem_of_getElem? (i := 85) rfl))) Via.refl e87 P1 (g := (mkF m 29 #[.val (.ref p0), .val (.int (0 : Int32)), .unset] [(.ref p0)])) rfl rfl (hb hby d32_29)
  refine own_via (T88.setTop (mkF m 32 #[.val (.ref p0), .val (.int (0 : Int32)), .unset] [(.ref q)])) (fun t k => st88 t k) ?_
  obtain ⟨T89, X89, e89, st89⟩ := getF X88 hx hZ hown (host := "") (Or.inl (hw _ (List.mem_of_getElem? (i := 255) rfl))) Via.refl e88 P6 (g := (mkF m 32 #[.val (.ref p0), .val (.int (0 : Int32)), .unset] [(.ref q)])) rfl rfl (hb hby d32_32)
  refine own_via (T89.setTop (mkF m 35 #[.val (.ref p0), .val (.int (0 : Int32)), .unset] [(.ref el)])) (fun t k => st89 t k) ?_
  refine own_via (T89.setTop (mkF m 36 #[.val (.ref p0), .val (.int (0 : Int32)), .val (.ref el)] [])) (fun t k => XS.astoreN X89.here hx rfl (hb hby d32_35) rfl rfl (l' := #[.val (.ref p0), .val (.int (0 : Int32)), .val (.ref el)]) rfl k) ?_
  refine own_via (T89.setTop (mkF m 37 #[.val (.ref p0), .val (.int (0 : Int32)), .val (.ref el)] [(.int (0 : Int32))])) (fun t k => XS.iloadN X89.here hx rfl (hb hby d32_36) rfl  k) ?_
  refine own_via (T89.setTop (mkF m 38 #[.val (.ref p0), .val (.int (0 : Int32)), .val (.ref el)] [(.ref el), (.int (0 : Int32))])) (fun t k => XS.aloadN X89.here hx rfl (hb hby d32_37) rfl rfl k) ?_
  obtain ⟨cl91, Ar91, S91, H91, -⟩ := id P8
  refine own_via (T89.setTop (mkF m 39 #[.val (.ref p0), .val (.int (0 : Int32)), .val (.ref el)] [(.int (10 : Int32)), (.int (0 : Int32))])) (fun t k => X89.arraylength hx (by rw [e89]; exact Ar91.1) (State.isArrayOf_alike hZ.alike Ar91.2.1) (g := (mkF m 38 #[.val (.ref p0), .val (.int (0 : Int32)), .val (.ref el)] [(.ref el), (.int (0 : Int32))])) rfl rfl (hb hby d32_38) _ (by rw [S91]; exact k)) ?_
  refine own_via (T89.setTop (mkF m 50 #[.val (.ref p0), .val (.int (0 : Int32)), .val (.ref el)] [])) (fun t k => XS.icmpYes X89.here hx rfl (pc0 := 39) (pc' := 50) rfl (hb hby d32_39) rfl (tlt (by decide)).1 (by decide) (by decide) k) ?_
  refine own_via (T89.setTop (mkF m 51 #[.val (.ref p0), .val (.int (0 : Int32)), .val (.ref el)] [(.ref p0)])) (fun t k => XS.aloadN X89.here hx rfl (hb hby d32_50) rfl rfl k) ?_
  refine own_via (T89.setTop (mkF m 52 #[.val (.ref p0), .val (.int (0 : Int32)), .val (.ref el)] [(.int (0 : Int32)), (.ref p0)])) (fun t k => XS.iloadN X89.here hx rfl (hb hby d32_51) rfl  k) ?_
  refine own_via (T89.setTop (mkF m 53 #[.val (.ref p0), .val (.int (0 : Int32)), .val (.ref el)] [(.int (1 : Int32)), (.int (0 : Int32)), (.ref p0)])) (fun t k => XS.iconst X89.here hx rfl (hb hby d32_52) k) ?_
  refine own_via (T89.setTop (mkF m 54 #[.val (.ref p0), .val (.int (0 : Int32)), .val (.ref el)] [(.int (1 : Int32)), (.ref p0)])) (fun t k => XS.iadd X89.here hx rfl (hb hby d32_53) rfl k) ?_
  obtain ⟨T92, h92, X92, e92, W92, st92⟩ := putF X89 hx hZ hown (host := "") (Or.inl (hw _ (List.mem_of_getElem? (i := 103) rfl))) Via.refl e89 P2 P0 (Or.inl (hw _ (List.mem_of_getElem? (i := 104) rfl))) (hw _ (List.mem_of_getElem? (i := 79) rfl)) (ty := .int) (by decide) rfl rfl (g := (mkF m 54 #[.val (.ref p0), .val (.int (0 : Int32)), .val (.ref el)] [(.int (1 : Int32)), (.ref p0)])) rfl rfl (hb hby d32_54)
  have Fw92 := P2.same W92
  have N92 := Fr.snoc X92 N84 gg_p0
  have K93 : Keep h0 h92 [p0] := (Keep.refl h0 [p0]).wr W92 (Or.inl (List.mem_of_getElem? (i := 0) rfl))
  refine own_via (T92.setTop (mkF m 57 #[.val (.ref p0), .val (.int (0 : Int32)), .val (.ref el)] [])) (fun t k => st92 t k) ?_
  refine own_via (T92.setTop (mkF m 58 #[.val (.ref p0), .val (.int (0 : Int32)), .val (.ref el)] [(.ref el)])) (fun t k => XS.aloadN X92.here hx rfl (hb hby d32_57) rfl rfl k) ?_
  refine own_via (T92.setTop (mkF m 59 #[.val (.ref p0), .val (.int (0 : Int32)), .val (.ref el)] [(.ref p0), (.ref el)])) (fun t k => XS.aloadN X92.here hx rfl (hb hby d32_58) rfl rfl k) ?_
  refine own_via (T92.setTop (mkF m 60 #[.val (.ref p0), .val (.int (0 : Int32)), .val (.ref el)] [(.int (0 : Int32)), (.ref p0), (.ref el)])) (fun t k => XS.iloadN X92.here hx rfl (hb hby d32_59) rfl  k) ?_
  refine own_via (T92.setTop (mkF m 61 #[.val (.ref p0), .val (.int (0 : Int32)), .val (.ref el)] [(.int (0 : Int32)), (.ref p0), (.int (0 : Int32)), (.ref el)])) (fun t k => XS.dupX1 X92.here hx rfl (hb hby d32_60) rfl rfl rfl k) ?_
  have F95 := (P3.other W92 (Or.inr (slot_ne (Or.inl (hw _ (List.mem_of_getElem? (i := 89) rfl))) (Or.inl (hw _ (List.mem_of_getElem? (i := 104) rfl))) (by decide) (t := .int) (t' := .int) (by decide) (by decide))))
  have F96 := (P0.wr W92)
  obtain ⟨T94, h94, X94, e94, W94, st94⟩ := putF X92 hx hZ hown (host := "") (Or.inl (hw _ (List.mem_of_getElem? (i := 88) rfl))) Via.refl e92 F95 F96 (Or.inl (hw _ (List.mem_of_getElem? (i := 89) rfl))) (hw _ (List.mem_of_getElem? (i := 79) rfl)) (ty := .int) (by decide) rfl rfl (g := (mkF m 61 #[.val (.ref p0), .val (.int (0 : Int32)), .val (.ref el)] [(.int (0 : Int32)), (.ref p0), (.int (0 : Int32)), (.ref el)])) rfl rfl (hb hby d32_61)
  have Fw94 := F95.same W94
  have N94 := Fr.snoc X94 N92 gg_p0
  have K97 : Keep h0 h94 [p0] := K93.wr W94 (Or.inl (List.mem_of_getElem? (i := 0) rfl))
  refine own_via (T94.setTop (mkF m 64 #[.val (.ref p0), .val (.int (0 : Int32)), .val (.ref el)] [(.int (0 : Int32)), (.ref el)])) (fun t k => st94 t k) ?_
  have F99 := ((P8.other W92 hnf).other W94 hnf)
  obtain ⟨cl100, Ar100, S100, H100, -⟩ := id F99
  refine own_via (T94.setTop (mkF m 65 #[.val (.ref p0), .val (.int (0 : Int32)), .val (.ref el)] [(.ref o0)])) (fun t k => X94.aaload hx (j := (0 : Int32)) (v := (.ref o0)) (by rw [e94]; exact Ar100.1) (State.isArrayOf_alike hZ.alike Ar100.2.1) rfl Ar100.2.2 (own_in S100 (by decide)) (H100 0 (by decide)) (g := (mkF m 64 #[.val (.ref p0), .val (.int (0 : Int32)), .val (.ref el)] [(.int (0 : Int32)), (.ref el)])) rfl rfl (hb hby d32_64) _ k) ?_
  refine own_leave X94 Bd.notSynchronized (v := some (.ref o0)) (fun h => by rw [Bd.returns] at h; cases h) (fun fs hr => retOut X94 hx Bd.returns rfl (Or.inr (Or.inr (Or.inr (Or.inr ⟨rfl, rfl, rfl⟩)))) (hb hby d32_65) hr) ?_ (by decide) (by decide)
  have F101 := (F96.wr W94)
  have F102 := ((P1.other W92 (Or.inr (slot_ne (Or.inr (hw _ (List.mem_of_getElem? (i := 86) rfl))) (Or.inl (hw _ (List.mem_of_getElem? (i := 104) rfl))) (by decide) (t := (.object "java/util/ArrayList")) (t' := .int) (by decide) (by decide)))).other W94 (Or.inr (slot_ne (Or.inr (hw _ (List.mem_of_getElem? (i := 86) rfl))) (Or.inl (hw _ (List.mem_of_getElem? (i := 89) rfl))) (by decide) (t := (.object "java/util/ArrayList")) (t' := .int) (by decide) (by decide))))
  have F103 := (Fw92.other W94 (Or.inr (slot_ne (Or.inl (hw _ (List.mem_of_getElem? (i := 104) rfl))) (Or.inl (hw _ (List.mem_of_getElem? (i := 89) rfl))) (by decide) (t := .int) (t' := .int) (by decide) (by decide))))
  have F104 := ((P4.other W92 (Or.inr (slot_ne (Or.inl (hw _ (List.mem_of_getElem? (i := 93) rfl))) (Or.inl (hw _ (List.mem_of_getElem? (i := 104) rfl))) (by decide) (t := .int) (t' := .int) (by decide) (by decide)))).other W94 (Or.inr (slot_ne (Or.inl (hw _ (List.mem_of_getElem? (i := 93) rfl))) (Or.inl (hw _ (List.mem_of_getElem? (i := 89) rfl))) (by decide) (t := .int) (t' := .int) (by decide) (by decide))))
  show (own_Q32c02 Z p0 q la mc el o0 o1 h0 n0) _ T94.heap _
  rw [e94]
  exact ⟨rfl, N94, K97, F101, F102, F103, Fw94, F104⟩
def own_Q32c12 (Z : State) (p0 : Addr) (q : Addr) (la : Int32) (mc : Int32) (el : Addr) (o0 : Addr) (o1 : Addr) (h0 : Heap) (n0 : Nat) (v : Option Value) (h : Heap) (L : List Loc) : Prop := v = some (.ref o1) ∧ Fr n0 L ∧ Keep h0 h [p0] ∧ Exa Z h p0 "java/util/ArrayList$Itr" ∧ Fld Z h p0 "java/util/ArrayList$Itr" "this$0" "Ljava/util/ArrayList;" (.ref q) ∧ Fld Z h p0 "java/util/ArrayList$Itr" "cursor" "I" (.int (2 : Int32)) ∧ Fld Z h p0 "java/util/ArrayList$Itr" "lastRet" "I" (.int (1 : Int32)) ∧ Fld Z h p0 "java/util/ArrayList$Itr" "expectedModCount" "I" (.int mc)
theorem ef_32c12 (m : MethodId) (p0 : Addr) : entryFrame m #[(.ref p0)] 3 = mkF m 0 #[.val (.ref p0), .unset, .unset] [] := by first | (simp [entryFrame, mkF, argsToLocals, Value.category]; done) | rfl
set_option maxRecDepth 65536 in
set_option maxHeartbeats 40000000 in
theorem rm32c12 (l : Launch) (Z : State) (a0 : Array Value) (hw : ∀ d ∈ tables_1, d.before a0 Z = true) (ws : List Jvm.Cond) (p0 : Addr) (h0 : Heap) (n0 : Nat) (Z0 : n0 ≤ h0.size) (q : Addr) (la : Int32) (mc : Int32) (el : Addr) (o0 : Addr) (o1 : Addr) (P0 : Exa Z h0 p0 "java/util/ArrayList$Itr") (P1 : Fld Z h0 p0 "java/util/ArrayList$Itr" "this$0" "Ljava/util/ArrayList;" (.ref q)) (P2 : Fld Z h0 p0 "java/util/ArrayList$Itr" "cursor" "I" (.int (1 : Int32))) (P3 : Fld Z h0 p0 "java/util/ArrayList$Itr" "lastRet" "I" (.int la)) (P4 : Fld Z h0 p0 "java/util/ArrayList$Itr" "expectedModCount" "I" (.int mc)) (P5 : Fld Z h0 q "java/util/AbstractList" "modCount" "I" (.int mc)) (P6 : Fld Z h0 q "java/util/ArrayList" "elementData" "[Ljava/lang/Object;" (.ref el)) (P7 : Fld Z h0 q "java/util/ArrayList" "size" "I" (.int (2 : Int32))) (P8 : own_Ob Z h0 el 10 [.ref o0, .ref o1]) (gg_p0 : n0 ≤ p0) (hne : q ≠ p0) (hnf : el ≠ p0) :
    MetFree l (⟨"java/util/ArrayList$Itr", "next", "()Ljava/lang/Object;"⟩ : MethodName) (head1 (Jvm.Cond.code (⟨"java/util/ArrayList$Itr", "next", "()Ljava/lang/Object;"⟩ : MethodName) jdk_49_method_3_code 3 (some (.object "java/lang/Object")) :: ws) ({ frames := 1, cells := 0, slots := 0, locals := 12 } : Room)) (fun a U => a = #[(.ref p0)] ∧ Z.Warmed39 U.vm ∧ U.heap = h0) (fun _ _ _ _ _ => True) (fun _ U o U' => ∃ v L, o = .returned v ∧ (own_Q32c12 Z p0 q la mc el o0 o1 h0 n0) v U'.heap L ∧ FrameEnd U o U' L ({ frames := 1, cells := 0, slots := 0, locals := 12 } : Room).cells ({ frames := 1, cells := 0, slots := 0, locals := 12 } : Room).slots) := by
  refine MetFree.of_bodySF (plainFor_of_name pn_java_util_ArrayList_Itr) hisR ?_
  intro p e s m args below meth c s₁ Bd hml0 hP hK
  obtain ⟨rfl, hZ, hh⟩ := hP
  have hx := Bd.exec
  have hby := Bd.bytes
  have hml : c.maxLocals = 3 := hml0
  have hown : s.vm.findClass "java/util/ArrayList$Itr" = some m.cls := findClass_of_methodNamed Bd.named
  have hnm := (name_of_methodNamed Bd.named Bd.method).1
  have X0 : Stand p l e ({ frames := 1, cells := 0, slots := 0, locals := 12 } : Room) s m #[(.ref p0)] below meth c s₁ [] 0 0 := Stand.of_body Bd
  have e0 : s₁.heap = h0 := by rw [← hh, Bd.state]; rfl
  have N0 := Fr.nil n0
  refine own_body (QQ := (own_Q32c12 Z p0 q la mc el o0 o1 h0 n0)) (ef_32c12 m p0) ?_
  refine own_via (s₁.setTop (mkF m 1 #[.val (.ref p0), .unset, .unset] [(.ref p0)])) (fun t k => XS.aloadN X0.here hx rfl (hb hby d32_0) rfl rfl k) ?_
  obtain ⟨cq105, kq105, q105a, q105b, q105c⟩ := isOf hZ e0 P0
  obtain ⟨_, _, ⟨T105, L105, k105, n105⟩, -, X105, ⟨Lc105, hQ105, l105, y105, z105⟩, st105⟩ := X0.virtualBack hx (y := (⟨"java/util/ArrayList$Itr", "checkForComodification", "()V"⟩ : MethodName)) (z := (⟨"java/util/ArrayList$Itr", "checkForComodification", "()V"⟩ : MethodName)) hown (mvT hZ (hw _ (List.mem_of_getElem? (i := 250) rfl))) (mvT hZ (hw _ (List.mem_of_getElem? (i := 251) rfl))) (notFace_of_selects (args := #[]) (mvT hZ (hw _ (List.mem_of_getElem? (i := 253) rfl)))) (mvT hZ (hw _ (List.mem_of_getElem? (i := 253) rfl))) (mvT hZ (hw _ (List.mem_of_getElem? (i := 252) rfl))) (by decide) (backOf (W := 0) (rm33 l Z a0 hw [] p0 h0 n0 (Nat.le_trans Z0 (Keep.refl h0 [p0]).1) q mc P1 P5 P4) hZ (hw _ (List.mem_of_getElem? (i := 254) rfl)) (hw _ (List.mem_of_getElem? (i := 80) rfl)) (by decide) (by decide)) q105a q105c (g := (mkF m 1 #[.val (.ref p0), .unset, .unset] [(.ref p0)])) rfl (by rw [hml]; rfl) (Steps.refl _) (argsL := []) (rest := []) (lenOf pd_0 rfl) rfl (by show 2 * 0 + _ ≤ _; exact Nat.le_of_eq rfl) (hb hby d32_1) (fun _ _ => ⟨rfl, e0, (by decide : 0 + 0 ≤ _), (by decide : 0 + 0 ≤ _)⟩)
  dsimp only [Pt.U, Pt.locs, Pt.cells, Pt.slots] at X105 l105 y105 z105 st105 hQ105
  rw [y105, z105] at X105
  have X105 : Stand _ _ _ _ _ _ _ _ _ _ T105 L105 0 0 := X105
  obtain ⟨rfl, N105q, e105⟩ := hQ105
  have N105 : Fr n0 L105 := by rw [l105]; exact Fr.app N0 N105q
  refine own_via (T105.setTop (mkF m 4 #[.val (.ref p0), .unset, .unset] [])) (fun t k => st105.trans k) ?_
  refine own_via (T105.setTop (mkF m 5 #[.val (.ref p0), .unset, .unset] [(.ref p0)])) (fun t k => XS.aloadN X105.here hx rfl (hb hby d32_4) rfl rfl k) ?_
  obtain ⟨T106, X106, e106, st106⟩ := getF X105 hx hZ hown (host := "") (Or.inl (hw _ (List.mem_of_getElem? (i := 103) rfl))) Via.refl e105 P2 (g := (mkF m 5 #[.val (.ref p0), .unset, .unset] [(.ref p0)])) rfl rfl (hb hby d32_5)
  refine own_via (T106.setTop (mkF m 8 #[.val (.ref p0), .unset, .unset] [(.int (1 : Int32))])) (fun t k => st106 t k) ?_
  refine own_via (T106.setTop (mkF m 9 #[.val (.ref p0), .val (.int (1 : Int32)), .unset] [])) (fun t k => XS.istoreN X106.here hx rfl (hb hby d32_8) rfl (l' := #[.val (.ref p0), .val (.int (1 : Int32)), .unset]) rfl k) ?_
  refine own_via (T106.setTop (mkF m 10 #[.val (.ref p0), .val (.int (1 : Int32)), .unset] [(.int (1 : Int32))])) (fun t k => XS.iloadN X106.here hx rfl (hb hby d32_9) rfl  k) ?_
  refine own_via (T106.setTop (mkF m 11 #[.val (.ref p0), .val (.int (1 : Int32)), .unset] [(.ref p0), (.int (1 : Int32))])) (fun t k => XS.aloadN X106.here hx rfl (hb hby d32_10) rfl rfl k) ?_
  obtain ⟨T107, X107, e107, st107⟩ := getF X106 hx hZ hown (host := "") (Or.inl (hw _ (List.mem_of_getElem? (i := 85) rfl))) Via.refl e106 P1 (g := (mkF m 11 #[.val (.ref p0), .val (.int (1 : Int32)), .unset] [(.ref p0), (.int (1 : Int32))])) rfl rfl (hb hby d32_11)
  refine own_via (T107.setTop (mkF m 14 #[.val (.ref p0), .val (.int (1 : Int32)), .unset] [(.ref q), (.int (1 : Int32))])) (fun t k => st107 t k) ?_
  obtain ⟨T108, X108, e108, st108⟩ := getF X107 hx hZ hown (Or.inr (hw _ (List.mem_of_getElem? (i := 105) rfl))) Via.refl e107 P7 (g := (mkF m 14 #[.val (.ref p0), .val (.int (1 : Int32)), .unset] [(.ref q), (.int (1 : Int32))])) rfl rfl (hb hby d32_14)
  refine own_via (T108.setTop (mkF m 17 #[.val (.ref p0), .val (.int (1 : Int32)), .unset] [(.int (2 : Int32)), (.int (1 : Int32))])) (fun t k => st108 t k) ?_
  refine own_via (T108.setTop (mkF m 28 #[.val (.ref p0), .val (.int (1 : Int32)), .unset] [])) (fun t k => XS.icmpYes X108.here hx rfl (pc0 := 17) (pc' := 28) rfl (hb hby d32_17) rfl (tlt (by decide)).1 (by decide) (by decide) k) ?_
  refine own_via (T108.setTop (mkF m 29 #[.val (.ref p0), .val (.int (1 : Int32)), .unset] [(.ref p0)])) (fun t k => XS.aloadN X108.here hx rfl (hb hby d32_28) rfl rfl k) ?_
  obtain ⟨T109, X109, e109, st109⟩ := getF X108 hx hZ hown (host := "") (Or.inl (hw _ (List.mem_of_getElem? (i := 85) rfl))) Via.refl e108 P1 (g := (mkF m 29 #[.val (.ref p0), .val (.int (1 : Int32)), .unset] [(.ref p0)])) rfl rfl (hb hby d32_29)
  refine own_via (T109.setTop (mkF m 32 #[.val (.ref p0), .val (.int (1 : Int32)), .unset] [(.ref q)])) (fun t k => st109 t k) ?_
  obtain ⟨T110, X110, e110, st110⟩ := getF X109 hx hZ hown (host := "") (Or.inl (hw _ (List.mem_of_getElem? (i := 255) rfl))) Via.refl e109 P6 (g := (mkF m 32 #[.val (.ref p0), .val (.int (1 : Int32)), .unset] [(.ref q)])) rfl rfl (hb hby d32_32)
  refine own_via (T110.setTop (mkF m 35 #[.val (.ref p0), .val (.int (1 : Int32)), .unset] [(.ref el)])) (fun t k => st110 t k) ?_
  refine own_via (T110.setTop (mkF m 36 #[.val (.ref p0), .val (.int (1 : Int32)), .val (.ref el)] [])) (fun t k => XS.astoreN X110.here hx rfl (hb hby d32_35) rfl rfl (l' := #[.val (.ref p0), .val (.int (1 : Int32)), .val (.ref el)]) rfl k) ?_
  refine own_via (T110.setTop (mkF m 37 #[.val (.ref p0), .val (.int (1 : Int32)), .val (.ref el)] [(.int (1 : Int32))])) (fun t k => XS.iloadN X110.here hx rfl (hb hby d32_36) rfl  k) ?_
  refine own_via (T110.setTop (mkF m 38 #[.val (.ref p0), .val (.int (1 : Int32)), .val (.ref el)] [(.ref el), (.int (1 : Int32))])) (fun t k => XS.aloadN X110.here hx rfl (hb hby d32_37) rfl rfl k) ?_
  obtain ⟨cl112, Ar112, S112, H112, -⟩ := id P8
  refine own_via (T110.setTop (mkF m 39 #[.val (.ref p0), .val (.int (1 : Int32)), .val (.ref el)] [(.int (10 : Int32)), (.int (1 : Int32))])) (fun t k => X110.arraylength hx (by rw [e110]; exact Ar112.1) (State.isArrayOf_alike hZ.alike Ar112.2.1) (g := (mkF m 38 #[.val (.ref p0), .val (.int (1 : Int32)), .val (.ref el)] [(.ref el), (.int (1 : Int32))])) rfl rfl (hb hby d32_38) _ (by rw [S112]; exact k)) ?_
  refine own_via (T110.setTop (mkF m 50 #[.val (.ref p0), .val (.int (1 : Int32)), .val (.ref el)] [])) (fun t k => XS.icmpYes X110.here hx rfl (pc0 := 39) (pc' := 50) rfl (hb hby d32_39) rfl (tlt (by decide)).1 (by decide) (by decide) k) ?_
  refine own_via (T110.setTop (mkF m 51 #[.val (.ref p0), .val (.int (1 : Int32)), .val (.ref el)] [(.ref p0)])) (fun t k => XS.aloadN X110.here hx rfl (hb hby d32_50) rfl rfl k) ?_
  refine own_via (T110.setTop (mkF m 52 #[.val (.ref p0), .val (.int (1 : Int32)), .val (.ref el)] [(.int (1 : Int32)), (.ref p0)])) (fun t k => XS.iloadN X110.here hx rfl (hb hby d32_51) rfl  k) ?_
  refine own_via (T110.setTop (mkF m 53 #[.val (.ref p0), .val (.int (1 : Int32)), .val (.ref el)] [(.int (1 : Int32)), (.int (1 : Int32)), (.ref p0)])) (fun t k => XS.iconst X110.here hx rfl (hb hby d32_52) k) ?_
  refine own_via (T110.setTop (mkF m 54 #[.val (.ref p0), .val (.int (1 : Int32)), .val (.ref el)] [(.int (2 : Int32)), (.ref p0)])) (fun t k => XS.iadd X110.here hx rfl (hb hby d32_53) rfl k) ?_
  obtain ⟨T113, h113, X113, e113, W113, st113⟩ := putF X110 hx hZ hown (host := "") (Or.inl (hw _ (List.mem_of_getElem? (i := 103) rfl))) Via.refl e110 P2 P0 (Or.inl (hw _ (List.mem_of_getElem? (i := 104) rfl))) (hw _ (List.mem_of_getElem? (i := 79) rfl)) (ty := .int) (by decide) rfl rfl (g := (mkF m 54 #[.val (.ref p0), .val (.int (1 : Int32)), .val (.ref el)] [(.int (2 : Int32)), (.ref p0)])) rfl rfl (hb hby d32_54)
  have Fw113 := P2.same W113
  have N113 := Fr.snoc X113 N105 gg_p0
  have K114 : Keep h0 h113 [p0] := (Keep.refl h0 [p0]).wr W113 (Or.inl (List.mem_of_getElem? (i := 0) rfl))
  refine own_via (T113.setTop (mkF m 57 #[.val (.ref p0), .val (.int (1 : Int32)), .val (.ref el)] [])) (fun t k => st113 t k) ?_
  refine own_via (T113.setTop (mkF m 58 #[.val (.ref p0), .val (.int (1 : Int32)), .val (.ref el)] [(.ref el)])) (fun t k => XS.aloadN X113.here hx rfl (hb hby d32_57) rfl rfl k) ?_
  refine own_via (T113.setTop (mkF m 59 #[.val (.ref p0), .val (.int (1 : Int32)), .val (.ref el)] [(.ref p0), (.ref el)])) (fun t k => XS.aloadN X113.here hx rfl (hb hby d32_58) rfl rfl k) ?_
  refine own_via (T113.setTop (mkF m 60 #[.val (.ref p0), .val (.int (1 : Int32)), .val (.ref el)] [(.int (1 : Int32)), (.ref p0), (.ref el)])) (fun t k => XS.iloadN X113.here hx rfl (hb hby d32_59) rfl  k) ?_
  refine own_via (T113.setTop (mkF m 61 #[.val (.ref p0), .val (.int (1 : Int32)), .val (.ref el)] [(.int (1 : Int32)), (.ref p0), (.int (1 : Int32)), (.ref el)])) (fun t k => XS.dupX1 X113.here hx rfl (hb hby d32_60) rfl rfl rfl k) ?_
  have F116 := (P3.other W113 (Or.inr (slot_ne (Or.inl (hw _ (List.mem_of_getElem? (i := 89) rfl))) (Or.inl (hw _ (List.mem_of_getElem? (i := 104) rfl))) (by decide) (t := .int) (t' := .int) (by decide) (by decide))))
  have F117 := (P0.wr W113)
  obtain ⟨T115, h115, X115, e115, W115, st115⟩ := putF X113 hx hZ hown (host := "") (Or.inl (hw _ (List.mem_of_getElem? (i := 88) rfl))) Via.refl e113 F116 F117 (Or.inl (hw _ (List.mem_of_getElem? (i := 89) rfl))) (hw _ (List.mem_of_getElem? (i := 79) rfl)) (ty := .int) (by decide) rfl rfl (g := (mkF m 61 #[.val (.ref p0), .val (.int (1 : Int32)), .val (.ref el)] [(.int (1 : Int32)), (.ref p0), (.int (1 : Int32)), (.ref el)])) rfl rfl (hb hby d32_61)
  have Fw115 := F116.same W115
  have N115 := Fr.snoc X115 N113 gg_p0
  have K118 : Keep h0 h115 [p0] := K114.wr W115 (Or.inl (List.mem_of_getElem? (i := 0) rfl))
  refine own_via (T115.setTop (mkF m 64 #[.val (.ref p0), .val (.int (1 : Int32)), .val (.ref el)] [(.int (1 : Int32)), (.ref el)])) (fun t k => st115 t k) ?_
  have F120 := ((P8.other W113 hnf).other W115 hnf)
  obtain ⟨cl121, Ar121, S121, H121, -⟩ := id F120
  refine own_via (T115.setTop (mkF m 65 #[.val (.ref p0), .val (.int (1 : Int32)), .val (.ref el)] [(.ref o1)])) (fun t k => X115.aaload hx (j := (1 : Int32)) (v := (.ref o1)) (by rw [e115]; exact Ar121.1) (State.isArrayOf_alike hZ.alike Ar121.2.1) rfl Ar121.2.2 (own_in S121 (by decide)) (H121 1 (by decide)) (g := (mkF m 64 #[.val (.ref p0), .val (.int (1 : Int32)), .val (.ref el)] [(.int (1 : Int32)), (.ref el)])) rfl rfl (hb hby d32_64) _ k) ?_
  refine own_leave X115 Bd.notSynchronized (v := some (.ref o1)) (fun h => by rw [Bd.returns] at h; cases h) (fun fs hr => retOut X115 hx Bd.returns rfl (Or.inr (Or.inr (Or.inr (Or.inr ⟨rfl, rfl, rfl⟩)))) (hb hby d32_65) hr) ?_ (by decide) (by decide)
  have F122 := (F117.wr W115)
  have F123 := ((P1.other W113 (Or.inr (slot_ne (Or.inr (hw _ (List.mem_of_getElem? (i := 86) rfl))) (Or.inl (hw _ (List.mem_of_getElem? (i := 104) rfl))) (by decide) (t := (.object "java/util/ArrayList")) (t' := .int) (by decide) (by decide)))).other W115 (Or.inr (slot_ne (Or.inr (hw _ (List.mem_of_getElem? (i := 86) rfl))) (Or.inl (hw _ (List.mem_of_getElem? (i := 89) rfl))) (by decide) (t := (.object "java/util/ArrayList")) (t' := .int) (by decide) (by decide))))
  have F124 := (Fw113.other W115 (Or.inr (slot_ne (Or.inl (hw _ (List.mem_of_getElem? (i := 104) rfl))) (Or.inl (hw _ (List.mem_of_getElem? (i := 89) rfl))) (by decide) (t := .int) (t' := .int) (by decide) (by decide))))
  have F125 := ((P4.other W113 (Or.inr (slot_ne (Or.inl (hw _ (List.mem_of_getElem? (i := 93) rfl))) (Or.inl (hw _ (List.mem_of_getElem? (i := 104) rfl))) (by decide) (t := .int) (t' := .int) (by decide) (by decide)))).other W115 (Or.inr (slot_ne (Or.inl (hw _ (List.mem_of_getElem? (i := 93) rfl))) (Or.inl (hw _ (List.mem_of_getElem? (i := 89) rfl))) (by decide) (t := .int) (t' := .int) (by decide) (by decide))))
  show (own_Q32c12 Z p0 q la mc el o0 o1 h0 n0) _ T115.heap _
  rw [e115]
  exact ⟨rfl, N115, K118, F122, F123, F124, Fw115, F125⟩
def own_Q34 (Z : State) (p0 : Addr) (kA : Addr) (h0 : Heap) (n0 : Nat) (v : Option Value) (h : Heap) (L : List Loc) : Prop := v = some (.ref kA) ∧ Fr n0 L ∧ h = h0
theorem d34_0 : decode prog_15_method_5_code 0 = .ok (.aload_n 0, 1) := by decide +kernel
theorem d34_1 : decode prog_15_method_5_code 1 = .ok (.getfield 7, 3) := by decide +kernel
theorem d34_4 : decode prog_15_method_5_code 4 = .ok (.areturn, 1) := by decide +kernel
theorem pn_com_example_unweave_unweave_abstraction_Operation : plainName "com/example/unweave/unweave/abstraction/Operation" = true := by first | (simp [plainName, overriddenIn]; done) | decide +kernel
theorem ef_34 (m : MethodId) (p0 : Addr) : entryFrame m #[(.ref p0)] 1 = mkF m 0 #[.val (.ref p0)] [] := by first | (simp [entryFrame, mkF, argsToLocals, Value.category]; done) | rfl
set_option maxRecDepth 65536 in
set_option maxHeartbeats 40000000 in
theorem rm34 (l : Launch) (Z : State) (a0 : Array Value) (hw : ∀ d ∈ tables_1, d.before a0 Z = true) (ws : List Jvm.Cond) (p0 : Addr) (h0 : Heap) (n0 : Nat) (Z0 : n0 ≤ h0.size) (kA : Addr) (P0 : Fld Z h0 p0 "com/example/unweave/unweave/abstraction/Operation" "m_eKind" "Lcom/example/unweave/unweave/abstraction/Operation$EKind;" (.ref kA)) :
    MetFree l (⟨"com/example/unweave/unweave/abstraction/Operation", "getKind", "()Lcom/example/unweave/unweave/abstraction/Operation$EKind;"⟩ : MethodName) (head1 (Jvm.Cond.code (⟨"com/example/unweave/unweave/abstraction/Operation", "getKind", "()Lcom/example/unweave/unweave/abstraction/Operation$EKind;"⟩ : MethodName) prog_15_method_5_code 1 (some (.object "com/example/unweave/unweave/abstraction/Operation$EKind")) :: ws) ({ frames := 0, cells := 0, slots := 0, locals := 0 } : Room)) (fun a U => a = #[(.ref p0)] ∧ Z.Warmed39 U.vm ∧ U.heap = h0) (fun _ _ _ _ _ => True) (fun _ U o U' => ∃ v L, o = .returned v ∧ (own_Q34 Z p0 kA h0 n0) v U'.heap L ∧ FrameEnd U o U' L ({ frames := 0, cells := 0, slots := 0, locals := 0 } : Room).cells ({ frames := 0, cells := 0, slots := 0, locals := 0 } : Room).slots) := by
  refine MetFree.of_bodySF (plainFor_of_name pn_com_example_unweave_unweave_abstraction_Operation) hisR ?_
  intro p e s m args below meth c s₁ Bd hml0 hP hK
  obtain ⟨rfl, hZ, hh⟩ := hP
  have hx := Bd.exec
  have hby := Bd.bytes
  have hml : c.maxLocals = 1 := hml0
  have hown : s.vm.findClass "com/example/unweave/unweave/abstraction/Operation" = some m.cls := findClass_of_methodNamed Bd.named
  have hnm := (name_of_methodNamed Bd.named Bd.method).1
  have X0 : Stand p l e ({ frames := 0, cells := 0, slots := 0, locals := 0 } : Room) s m #[(.ref p0)] below meth c s₁ [] 0 0 := Stand.of_body Bd
  have e0 : s₁.heap = h0 := by rw [← hh, Bd.state]; rfl
  have N0 := Fr.nil n0
  refine own_body (QQ := (own_Q34 Z p0 kA h0 n0)) (ef_34 m p0) ?_
  refine own_via (s₁.setTop (mkF m 1 #[.val (.ref p0)] [(.ref p0)])) (fun t k => XS.aloadN X0.here hx rfl (hb hby d34_0) rfl rfl k) ?_
  obtain ⟨T126, X126, e126, st126⟩ := getF X0 hx hZ hown (host := "") (Or.inl (hw _ (List.mem_of_getElem? (i := 205) rfl))) Via.refl e0 P0 (g := (mkF m 1 #[.val (.ref p0)] [(.ref p0)])) rfl rfl (hb hby d34_1)
  refine own_via (T126.setTop (mkF m 4 #[.val (.ref p0)] [(.ref kA)])) (fun t k => st126 t k) ?_
  refine own_leave X126 Bd.notSynchronized (v := some (.ref kA)) (fun h => by rw [Bd.returns] at h; cases h) (fun fs hr => retOut X126 hx Bd.returns rfl (Or.inr (Or.inr (Or.inr (Or.inr ⟨rfl, rfl, rfl⟩)))) (hb hby d34_4) hr) ?_ (by decide) (by decide)
  exact ⟨rfl, N0, e126⟩
def own_Q35 (Z : State) (p0 : Addr)  (h0 : Heap) (n0 : Nat) (v : Option Value) (h : Heap) (L : List Loc) : Prop := v = some (.int (2 : Int32)) ∧ Fr n0 L ∧ h = h0
theorem d35_0 : decode jdk_37_method_2_code 0 = .ok (.aload_n 0, 1) := by decide +kernel
theorem d35_1 : decode jdk_37_method_2_code 1 = .ok (.getfield 7, 3) := by decide +kernel
theorem d35_4 : decode jdk_37_method_2_code 4 = .ok (.ireturn, 1) := by decide +kernel
theorem pn_java_lang_Enum : plainName "java/lang/Enum" = true := by first | (simp [plainName, overriddenIn]; done) | decide +kernel
theorem ef_35 (m : MethodId) (p0 : Addr) : entryFrame m #[(.ref p0)] 1 = mkF m 0 #[.val (.ref p0)] [] := by first | (simp [entryFrame, mkF, argsToLocals, Value.category]; done) | rfl
set_option maxRecDepth 65536 in
set_option maxHeartbeats 40000000 in
theorem rm35 (l : Launch) (Z : State) (a0 : Array Value) (hw : ∀ d ∈ tables_1, d.before a0 Z = true) (ws : List Jvm.Cond) (p0 : Addr) (h0 : Heap) (n0 : Nat) (Z0 : n0 ≤ h0.size) (P0 : Fld Z h0 p0 "java/lang/Enum" "ordinal" "I" (.int (2 : Int32))) :
    MetFree l (⟨"java/lang/Enum", "ordinal", "()I"⟩ : MethodName) (head1 (Jvm.Cond.code (⟨"java/lang/Enum", "ordinal", "()I"⟩ : MethodName) jdk_37_method_2_code 1 (some .int) :: ws) ({ frames := 0, cells := 0, slots := 0, locals := 0 } : Room)) (fun a U => a = #[(.ref p0)] ∧ Z.Warmed39 U.vm ∧ U.heap = h0) (fun _ _ _ _ _ => True) (fun _ U o U' => ∃ v L, o = .returned v ∧ (own_Q35 Z p0  h0 n0) v U'.heap L ∧ FrameEnd U o U' L ({ frames := 0, cells := 0, slots := 0, locals := 0 } : Room).cells ({ frames := 0, cells := 0, slots := 0, locals := 0 } : Room).slots) := by
  refine MetFree.of_bodySF (plainFor_of_name pn_java_lang_Enum) hisR ?_
  intro p e s m args below meth c s₁ Bd hml0 hP hK
  obtain ⟨rfl, hZ, hh⟩ := hP
  have hx := Bd.exec
  have hby := Bd.bytes
  have hml : c.maxLocals = 1 := hml0
  have hown : s.vm.findClass "java/lang/Enum" = some m.cls := findClass_of_methodNamed Bd.named
  have hnm := (name_of_methodNamed Bd.named Bd.method).1
  have X0 : Stand p l e ({ frames := 0, cells := 0, slots := 0, locals := 0 } : Room) s m #[(.ref p0)] below meth c s₁ [] 0 0 := Stand.of_body Bd
  have e0 : s₁.heap = h0 := by rw [← hh, Bd.state]; rfl
  have N0 := Fr.nil n0
  refine own_body (QQ := (own_Q35 Z p0  h0 n0)) (ef_35 m p0) ?_
  refine own_via (s₁.setTop (mkF m 1 #[.val (.ref p0)] [(.ref p0)])) (fun t k => XS.aloadN X0.here hx rfl (hb hby d35_0) rfl rfl k) ?_
  obtain ⟨T127, X127, e127, st127⟩ := getF X0 hx hZ hown (host := "") (Or.inl (hw _ (List.mem_of_getElem? (i := 273) rfl))) Via.refl e0 P0 (g := (mkF m 1 #[.val (.ref p0)] [(.ref p0)])) rfl rfl (hb hby d35_1)
  refine own_via (T127.setTop (mkF m 4 #[.val (.ref p0)] [(.int (2 : Int32))])) (fun t k => st127 t k) ?_
  refine own_leave X127 Bd.notSynchronized (v := some (.int (2 : Int32))) (fun h => by rw [Bd.returns] at h; cases h) (fun fs hr => retI X127 hx Bd.returns (hb hby d35_4) hr) ?_ (by decide) (by decide)
  exact ⟨rfl, N0, e127⟩
def own_Q36 (Z : State) (p0 : Addr) (x : Int32) (h0 : Heap) (n0 : Nat) (v : Option Value) (h : Heap) (L : List Loc) : Prop := v = some (.int x) ∧ Fr n0 L ∧ h = h0
theorem d36_0 : decode prog_15_method_7_code 0 = .ok (.aload_n 0, 1) := by decide +kernel
theorem d36_1 : decode prog_15_method_7_code 1 = .ok (.getfield 17, 3) := by decide +kernel
theorem d36_4 : decode prog_15_method_7_code 4 = .ok (.ireturn, 1) := by decide +kernel
theorem ef_36 (m : MethodId) (p0 : Addr) : entryFrame m #[(.ref p0)] 1 = mkF m 0 #[.val (.ref p0)] [] := by first | (simp [entryFrame, mkF, argsToLocals, Value.category]; done) | rfl
set_option maxRecDepth 65536 in
set_option maxHeartbeats 40000000 in
theorem rm36 (l : Launch) (Z : State) (a0 : Array Value) (hw : ∀ d ∈ tables_1, d.before a0 Z = true) (ws : List Jvm.Cond) (p0 : Addr) (h0 : Heap) (n0 : Nat) (Z0 : n0 ≤ h0.size) (x : Int32) (P0 : Fld Z h0 p0 "com/example/unweave/unweave/abstraction/Operation" "m_nVariable" "I" (.int x)) :
    MetFree l (⟨"com/example/unweave/unweave/abstraction/Operation", "getVariable", "()I"⟩ : MethodName) (head1 (Jvm.Cond.code (⟨"com/example/unweave/unweave/abstraction/Operation", "getVariable", "()I"⟩ : MethodName) prog_15_method_7_code 1 (some .int) :: ws) ({ frames := 0, cells := 0, slots := 0, locals := 0 } : Room)) (fun a U => a = #[(.ref p0)] ∧ Z.Warmed39 U.vm ∧ U.heap = h0) (fun _ _ _ _ _ => True) (fun _ U o U' => ∃ v L, o = .returned v ∧ (own_Q36 Z p0 x h0 n0) v U'.heap L ∧ FrameEnd U o U' L ({ frames := 0, cells := 0, slots := 0, locals := 0 } : Room).cells ({ frames := 0, cells := 0, slots := 0, locals := 0 } : Room).slots) := by
  refine MetFree.of_bodySF (plainFor_of_name pn_com_example_unweave_unweave_abstraction_Operation) hisR ?_
  intro p e s m args below meth c s₁ Bd hml0 hP hK
  obtain ⟨rfl, hZ, hh⟩ := hP
  have hx := Bd.exec
  have hby := Bd.bytes
  have hml : c.maxLocals = 1 := hml0
  have hown : s.vm.findClass "com/example/unweave/unweave/abstraction/Operation" = some m.cls := findClass_of_methodNamed Bd.named
  have hnm := (name_of_methodNamed Bd.named Bd.method).1
  have X0 : Stand p l e ({ frames := 0, cells := 0, slots := 0, locals := 0 } : Room) s m #[(.ref p0)] below meth c s₁ [] 0 0 := Stand.of_body Bd
  have e0 : s₁.heap = h0 := by rw [← hh, Bd.state]; rfl
  have N0 := Fr.nil n0
  refine own_body (QQ := (own_Q36 Z p0 x h0 n0)) (ef_36 m p0) ?_
  refine own_via (s₁.setTop (mkF m 1 #[.val (.ref p0)] [(.ref p0)])) (fun t k => XS.aloadN X0.here hx rfl (hb hby d36_0) rfl rfl k) ?_
  obtain ⟨T128, X128, e128, st128⟩ := getF X0 hx hZ hown (host := "") (Or.inl (hw _ (List.mem_of_getElem? (i := 209) rfl))) Via.refl e0 P0 (g := (mkF m 1 #[.val (.ref p0)] [(.ref p0)])) rfl rfl (hb hby d36_1)
  refine own_via (T128.setTop (mkF m 4 #[.val (.ref p0)] [(.int x)])) (fun t k => st128 t k) ?_
  refine own_leave X128 Bd.notSynchronized (v := some (.int x)) (fun h => by rw [Bd.returns] at h; cases h) (fun fs hr => retI X128 hx Bd.returns (hb hby d36_4) hr) ?_ (by decide) (by decide)
  exact ⟨rfl, N0, e128⟩
def own_Q26 (Z : State) (p0 : Addr) (kA : Addr) (p3 : Int32)  (h0 : Heap) (n0 : Nat) (v : Option Value) (h : Heap) (L : List Loc) : Prop := v = none ∧ Fr n0 L ∧ Keep h0 h [p0] ∧ Exa Z h p0 "com/example/unweave/unweave/abstraction/Operation" ∧ Fld Z h p0 "com/example/unweave/unweave/abstraction/Operation" "m_eKind" "Lcom/example/unweave/unweave/abstraction/Operation$EKind;" (.ref kA) ∧ Fld Z h p0 "com/example/unweave/unweave/abstraction/Operation" "m_nVariable" "I" (.int p3) ∧ Fld Z h p0 "com/example/unweave/unweave/abstraction/Operation" "m_aCondition" "Lcom/example/unweave/unweave/arith/Formula;" .null ∧ Fld Z h p0 "com/example/unweave/unweave/abstraction/Operation" "m_aValue" "Lcom/example/unweave/unweave/arith/LinearTerm;" .null
theorem d26_0 : decode prog_15_method_1_code 0 = .ok (.aload_n 0, 1) := by decide +kernel
theorem d26_1 : decode prog_15_method_1_code 1 = .ok (.invokespecial 1, 3) := by decide +kernel
theorem d26_4 : decode prog_15_method_1_code 4 = .ok (.aload_n 0, 1) := by decide +kernel
theorem d26_5 : decode prog_15_method_1_code 5 = .ok (.aload_n 1, 1) := by decide +kernel
theorem d26_6 : decode prog_15_method_1_code 6 = .ok (.putfield 7, 3) := by decide +kernel
theorem d26_9 : decode prog_15_method_1_code 9 = .ok (.aload_n 0, 1) := by decide +kernel
theorem d26_10 : decode prog_15_method_1_code 10 = .ok (.aload_n 2, 1) := by decide +kernel
theorem d26_11 : decode prog_15_method_1_code 11 = .ok (.putfield 13, 3) := by decide +kernel
theorem d26_14 : decode prog_15_method_1_code 14 = .ok (.aload_n 0, 1) := by decide +kernel
theorem d26_15 : decode prog_15_method_1_code 15 = .ok (.iload_n 3, 1) := by decide +kernel
theorem d26_16 : decode prog_15_method_1_code 16 = .ok (.putfield 17, 3) := by decide +kernel
theorem d26_19 : decode prog_15_method_1_code 19 = .ok (.aload_n 0, 1) := by decide +kernel
theorem d26_20 : decode prog_15_method_1_code 20 = .ok (.aload 4, 2) := by decide +kernel
theorem d26_22 : decode prog_15_method_1_code 22 = .ok (.putfield 21, 3) := by decide +kernel
theorem d26_25 : decode prog_15_method_1_code 25 = .ok (.return_, 1) := by decide +kernel
theorem ef_26 (m : MethodId) (p0 : Addr) (kA : Addr) (p3 : Int32) : entryFrame m #[(.ref p0), (.ref kA), .null, (.int p3), .null] 5 = mkF m 0 #[.val (.ref p0), .val (.ref kA), .val .null, .val (.int p3), .val .null] [] := by first | (simp [entryFrame, mkF, argsToLocals, Value.category]; done) | rfl
set_option maxRecDepth 65536 in
set_option maxHeartbeats 40000000 in
theorem rm26 (l : Launch) (Z : State) (a0 : Array Value) (hw : ∀ d ∈ tables_1, d.before a0 Z = true) (ws : List Jvm.Cond) (p0 : Addr) (kA : Addr) (p3 : Int32) (h0 : Heap) (n0 : Nat) (Z0 : n0 ≤ h0.size) (P0 : Exa Z h0 p0 "com/example/unweave/unweave/abstraction/Operation") (P1 : Fld Z h0 p0 "com/example/unweave/unweave/abstraction/Operation" "m_eKind" "Lcom/example/unweave/unweave/abstraction/Operation$EKind;" .null) (P2 : Fld Z h0 p0 "com/example/unweave/unweave/abstraction/Operation" "m_nVariable" "I" (.int (0 : Int32))) (P3 : Fld Z h0 p0 "com/example/unweave/unweave/abstraction/Operation" "m_aCondition" "Lcom/example/unweave/unweave/arith/Formula;" .null) (P4 : Fld Z h0 p0 "com/example/unweave/unweave/abstraction/Operation" "m_aValue" "Lcom/example/unweave/unweave/arith/LinearTerm;" .null) (gg_p0 : n0 ≤ p0) :
    MetFree l (⟨"com/example/unweave/unweave/abstraction/Operation", "<init>", "(Lcom/example/unweave/unweave/abstraction/Operation$EKind;Lcom/example/unweave/unweave/arith/Formula;ILcom/example/unweave/unweave/arith/LinearTerm;)V"⟩ : MethodName) (head1 (Jvm.Cond.code (⟨"com/example/unweave/unweave/abstraction/Operation", "<init>", "(Lcom/example/unweave/unweave/abstraction/Operation$EKind;Lcom/example/unweave/unweave/arith/Formula;ILcom/example/unweave/unweave/arith/LinearTerm;)V"⟩ : MethodName) prog_15_method_1_code 5 none :: ws) ({ frames := 1, cells := 0, slots := 0, locals := 12 } : Room)) (fun a U => a = #[(.ref p0), (.ref kA), .null, (.int p3), .null] ∧ Z.Warmed39 U.vm ∧ U.heap = h0) (fun _ _ _ _ _ => True) (fun _ U o U' => ∃ v L, o = .returned v ∧ (own_Q26 Z p0 kA p3  h0 n0) v U'.heap L ∧ FrameEnd U o U' L ({ frames := 1, cells := 0, slots := 0, locals := 12 } : Room).cells ({ frames := 1, cells := 0, slots := 0, locals := 12 } : Room).slots) := by
  refine MetFree.of_bodySF (plainFor_of_name pn_com_example_unweave_unweave_abstraction_Operation) hisR ?_
  intro p e s m args below meth c s₁ Bd hml0 hP hK
  obtain ⟨rfl, hZ, hh⟩ := hP
  have hx := Bd.exec
  have hby := Bd.bytes
  have hml : c.maxLocals = 5 := hml0
  have hown : s.vm.findClass "com/example/unweave/unweave/abstraction/Operation" = some m.cls := findClass_of_methodNamed Bd.named
  have hnm := (name_of_methodNamed Bd.named Bd.method).1
  have X0 : Stand p l e ({ frames := 1, cells := 0, slots := 0, locals := 12 } : Room) s m #[(.ref p0), (.ref kA), .null, (.int p3), .null] below meth c s₁ [] 0 0 := Stand.of_body Bd
  have e0 : s₁.heap = h0 := by rw [← hh, Bd.state]; rfl
  have N0 := Fr.nil n0
  refine own_body (QQ := (own_Q26 Z p0 kA p3  h0 n0)) (ef_26 m p0 kA p3) ?_
  refine own_via (s₁.setTop (mkF m 1 #[.val (.ref p0), .val (.ref kA), .val .null, .val (.int p3), .val .null] [(.ref p0)])) (fun t k => XS.aloadN X0.here hx rfl (hb hby d26_0) rfl rfl k) ?_
  obtain ⟨T129, X129, e129, st129⟩ := initO X0 hx hZ hown (hw _ (List.mem_of_getElem? (i := 204) rfl)) (hw _ (List.mem_of_getElem? (i := 8) rfl)) (hw _ (List.mem_of_getElem? (i := 9) rfl)) e0 (g := (mkF m 1 #[.val (.ref p0), .val (.ref kA), .val .null, .val (.int p3), .val .null] [(.ref p0)])) rfl (by rw [hml]; rfl) rfl (hb hby d26_1) (by decide) (W := 0) (by show 2 * 0 + _ ≤ _; exact Nat.le_of_eq rfl) (by decide)
  refine own_via (T129.setTop (mkF m 4 #[.val (.ref p0), .val (.ref kA), .val .null, .val (.int p3), .val .null] [])) (fun t k => st129 t k) ?_
  refine own_via (T129.setTop (mkF m 5 #[.val (.ref p0), .val (.ref kA), .val .null, .val (.int p3), .val .null] [(.ref p0)])) (fun t k => XS.aloadN X129.here hx rfl (hb hby d26_4) rfl rfl k) ?_
  refine own_via (T129.setTop (mkF m 6 #[.val (.ref p0), .val (.ref kA), .val .null, .val (.int p3), .val .null] [(.ref kA), (.ref p0)])) (fun t k => XS.aloadN X129.here hx rfl (hb hby d26_5) rfl rfl k) ?_
  obtain ⟨T130, h130, X130, e130, W130, st130⟩ := putF X129 hx hZ hown (host := "") (Or.inl (hw _ (List.mem_of_getElem? (i := 205) rfl))) Via.refl e129 P1 P0 (Or.inr ⟨(hw _ (List.mem_of_getElem? (i := 206) rfl)), rfl, hnm⟩) (hw _ (List.mem_of_getElem? (i := 197) rfl)) (ty := (.object "com/example/unweave/unweave/abstraction/Operation$EKind")) (by decide) rfl rfl (g := (mkF m 6 #[.val (.ref p0), .val (.ref kA), .val .null, .val (.int p3), .val .null] [(.ref kA), (.ref p0)])) rfl rfl (hb hby d26_6)
  have Fw130 := P1.same W130
  have N130 := Fr.snoc X130 N0 gg_p0
  have K131 : Keep h0 h130 [p0] := (Keep.refl h0 [p0]).wr W130 (Or.inl (List.mem_of_getElem? (i := 0) rfl))
  refine own_via (T130.setTop (mkF m 9 #[.val (.ref p0), .val (.ref kA), .val .null, .val (.int p3), .val .null] [])) (fun t k => st130 t k) ?_
  refine own_via (T130.setTop (mkF m 10 #[.val (.ref p0), .val (.ref kA), .val .null, .val (.int p3), .val .null] [(.ref p0)])) (fun t k => XS.aloadN X130.here hx rfl (hb hby d26_9) rfl rfl k) ?_
  refine own_via (T130.setTop (mkF m 11 #[.val (.ref p0), .val (.ref kA), .val .null, .val (.int p3), .val .null] [.null, (.ref p0)])) (fun t k => XS.aloadN X130.here hx rfl (hb hby d26_10) rfl rfl k) ?_
  have F133 := (P3.other W130 (Or.inr (slot_ne (Or.inr (hw _ (List.mem_of_getElem? (i := 208) rfl))) (Or.inr (hw _ (List.mem_of_getElem? (i := 206) rfl))) (by decide) (t := (.object "com/example/unweave/unweave/arith/Formula")) (t' := (.object "com/example/unweave/unweave/abstraction/Operation$EKind")) (by decide) (by decide))))
  have F134 := (P0.wr W130)
  obtain ⟨T132, h132, X132, e132, W132, st132⟩ := putF X130 hx hZ hown (host := "") (Or.inl (hw _ (List.mem_of_getElem? (i := 207) rfl))) Via.refl e130 F133 F134 (Or.inr ⟨(hw _ (List.mem_of_getElem? (i := 208) rfl)), rfl, hnm⟩) (hw _ (List.mem_of_getElem? (i := 197) rfl)) (ty := (.object "com/example/unweave/unweave/arith/Formula")) (by decide) rfl rfl (g := (mkF m 11 #[.val (.ref p0), .val (.ref kA), .val .null, .val (.int p3), .val .null] [.null, (.ref p0)])) rfl rfl (hb hby d26_11)
  have Fw132 := F133.same W132
  have N132 := Fr.snoc X132 N130 gg_p0
  have K135 : Keep h0 h132 [p0] := K131.wr W132 (Or.inl (List.mem_of_getElem? (i := 0) rfl))
  refine own_via (T132.setTop (mkF m 14 #[.val (.ref p0), .val (.ref kA), .val .null, .val (.int p3), .val .null] [])) (fun t k => st132 t k) ?_
  refine own_via (T132.setTop (mkF m 15 #[.val (.ref p0), .val (.ref kA), .val .null, .val (.int p3), .val .null] [(.ref p0)])) (fun t k => XS.aloadN X132.here hx rfl (hb hby d26_14) rfl rfl k) ?_
  refine own_via (T132.setTop (mkF m 16 #[.val (.ref p0), .val (.ref kA), .val .null, .val (.int p3), .val .null] [(.int p3), (.ref p0)])) (fun t k => XS.iloadN X132.here hx rfl (hb hby d26_15) rfl  k) ?_
  have F137 := ((P2.other W130 (Or.inr (slot_ne (Or.inr (hw _ (List.mem_of_getElem? (i := 210) rfl))) (Or.inr (hw _ (List.mem_of_getElem? (i := 206) rfl))) (by decide) (t := .int) (t' := (.object "com/example/unweave/unweave/abstraction/Operation$EKind")) (by decide) (by decide)))).other W132 (Or.inr (slot_ne (Or.inr (hw _ (List.mem_of_getElem? (i := 210) rfl))) (Or.inr (hw _ (List.mem_of_getElem? (i := 208) rfl))) (by decide) (t := .int) (t' := (.object "com/example/unweave/unweave/arith/Formula")) (by decide) (by decide))))
  have F138 := (F134.wr W132)
  obtain ⟨T136, h136, X136, e136, W136, st136⟩ := putF X132 hx hZ hown (host := "") (Or.inl (hw _ (List.mem_of_getElem? (i := 209) rfl))) Via.refl e132 F137 F138 (Or.inr ⟨(hw _ (List.mem_of_getElem? (i := 210) rfl)), rfl, hnm⟩) (hw _ (List.mem_of_getElem? (i := 197) rfl)) (ty := .int) (by decide) rfl rfl (g := (mkF m 16 #[.val (.ref p0), .val (.ref kA), .val .null, .val (.int p3), .val .null] [(.int p3), (.ref p0)])) rfl rfl (hb hby d26_16)
  have Fw136 := F137.same W136
  have N136 := Fr.snoc X136 N132 gg_p0
  have K139 : Keep h0 h136 [p0] := K135.wr W136 (Or.inl (List.mem_of_getElem? (i := 0) rfl))
  refine own_via (T136.setTop (mkF m 19 #[.val (.ref p0), .val (.ref kA), .val .null, .val (.int p3), .val .null] [])) (fun t k => st136 t k) ?_
  refine own_via (T136.setTop (mkF m 20 #[.val (.ref p0), .val (.ref kA), .val .null, .val (.int p3), .val .null] [(.ref p0)])) (fun t k => XS.aloadN X136.here hx rfl (hb hby d26_19) rfl rfl k) ?_
  refine own_via (T136.setTop (mkF m 22 #[.val (.ref p0), .val (.ref kA), .val .null, .val (.int p3), .val .null] [.null, (.ref p0)])) (fun t k => XS.aload X136.here hx rfl (hb hby d26_20) rfl rfl k) ?_
  have F141 := (((P4.other W130 (Or.inr (slot_ne (Or.inr (hw _ (List.mem_of_getElem? (i := 212) rfl))) (Or.inr (hw _ (List.mem_of_getElem? (i := 206) rfl))) (by decide) (t := (.object "com/example/unweave/unweave/arith/LinearTerm")) (t' := (.object "com/example/unweave/unweave/abstraction/Operation$EKind")) (by decide) (by decide)))).other W132 (Or.inr (slot_ne (Or.inr (hw _ (List.mem_of_getElem? (i := 212) rfl))) (Or.inr (hw _ (List.mem_of_getElem? (i := 208) rfl))) (by decide) (t := (.object "com/example/unweave/unweave/arith/LinearTerm")) (t' := (.object "com/example/unweave/unweave/arith/Formula")) (by decide) (by decide)))).other W136 (Or.inr (slot_ne (Or.inr (hw _ (List.mem_of_getElem? (i := 212) rfl))) (Or.inr (hw _ (List.mem_of_getElem? (i := 210) rfl))) (by decide) (t := (.object "com/example/unweave/unweave/arith/LinearTerm")) (t' := .int) (by decide) (by decide))))
  have F142 := (F138.wr W136)
  obtain ⟨T140, h140, X140, e140, W140, st140⟩ := putF X136 hx hZ hown (host := "") (Or.inl (hw _ (List.mem_of_getElem? (i := 211) rfl))) Via.refl e136 F141 F142 (Or.inr ⟨(hw _ (List.mem_of_getElem? (i := 212) rfl)), rfl, hnm⟩) (hw _ (List.mem_of_getElem? (i := 197) rfl)) (ty := (.object "com/example/unweave/unweave/arith/LinearTerm")) (by decide) rfl rfl (g := (mkF m 22 #[.val (.ref p0), .val (.ref kA), .val .null, .val (.int p3), .val .null] [.null, (.ref p0)])) rfl rfl (hb hby d26_22)
  have Fw140 := F141.same W140
  have N140 := Fr.snoc X140 N136 gg_p0
  have K143 : Keep h0 h140 [p0] := K139.wr W140 (Or.inl (List.mem_of_getElem? (i := 0) rfl))
  refine own_via (T140.setTop (mkF m 25 #[.val (.ref p0), .val (.ref kA), .val .null, .val (.int p3), .val .null] [])) (fun t k => st140 t k) ?_
  refine own_leave X140 Bd.notSynchronized (v := none) (fun _ => rfl) (fun fs hr => X140.returnOut hx Bd.returns (hb hby d26_25) hr) ?_ (by decide) (by decide)
  have F144 := (F142.wr W140)
  have F145 := (((Fw130.other W132 (Or.inr (slot_ne (Or.inr (hw _ (List.mem_of_getElem? (i := 206) rfl))) (Or.inr (hw _ (List.mem_of_getElem? (i := 208) rfl))) (by decide) (t := (.object "com/example/unweave/unweave/abstraction/Operation$EKind")) (t' := (.object "com/example/unweave/unweave/arith/Formula")) (by decide) (by decide)))).other W136 (Or.inr (slot_ne (Or.inr (hw _ (List.mem_of_getElem? (i := 206) rfl))) (Or.inr (hw _ (List.mem_of_getElem? (i := 210) rfl))) (by decide) (t := (.object "com/example/unweave/unweave/abstraction/Operation$EKind")) (t' := .int) (by decide) (by decide)))).other W140 (Or.inr (slot_ne (Or.inr (hw _ (List.mem_of_getElem? (i := 206) rfl))) (Or.inr (hw _ (List.mem_of_getElem? (i := 212) rfl))) (by decide) (t := (.object "com/example/unweave/unweave/abstraction/Operation$EKind")) (t' := (.object "com/example/unweave/unweave/arith/LinearTerm")) (by decide) (by decide))))
  have F146 := (Fw136.other W140 (Or.inr (slot_ne (Or.inr (hw _ (List.mem_of_getElem? (i := 210) rfl))) (Or.inr (hw _ (List.mem_of_getElem? (i := 212) rfl))) (by decide) (t := .int) (t' := (.object "com/example/unweave/unweave/arith/LinearTerm")) (by decide) (by decide))))
  have F147 := ((Fw132.other W136 (Or.inr (slot_ne (Or.inr (hw _ (List.mem_of_getElem? (i := 208) rfl))) (Or.inr (hw _ (List.mem_of_getElem? (i := 210) rfl))) (by decide) (t := (.object "com/example/unweave/unweave/arith/Formula")) (t' := .int) (by decide) (by decide)))).other W140 (Or.inr (slot_ne (Or.inr (hw _ (List.mem_of_getElem? (i := 208) rfl))) (Or.inr (hw _ (List.mem_of_getElem? (i := 212) rfl))) (by decide) (t := (.object "com/example/unweave/unweave/arith/Formula")) (t' := (.object "com/example/unweave/unweave/arith/LinearTerm")) (by decide) (by decide))))
  show (own_Q26 Z p0 kA p3  h0 n0) _ T140.heap _
  rw [e140]
  exact ⟨rfl, N140, K143, F144, F145, F146, F147, Fw140⟩
def own_Q25 (Z : State) (p0 : Int32) (kA : Addr) (h0 : Heap) (n0 : Nat) (v : Option Value) (h : Heap) (L : List Loc) : Prop := ∃ (r : Addr), v = some (.ref r) ∧ Fr n0 L ∧ Keep h0 h [] ∧ n0 ≤ r ∧ h0.size ≤ r ∧ Exa Z h r "com/example/unweave/unweave/abstraction/Operation" ∧ Fld Z h r "com/example/unweave/unweave/abstraction/Operation" "m_eKind" "Lcom/example/unweave/unweave/abstraction/Operation$EKind;" (.ref kA) ∧ Fld Z h r "com/example/unweave/unweave/abstraction/Operation" "m_nVariable" "I" (.int p0)
theorem d25_0 : decode prog_15_method_4_code 0 = .ok (.new 8, 3) := by decide +kernel
theorem d25_3 : decode prog_15_method_4_code 3 = .ok (.dup, 1) := by decide +kernel
theorem d25_4 : decode prog_15_method_4_code 4 = .ok (.getstatic 36, 3) := by decide +kernel
theorem d25_7 : decode prog_15_method_4_code 7 = .ok (.aconst_null, 1) := by decide +kernel
theorem d25_8 : decode prog_15_method_4_code 8 = .ok (.iload_n 0, 1) := by decide +kernel
theorem d25_9 : decode prog_15_method_4_code 9 = .ok (.aconst_null, 1) := by decide +kernel
theorem d25_10 : decode prog_15_method_4_code 10 = .ok (.invokespecial 30, 3) := by decide +kernel
theorem d25_13 : decode prog_15_method_4_code 13 = .ok (.areturn, 1) := by decide +kernel
theorem pd_2 : parseMethodDescriptor "(Lcom/example/unweave/unweave/abstraction/Operation$EKind;Lcom/example/unweave/unweave/arith/Formula;ILcom/example/unweave/unweave/arith/LinearTerm;)V" = some ⟨[(.object "com/example/unweave/unweave/abstraction/Operation$EKind"), (.object "com/example/unweave/unweave/arith/Formula"), .int, (.object "com/example/unweave/unweave/arith/LinearTerm")], none⟩ := by decide +kernel
theorem ef_25 (m : MethodId) (p0 : Int32) : entryFrame m #[(.int p0)] 1 = mkF m 0 #[.val (.int p0)] [] := by first | (simp [entryFrame, mkF, argsToLocals, Value.category]; done) | rfl
set_option maxRecDepth 65536 in
set_option maxHeartbeats 40000000 in
theorem rm25 (l : Launch) (Z : State) (a0 : Array Value) (hw : ∀ d ∈ tables_1, d.before a0 Z = true) (ws : List Jvm.Cond) (p0 : Int32) (h0 : Heap) (n0 : Nat) (Z0 : n0 ≤ h0.size) (kA : Addr) (P0 : Sta Z h0 "com/example/unweave/unweave/abstraction/Operation$EKind" "HAVOC" "Lcom/example/unweave/unweave/abstraction/Operation$EKind;" (.ref kA)) :
    MetFree l (⟨"com/example/unweave/unweave/abstraction/Operation", "ofHavoc", "(I)Lcom/example/unweave/unweave/abstraction/Operation;"⟩ : MethodName) (head1 (Jvm.Cond.code (⟨"com/example/unweave/unweave/abstraction/Operation", "ofHavoc", "(I)Lcom/example/unweave/unweave/abstraction/Operation;"⟩ : MethodName) prog_15_method_4_code 1 (some (.object "com/example/unweave/unweave/abstraction/Operation")) :: ws) ({ frames := 2, cells := 1, slots := 4, locals := 29 } : Room)) (fun a U => a = #[(.int p0)] ∧ Z.Warmed39 U.vm ∧ U.heap = h0) (fun _ _ _ _ _ => True) (fun _ U o U' => ∃ v L, o = .returned v ∧ (own_Q25 Z p0 kA h0 n0) v U'.heap L ∧ FrameEnd U o U' L ({ frames := 2, cells := 1, slots := 4, locals := 29 } : Room).cells ({ frames := 2, cells := 1, slots := 4, locals := 29 } : Room).slots) := by
  refine MetFree.of_bodySF (plainFor_of_name pn_com_example_unweave_unweave_abstraction_Operation) hisR ?_
  intro p e s m args below meth c s₁ Bd hml0 hP hK
  obtain ⟨rfl, hZ, hh⟩ := hP
  have hx := Bd.exec
  have hby := Bd.bytes
  have hml : c.maxLocals = 1 := hml0
  have hown : s.vm.findClass "com/example/unweave/unweave/abstraction/Operation" = some m.cls := findClass_of_methodNamed Bd.named
  have hnm := (name_of_methodNamed Bd.named Bd.method).1
  have X0 : Stand p l e ({ frames := 2, cells := 1, slots := 4, locals := 29 } : Room) s m #[(.int p0)] below meth c s₁ [] 0 0 := Stand.of_body Bd
  have e0 : s₁.heap = h0 := by rw [← hh, Bd.state]; rfl
  have N0 := Fr.nil n0
  refine own_body (QQ := (own_Q25 Z p0 kA h0 n0)) (ef_25 m p0) ?_
  obtain ⟨T148, h148, X148, e148, E148, A148, D148, -, st148⟩ := newO X0 hx hZ hown (hw _ (List.mem_of_getElem? (i := 196) rfl)) (hw _ (List.mem_of_getElem? (i := 197) rfl)) (hw _ (List.mem_of_getElem? (i := 194) rfl)) e0 (g := (mkF m 0 #[.val (.int p0)] [])) rfl (hb hby d25_0) (by decide) (by decide)
  obtain ⟨b148, g148⟩ : ∃ z, z = h0.size := ⟨_, rfl⟩
  rw [← g148] at A148 D148 st148
  have gg_b148 : n0 ≤ b148 := Nat.le_trans (Nat.le_trans Z0 (Keep.refl h0 []).1) (Nat.le_of_eq g148.symm)
  have sz_b148 : h0.size ≤ b148 := Nat.le_trans (Keep.refl h0 []).1 (Nat.le_of_eq g148.symm)
  have F_m_eKind_b148 : Fld Z h148 b148 "com/example/unweave/unweave/abstraction/Operation" "m_eKind" "Lcom/example/unweave/unweave/abstraction/Operation$EKind;" .null := D148 (Or.inr (hw _ (List.mem_of_getElem? (i := 206) rfl))) (ty := (.object "com/example/unweave/unweave/abstraction/Operation$EKind")) (by decide)
  have F_m_aCondition_b148 : Fld Z h148 b148 "com/example/unweave/unweave/abstraction/Operation" "m_aCondition" "Lcom/example/unweave/unweave/arith/Formula;" .null := D148 (Or.inr (hw _ (List.mem_of_getElem? (i := 208) rfl))) (ty := (.object "com/example/unweave/unweave/arith/Formula")) (by decide)
  have F_m_nVariable_b148 : Fld Z h148 b148 "com/example/unweave/unweave/abstraction/Operation" "m_nVariable" "I" (.int (0 : Int32)) := D148 (Or.inr (hw _ (List.mem_of_getElem? (i := 210) rfl))) (ty := .int) (by decide)
  have F_m_aValue_b148 : Fld Z h148 b148 "com/example/unweave/unweave/abstraction/Operation" "m_aValue" "Lcom/example/unweave/unweave/arith/LinearTerm;" .null := D148 (Or.inr (hw _ (List.mem_of_getElem? (i := 212) rfl))) (ty := (.object "com/example/unweave/unweave/arith/LinearTerm")) (by decide)
  have K149 : Keep h0 h148 [] := (Keep.refl h0 []).ext E148
  refine own_via (T148.setTop (mkF m 3 #[.val (.int p0)] [(.ref b148)])) (fun t k => st148 t k) ?_
  refine own_via (T148.setTop (mkF m 4 #[.val (.int p0)] [(.ref b148), (.ref b148)])) (fun t k => XS.dup X148.here hx rfl (hb hby d25_3) rfl rfl k) ?_
  obtain ⟨T150, X150, e150, st150⟩ := getS2 X148 hx hZ hown (host := "") (Or.inl (hw _ (List.mem_of_getElem? (i := 198) rfl))) Via.refl e148 (own_stakeepW (ws := []) P0 (fun x hx => nomatch hx) K149) (g := (mkF m 4 #[.val (.int p0)] [(.ref b148), (.ref b148)])) rfl (hb hby d25_4)
  refine own_via (T150.setTop (mkF m 7 #[.val (.int p0)] [(.ref kA), (.ref b148), (.ref b148)])) (fun t k => st150 t k) ?_
  refine own_via (T150.setTop (mkF m 8 #[.val (.int p0)] [.null, (.ref kA), (.ref b148), (.ref b148)])) (fun t k => XS.aconstNull X150.here hx rfl (hb hby d25_7) k) ?_
  refine own_via (T150.setTop (mkF m 9 #[.val (.int p0)] [(.int p0), .null, (.ref kA), (.ref b148), (.ref b148)])) (fun t k => XS.iloadN X150.here hx rfl (hb hby d25_8) rfl  k) ?_
  refine own_via (T150.setTop (mkF m 10 #[.val (.int p0)] [.null, (.int p0), .null, (.ref kA), (.ref b148), (.ref b148)])) (fun t k => XS.aconstNull X150.here hx rfl (hb hby d25_9) k) ?_
  obtain ⟨_, _, ⟨T151, L151, k151, n151⟩, -, X151, ⟨Lc151, hQ151, l151, y151, z151⟩, st151⟩ := X150.specialBack hx (y := (⟨"com/example/unweave/unweave/abstraction/Operation", "<init>", "(Lcom/example/unweave/unweave/abstraction/Operation$EKind;Lcom/example/unweave/unweave/arith/Formula;ILcom/example/unweave/unweave/arith/LinearTerm;)V"⟩ : MethodName)) rfl hown (mvT hZ (hw _ (List.mem_of_getElem? (i := 201) rfl))) (mvT hZ (hw _ (List.mem_of_getElem? (i := 202) rfl))) (mvT hZ (hw _ (List.mem_of_getElem? (i := 203) rfl))) (by decide) (backOf (W := 1) (rm26 l Z a0 hw [] b148 kA p0 h148 n0 (Nat.le_trans Z0 K149.1) A148 F_m_eKind_b148 F_m_nVariable_b148 F_m_aCondition_b148 F_m_aValue_b148 gg_b148) hZ (hw _ (List.mem_of_getElem? (i := 203) rfl)) (hw _ (List.mem_of_getElem? (i := 194) rfl)) (by decide) (by decide)) (g := (mkF m 10 #[.val (.int p0)] [.null, (.int p0), .null, (.ref kA), (.ref b148), (.ref b148)])) rfl (by rw [hml]; rfl) (Steps.refl _) (a := b148) (argsL := [(.ref kA), .null, (.int p0), .null]) (rest := [(.ref b148)]) (lenOf pd_2 rfl) rfl (by show 2 * 0 + _ ≤ _; exact Nat.le_of_eq rfl) (hb hby d25_10) (fun _ _ => ⟨rfl, e150, (by decide : 1 + 0 ≤ _), (by decide : 4 + 0 ≤ _)⟩)
  dsimp only [Pt.U, Pt.locs, Pt.cells, Pt.slots] at X151 l151 y151 z151 st151 hQ151
  rw [y151, z151] at X151
  have X151 : Stand _ _ _ _ _ _ _ _ _ _ T151 L151 1 4 := X151
  obtain ⟨h151, e151⟩ : ∃ h, T151.heap = h := ⟨_, rfl⟩
  rw [e151] at hQ151
  obtain ⟨rfl, N151q, K151q, G151_0, G151_1, G151_2, G151_3, G151_4⟩ := hQ151
  have N151 : Fr n0 L151 := by rw [l151]; exact Fr.app N0 N151q
  have K152 : Keep h0 h151 [] := K149.trans K151q (fun x hx => (List.mem_cons.mp hx).elim (fun e => e ▸ Or.inr sz_b148) (fun hx => nomatch hx))
  refine own_via (T151.setTop (mkF m 13 #[.val (.int p0)] [(.ref b148)])) (fun t k => st151.trans k) ?_
  refine own_leave X151 Bd.notSynchronized (v := some (.ref b148)) (fun h => by rw [Bd.returns] at h; cases h) (fun fs hr => retOut X151 hx Bd.returns rfl (Or.inr (Or.inr (Or.inr (Or.inr ⟨rfl, rfl, rfl⟩)))) (hb hby d25_13) hr) ?_ (by decide) (by decide)
  show (own_Q25 Z p0 kA h0 n0) _ T151.heap _
  rw [e151]
  exact ⟨b148, rfl, N151, K152, gg_b148, sz_b148, G151_0, G151_1, G151_2⟩
def own_Q31 (Z : State)   (h0 : Heap) (n0 : Nat) (v : Option Value) (h : Heap) (L : List Loc) : Prop := v = some (.int (10 : Int32)) ∧ Fr n0 L ∧ h = h0
theorem d31_0 : decode jdk_29_method_65_code 0 = .ok (.iload_n 0, 1) := by decide +kernel
theorem d31_1 : decode jdk_29_method_65_code 1 = .ok (.iload_n 1, 1) := by decide +kernel
theorem d31_2 : decode jdk_29_method_65_code 2 = .ok (.if_icmp .lt 7, 3) := by decide +kernel
theorem d31_5 : decode jdk_29_method_65_code 5 = .ok (.iload_n 0, 1) := by decide +kernel
theorem d31_6 : decode jdk_29_method_65_code 6 = .ok (.goto 4, 3) := by decide +kernel
theorem d31_10 : decode jdk_29_method_65_code 10 = .ok (.ireturn, 1) := by decide +kernel
theorem ef_31 (m : MethodId)  : entryFrame m #[(.int (10 : Int32)), (.int (1 : Int32))] 2 = mkF m 0 #[.val (.int (10 : Int32)), .val (.int (1 : Int32))] [] := by first | (simp [entryFrame, mkF, argsToLocals, Value.category]; done) | rfl
set_option maxRecDepth 65536 in
set_option maxHeartbeats 40000000 in
theorem rm31 (l : Launch) (Z : State) (a0 : Array Value) (hw : ∀ d ∈ tables_1, d.before a0 Z = true) (ws : List Jvm.Cond)  (h0 : Heap) (n0 : Nat) (Z0 : n0 ≤ h0.size)  :
    MetFree l (⟨"java/lang/Math", "max", "(II)I"⟩ : MethodName) (head1 (Jvm.Cond.code (⟨"java/lang/Math", "max", "(II)I"⟩ : MethodName) jdk_29_method_65_code 2 (some .int) :: ws) ({ frames := 0, cells := 0, slots := 0, locals := 0 } : Room)) (fun a U => a = #[(.int (10 : Int32)), (.int (1 : Int32))] ∧ Z.Warmed39 U.vm ∧ U.heap = h0) (fun _ _ _ _ _ => True) (fun _ U o U' => ∃ v L, o = .returned v ∧ (own_Q31 Z   h0 n0) v U'.heap L ∧ FrameEnd U o U' L ({ frames := 0, cells := 0, slots := 0, locals := 0 } : Room).cells ({ frames := 0, cells := 0, slots := 0, locals := 0 } : Room).slots) := by
  refine MetFree.of_bodySF (Jvm.Free.JP.mathPlain rfl (by decide +kernel)) hisR ?_
  intro p e s m args below meth c s₁ Bd hml0 hP hK
  obtain ⟨rfl, hZ, hh⟩ := hP
  have hx := Bd.exec
  have hby := Bd.bytes
  have hml : c.maxLocals = 2 := hml0
  have hown : s.vm.findClass "java/lang/Math" = some m.cls := findClass_of_methodNamed Bd.named
  have hnm := (name_of_methodNamed Bd.named Bd.method).1
  have X0 : Stand p l e ({ frames := 0, cells := 0, slots := 0, locals := 0 } : Room) s m #[(.int (10 : Int32)), (.int (1 : Int32))] below meth c s₁ [] 0 0 := Stand.of_body Bd
  have e0 : s₁.heap = h0 := by rw [← hh, Bd.state]; rfl
  have N0 := Fr.nil n0
  refine own_body (QQ := (own_Q31 Z   h0 n0)) (ef_31 m ) ?_
  refine own_via (s₁.setTop (mkF m 1 #[.val (.int (10 : Int32)), .val (.int (1 : Int32))] [(.int (10 : Int32))])) (fun t k => XS.iloadN X0.here hx rfl (hb hby d31_0) rfl  k) ?_
  refine own_via (s₁.setTop (mkF m 2 #[.val (.int (10 : Int32)), .val (.int (1 : Int32))] [(.int (1 : Int32)), (.int (10 : Int32))])) (fun t k => XS.iloadN X0.here hx rfl (hb hby d31_1) rfl  k) ?_
  refine own_via (s₁.setTop (mkF m 5 #[.val (.int (10 : Int32)), .val (.int (1 : Int32))] [])) (fun t k => XS.icmpNo X0.here hx rfl (hb hby d31_2) rfl (flt (by decide)).1 k) ?_
  refine own_via (s₁.setTop (mkF m 6 #[.val (.int (10 : Int32)), .val (.int (1 : Int32))] [(.int (10 : Int32))])) (fun t k => XS.iloadN X0.here hx rfl (hb hby d31_5) rfl  k) ?_
  refine own_via (s₁.setTop (mkF m 10 #[.val (.int (10 : Int32)), .val (.int (1 : Int32))] [(.int (10 : Int32))])) (fun t k => XS.goto X0.here hx rfl (pc0 := 6) (pc' := 10) rfl (hb hby d31_6) (by decide) (by decide) k) ?_
  refine own_leave X0 Bd.notSynchronized (v := some (.int (10 : Int32))) (fun h => by rw [Bd.returns] at h; cases h) (fun fs hr => retI X0 hx Bd.returns (hb hby d31_10) hr) ?_ (by decide) (by decide)
  exact ⟨rfl, N0, e0⟩
def own_Q30 (Z : State) (p0 : Addr) (mc : Int32) (dA : Addr) (h0 : Heap) (n0 : Nat) (v : Option Value) (h : Heap) (L : List Loc) : Prop := ∃ (r : Addr), v = some (.ref r) ∧ Fr n0 L ∧ Keep h0 h [p0] ∧ n0 ≤ r ∧ h0.size ≤ r ∧ Exa Z h p0 "java/util/ArrayList" ∧ Fld Z h p0 "java/util/AbstractList" "modCount" "I" (.int mc) ∧ Fld Z h p0 "java/util/ArrayList" "elementData" "[Ljava/lang/Object;" (.ref r) ∧ Fld Z h p0 "java/util/ArrayList" "size" "I" (.int (0 : Int32)) ∧ own_Ob Z h r 10 []
theorem d30_0 : decode jdk_38_method_6_code 0 = .ok (.aload_n 0, 1) := by decide +kernel
theorem d30_1 : decode jdk_38_method_6_code 1 = .ok (.getfield 9, 3) := by decide +kernel
theorem d30_4 : decode jdk_38_method_6_code 4 = .ok (.arraylength, 1) := by decide +kernel
theorem d30_5 : decode jdk_38_method_6_code 5 = .ok (.istore_n 2, 1) := by decide +kernel
theorem d30_6 : decode jdk_38_method_6_code 6 = .ok (.iload_n 2, 1) := by decide +kernel
theorem d30_7 : decode jdk_38_method_6_code 7 = .ok (.ifCond .gt 13, 3) := by decide +kernel
theorem d30_10 : decode jdk_38_method_6_code 10 = .ok (.aload_n 0, 1) := by decide +kernel
theorem d30_11 : decode jdk_38_method_6_code 11 = .ok (.getfield 9, 3) := by decide +kernel
theorem d30_14 : decode jdk_38_method_6_code 14 = .ok (.getstatic 39, 3) := by decide +kernel
theorem d30_17 : decode jdk_38_method_6_code 17 = .ok (.if_acmp .eq 28, 3) := by decide +kernel
theorem d30_45 : decode jdk_38_method_6_code 45 = .ok (.aload_n 0, 1) := by decide +kernel
theorem d30_46 : decode jdk_38_method_6_code 46 = .ok (.bipush 10, 2) := by decide +kernel
theorem d30_48 : decode jdk_38_method_6_code 48 = .ok (.iload_n 1, 1) := by decide +kernel
theorem d30_49 : decode jdk_38_method_6_code 49 = .ok (.invokestatic 79, 3) := by decide +kernel
theorem d30_52 : decode jdk_38_method_6_code 52 = .ok (.anewarray 7, 3) := by decide +kernel
theorem d30_55 : decode jdk_38_method_6_code 55 = .ok (.dup_x1, 1) := by decide +kernel
theorem d30_56 : decode jdk_38_method_6_code 56 = .ok (.putfield 9, 3) := by decide +kernel
theorem d30_59 : decode jdk_38_method_6_code 59 = .ok (.areturn, 1) := by decide +kernel
theorem pd_3 : parseMethodDescriptor "(II)I" = some ⟨[.int, .int], some .int⟩ := by decide +kernel
theorem ef_30 (m : MethodId) (p0 : Addr) : entryFrame m #[(.ref p0), (.int (1 : Int32))] 4 = mkF m 0 #[.val (.ref p0), .val (.int (1 : Int32)), .unset, .unset] [] := by first | (simp [entryFrame, mkF, argsToLocals, Value.category]; done) | rfl
set_option maxRecDepth 65536 in
set_option maxHeartbeats 40000000 in
theorem rm30 (l : Launch) (Z : State) (a0 : Array Value) (hw : ∀ d ∈ tables_1, d.before a0 Z = true) (ws : List Jvm.Cond) (p0 : Addr) (h0 : Heap) (n0 : Nat) (Z0 : n0 ≤ h0.size) (mc : Int32) (dA : Addr) (P0 : Exa Z h0 p0 "java/util/ArrayList") (P1 : Fld Z h0 p0 "java/util/AbstractList" "modCount" "I" (.int mc)) (P2 : Fld Z h0 p0 "java/util/ArrayList" "elementData" "[Ljava/lang/Object;" (.ref dA)) (P3 : Fld Z h0 p0 "java/util/ArrayList" "size" "I" (.int (0 : Int32))) (P4 : Sta Z h0 "java/util/ArrayList" "DEFAULTCAPACITY_EMPTY_ELEMENTDATA" "[Ljava/lang/Object;" (.ref dA)) (P5 : own_Ob Z h0 dA 0 []) (gg_p0 : n0 ≤ p0) (hne : dA ≠ p0) :
    MetFree l (⟨"java/util/ArrayList", "grow", "(I)[Ljava/lang/Object;"⟩ : MethodName) (head1 (Jvm.Cond.code (⟨"java/util/ArrayList", "grow", "(I)[Ljava/lang/Object;"⟩ : MethodName) jdk_38_method_6_code 4 (some (.array (.object "java/lang/Object"))) :: ws) ({ frames := 1, cells := 1, slots := 10, locals := 14 } : Room)) (fun a U => a = #[(.ref p0), (.int (1 : Int32))] ∧ Z.Warmed39 U.vm ∧ U.heap = h0) (fun _ _ _ _ _ => True) (fun _ U o U' => ∃ v L, o = .returned v ∧ (own_Q30 Z p0 mc dA h0 n0) v U'.heap L ∧ FrameEnd U o U' L ({ frames := 1, cells := 1, slots := 10, locals := 14 } : Room).cells ({ frames := 1, cells := 1, slots := 10, locals := 14 } : Room).slots) := by
  refine MetFree.of_bodySF (plainFor_of_name pn_java_util_ArrayList) hisR ?_
  intro p e s m args below meth c s₁ Bd hml0 hP hK
  obtain ⟨rfl, hZ, hh⟩ := hP
  have hx := Bd.exec
  have hby := Bd.bytes
  have hml : c.maxLocals = 4 := hml0
  have hown : s.vm.findClass "java/util/ArrayList" = some m.cls := findClass_of_methodNamed Bd.named
  have hnm := (name_of_methodNamed Bd.named Bd.method).1
  have X0 : Stand p l e ({ frames := 1, cells := 1, slots := 10, locals := 14 } : Room) s m #[(.ref p0), (.int (1 : Int32))] below meth c s₁ [] 0 0 := Stand.of_body Bd
  have e0 : s₁.heap = h0 := by rw [← hh, Bd.state]; rfl
  have N0 := Fr.nil n0
  refine own_body (QQ := (own_Q30 Z p0 mc dA h0 n0)) (ef_30 m p0) ?_
  have hNS : ∀ x ∈ [p0], ∃ c : Cell, h0[x]? = some c ∧ c.vm.isStatics = false := by
    intro x hx
    rcases List.mem_cons.mp hx with e | hx
    · rw [e]; exact own_nsE P0
    exact nomatch hx
  refine own_via (s₁.setTop (mkF m 1 #[.val (.ref p0), .val (.int (1 : Int32)), .unset, .unset] [(.ref p0)])) (fun t k => XS.aloadN X0.here hx rfl (hb hby d30_0) rfl rfl k) ?_
  obtain ⟨T153, X153, e153, st153⟩ := getF X0 hx hZ hown (host := "") (Or.inl (hw _ (List.mem_of_getElem? (i := 44) rfl))) Via.refl e0 P2 (g := (mkF m 1 #[.val (.ref p0), .val (.int (1 : Int32)), .unset, .unset] [(.ref p0)])) rfl rfl (hb hby d30_1)
  refine own_via (T153.setTop (mkF m 4 #[.val (.ref p0), .val (.int (1 : Int32)), .unset, .unset] [(.ref dA)])) (fun t k => st153 t k) ?_
  obtain ⟨cl155, Ar155, S155, H155, -⟩ := id P5
  refine own_via (T153.setTop (mkF m 5 #[.val (.ref p0), .val (.int (1 : Int32)), .unset, .unset] [(.int (0 : Int32))])) (fun t k => X153.arraylength hx (by rw [e153]; exact Ar155.1) (State.isArrayOf_alike hZ.alike Ar155.2.1) (g := (mkF m 4 #[.val (.ref p0), .val (.int (1 : Int32)), .unset, .unset] [(.ref dA)])) rfl rfl (hb hby d30_4) _ (by rw [S155]; exact k)) ?_
  refine own_via (T153.setTop (mkF m 6 #[.val (.ref p0), .val (.int (1 : Int32)), .val (.int (0 : Int32)), .unset] [])) (fun t k => XS.istoreN X153.here hx rfl (hb hby d30_5) rfl (l' := #[.val (.ref p0), .val (.int (1 : Int32)), .val (.int (0 : Int32)), .unset]) rfl k) ?_
  refine own_via (T153.setTop (mkF m 7 #[.val (.ref p0), .val (.int (1 : Int32)), .val (.int (0 : Int32)), .unset] [(.int (0 : Int32))])) (fun t k => XS.iloadN X153.here hx rfl (hb hby d30_6) rfl  k) ?_
  refine own_via (T153.setTop (mkF m 10 #[.val (.ref p0), .val (.int (1 : Int32)), .val (.int (0 : Int32)), .unset] [])) (fun t k => XS.ifNo X153.here hx rfl (hb hby d30_7) rfl ((if0 _ _).trans (flt (by decide)).2.2.1) k) ?_
  refine own_via (T153.setTop (mkF m 11 #[.val (.ref p0), .val (.int (1 : Int32)), .val (.int (0 : Int32)), .unset] [(.ref p0)])) (fun t k => XS.aloadN X153.here hx rfl (hb hby d30_10) rfl rfl k) ?_
  obtain ⟨T156, X156, e156, st156⟩ := getF X153 hx hZ hown (host := "") (Or.inl (hw _ (List.mem_of_getElem? (i := 44) rfl))) Via.refl e153 P2 (g := (mkF m 11 #[.val (.ref p0), .val (.int (1 : Int32)), .val (.int (0 : Int32)), .unset] [(.ref p0)])) rfl rfl (hb hby d30_11)
  refine own_via (T156.setTop (mkF m 14 #[.val (.ref p0), .val (.int (1 : Int32)), .val (.int (0 : Int32)), .unset] [(.ref dA)])) (fun t k => st156 t k) ?_
  obtain ⟨T157, X157, e157, st157⟩ := getS2 X156 hx hZ hown (host := "") (Or.inl (hw _ (List.mem_of_getElem? (i := 43) rfl))) Via.refl e156 P4 (g := (mkF m 14 #[.val (.ref p0), .val (.int (1 : Int32)), .val (.int (0 : Int32)), .unset] [(.ref dA)])) rfl (hb hby d30_14)
  refine own_via (T157.setTop (mkF m 17 #[.val (.ref p0), .val (.int (1 : Int32)), .val (.int (0 : Int32)), .unset] [(.ref dA), (.ref dA)])) (fun t k => st157 t k) ?_
  refine own_via (T157.setTop (mkF m 45 #[.val (.ref p0), .val (.int (1 : Int32)), .val (.int (0 : Int32)), .unset] [])) (fun t k => Jvm.RoadKit.acmp (g := (mkF m 17 #[.val (.ref p0), .val (.int (1 : Int32)), .val (.int (0 : Int32)), .unset] [(.ref dA), (.ref dA)])) X157 hx rfl rfl rfl (pc0 := 17) (pc' := 45) (same := true) rfl (hb hby d30_17) rfl (decide_eq_true rfl) (by decide) (by decide) k) ?_
  refine own_via (T157.setTop (mkF m 46 #[.val (.ref p0), .val (.int (1 : Int32)), .val (.int (0 : Int32)), .unset] [(.ref p0)])) (fun t k => XS.aloadN X157.here hx rfl (hb hby d30_45) rfl rfl k) ?_
  refine own_via (T157.setTop (mkF m 48 #[.val (.ref p0), .val (.int (1 : Int32)), .val (.int (0 : Int32)), .unset] [(.int (10 : Int32)), (.ref p0)])) (fun t k => XS.bipush X157.here hx rfl (hb hby d30_46) k) ?_
  refine own_via (T157.setTop (mkF m 49 #[.val (.ref p0), .val (.int (1 : Int32)), .val (.int (0 : Int32)), .unset] [(.int (1 : Int32)), (.int (10 : Int32)), (.ref p0)])) (fun t k => XS.iloadN X157.here hx rfl (hb hby d30_48) rfl  k) ?_
  obtain ⟨_, _, ⟨T158, L158, k158, n158⟩, -, X158, ⟨Lc158, hQ158, l158, y158, z158⟩, st158⟩ := Jvm.LawKit.callS X157 hx (y := (⟨"java/lang/Math", "max", "(II)I"⟩ : MethodName)) hown (mvT hZ (hw _ (List.mem_of_getElem? (i := 235) rfl))) (mvT hZ (hw _ (List.mem_of_getElem? (i := 236) rfl))) (mvT hZ (hw _ (List.mem_of_getElem? (i := 237) rfl))) (mvT hZ (hw _ (List.mem_of_getElem? (i := 238) rfl))) (by decide) (backOf (W := 1) (rm31 l Z a0 hw []  h0 n0 (Nat.le_trans Z0 (Keep.refl h0 [p0]).1) ) hZ (hw _ (List.mem_of_getElem? (i := 238) rfl)) (hw _ (List.mem_of_getElem? (i := 237) rfl)) (by decide) (by decide)) (g := (mkF m 49 #[.val (.ref p0), .val (.int (1 : Int32)), .val (.int (0 : Int32)), .unset] [(.int (1 : Int32)), (.int (10 : Int32)), (.ref p0)])) rfl (by rw [hml]; rfl) (argsL := [(.int (10 : Int32)), (.int (1 : Int32))]) (rest := [(.ref p0)]) (lenOf pd_3 rfl) rfl (by show 2 * 0 + _ ≤ _; exact Nat.le_of_eq rfl) (hb hby d30_49) (fun _ _ => ⟨rfl, e157, (by decide : 0 + 0 ≤ _), (by decide : 0 + 0 ≤ _)⟩)
  dsimp only [Pt.U, Pt.locs, Pt.cells, Pt.slots] at X158 l158 y158 z158 st158 hQ158
  rw [y158, z158] at X158
  have X158 : Stand _ _ _ _ _ _ _ _ _ _ T158 L158 0 0 := X158
  obtain ⟨rfl, N158q, e158⟩ := hQ158
  have N158 : Fr n0 L158 := by rw [l158]; exact Fr.app N0 N158q
  refine own_via (T158.setTop (mkF m 52 #[.val (.ref p0), .val (.int (1 : Int32)), .val (.int (0 : Int32)), .unset] [(.int (10 : Int32)), (.ref p0)])) (fun t k => st158 t k) ?_
  obtain ⟨T159, h159, k159, X159, e159, E159, A159, O159, st159⟩ := newR X158 hx hZ hown (hw _ (List.mem_of_getElem? (i := 239) rfl)) (hw _ (List.mem_of_getElem? (i := 240) rfl)) e158 (g := (mkF m 52 #[.val (.ref p0), .val (.int (1 : Int32)), .val (.int (0 : Int32)), .unset] [(.int (10 : Int32)), (.ref p0)])) rfl (hb hby d30_52) rfl (by decide) (cap := 10) (by decide) (by decide) (by decide) (by decide)
  obtain ⟨b159, g159⟩ : ∃ z, z = h0.size := ⟨_, rfl⟩
  rw [← g159] at A159 st159
  have gg_b159 : n0 ≤ b159 := Nat.le_trans (Nat.le_trans Z0 (Keep.refl h0 [p0]).1) (Nat.le_of_eq g159.symm)
  have sz_b159 : h0.size ≤ b159 := Nat.le_trans (Keep.refl h0 [p0]).1 (Nat.le_of_eq g159.symm)
  have ne_p0_b159 : p0 ≠ b159 := Nat.ne_of_lt (Nat.lt_of_lt_of_le P0.lt (Nat.le_of_eq g159.symm))
  have ne_dA_b159 : dA ≠ b159 := Nat.ne_of_lt (Nat.lt_of_lt_of_le P5.lt (Nat.le_of_eq g159.symm))
  have V159 : own_Ob Z h159 b159 10 [] := own_Ob.new A159 O159 rfl
  have K160 : Keep h0 h159 [p0] := (Keep.refl h0 [p0]).ext E159
  refine own_via (T159.setTop (mkF m 55 #[.val (.ref p0), .val (.int (1 : Int32)), .val (.int (0 : Int32)), .unset] [(.ref b159), (.ref p0)])) (fun t k => st159 t k) ?_
  refine own_via (T159.setTop (mkF m 56 #[.val (.ref p0), .val (.int (1 : Int32)), .val (.int (0 : Int32)), .unset] [(.ref b159), (.ref p0), (.ref b159)])) (fun t k => XS.dupX1 X159.here hx rfl (hb hby d30_55) rfl rfl rfl k) ?_
  have F162 := (P2.ext E159)
  have F163 := (P0.ext E159)
  obtain ⟨T161, h161, X161, e161, W161, st161⟩ := putF X159 hx hZ hown (host := "") (Or.inl (hw _ (List.mem_of_getElem? (i := 44) rfl))) Via.refl e159 F162 F163 (Or.inl (hw _ (List.mem_of_getElem? (i := 45) rfl))) (hw _ (List.mem_of_getElem? (i := 23) rfl)) (ty := (.array (.object "java/lang/Object"))) (by decide) rfl rfl (g := (mkF m 56 #[.val (.ref p0), .val (.int (1 : Int32)), .val (.int (0 : Int32)), .unset] [(.ref b159), (.ref p0), (.ref b159)])) rfl rfl (hb hby d30_56)
  have Fw161 := F162.same W161
  have N161 := Fr.snoc X161 N158 gg_p0
  have K164 : Keep h0 h161 [p0] := K160.wr W161 (Or.inl (List.mem_of_getElem? (i := 0) rfl))
  refine own_via (T161.setTop (mkF m 59 #[.val (.ref p0), .val (.int (1 : Int32)), .val (.int (0 : Int32)), .unset] [(.ref b159)])) (fun t k => st161 t k) ?_
  refine own_leave X161 Bd.notSynchronized (v := some (.ref b159)) (fun h => by rw [Bd.returns] at h; cases h) (fun fs hr => retOut X161 hx Bd.returns rfl (Or.inr (Or.inr (Or.inr (Or.inr ⟨rfl, rfl, rfl⟩)))) (hb hby d30_59) hr) ?_ (by decide) (by decide)
  have F165 := (F163.wr W161)
  have F166 := ((P1.ext E159).other W161 (Or.inr (slot_ne (Or.inl (hw _ (List.mem_of_getElem? (i := 42) rfl))) (Or.inl (hw _ (List.mem_of_getElem? (i := 45) rfl))) (by decide) (t := .int) (t' := (.array (.object "java/lang/Object"))) (by decide) (by decide))))
  have F167 := ((P3.ext E159).other W161 (Or.inr (slot_ne (Or.inl (hw _ (List.mem_of_getElem? (i := 106) rfl))) (Or.inl (hw _ (List.mem_of_getElem? (i := 45) rfl))) (by decide) (t := .int) (t' := (.array (.object "java/lang/Object"))) (by decide) (by decide))))
  have F168 := (V159.other W161 (Ne.symm ne_p0_b159))
  show (own_Q30 Z p0 mc dA h0 n0) _ T161.heap _
  rw [e161]
  exact ⟨b159, rfl, N161, K164, gg_b159, sz_b159, F165, F166, Fw161, F167, F168⟩
def own_Q29 (Z : State) (p0 : Addr) (mc : Int32) (dA : Addr) (h0 : Heap) (n0 : Nat) (v : Option Value) (h : Heap) (L : List Loc) : Prop := ∃ (r : Addr), v = some (.ref r) ∧ Fr n0 L ∧ Keep h0 h [p0] ∧ n0 ≤ r ∧ h0.size ≤ r ∧ Exa Z h p0 "java/util/ArrayList" ∧ Fld Z h p0 "java/util/AbstractList" "modCount" "I" (.int mc) ∧ Fld Z h p0 "java/util/ArrayList" "elementData" "[Ljava/lang/Object;" (.ref r) ∧ Fld Z h p0 "java/util/ArrayList" "size" "I" (.int (0 : Int32)) ∧ own_Ob Z h r 10 []
theorem d29_0 : decode jdk_38_method_7_code 0 = .ok (.aload_n 0, 1) := by decide +kernel
theorem d29_1 : decode jdk_38_method_7_code 1 = .ok (.aload_n 0, 1) := by decide +kernel
theorem d29_2 : decode jdk_38_method_7_code 2 = .ok (.getfield 48, 3) := by decide +kernel
theorem d29_5 : decode jdk_38_method_7_code 5 = .ok (.iconst 1, 1) := by decide +kernel
theorem d29_6 : decode jdk_38_method_7_code 6 = .ok (.iadd, 1) := by decide +kernel
theorem d29_7 : decode jdk_38_method_7_code 7 = .ok (.invokevirtual 69, 3) := by decide +kernel
theorem d29_10 : decode jdk_38_method_7_code 10 = .ok (.areturn, 1) := by decide +kernel
theorem pd_4 : parseMethodDescriptor "(I)[Ljava/lang/Object;" = some ⟨[.int], some (.array (.object "java/lang/Object"))⟩ := by decide +kernel
theorem ef_29 (m : MethodId) (p0 : Addr) : entryFrame m #[(.ref p0)] 1 = mkF m 0 #[.val (.ref p0)] [] := by first | (simp [entryFrame, mkF, argsToLocals, Value.category]; done) | rfl
set_option maxRecDepth 65536 in
set_option maxHeartbeats 40000000 in
theorem rm29 (l : Launch) (Z : State) (a0 : Array Value) (hw : ∀ d ∈ tables_1, d.before a0 Z = true) (ws : List Jvm.Cond) (p0 : Addr) (h0 : Heap) (n0 : Nat) (Z0 : n0 ≤ h0.size) (mc : Int32) (dA : Addr) (P0 : Exa Z h0 p0 "java/util/ArrayList") (P1 : Fld Z h0 p0 "java/util/AbstractList" "modCount" "I" (.int mc)) (P2 : Fld Z h0 p0 "java/util/ArrayList" "elementData" "[Ljava/lang/Object;" (.ref dA)) (P3 : Fld Z h0 p0 "java/util/ArrayList" "size" "I" (.int (0 : Int32))) (P4 : Sta Z h0 "java/util/ArrayList" "DEFAULTCAPACITY_EMPTY_ELEMENTDATA" "[Ljava/lang/Object;" (.ref dA)) (P5 : own_Ob Z h0 dA 0 []) (gg_p0 : n0 ≤ p0) (hne : dA ≠ p0) :
    MetFree l (⟨"java/util/ArrayList", "grow", "()[Ljava/lang/Object;"⟩ : MethodName) (head1 (Jvm.Cond.code (⟨"java/util/ArrayList", "grow", "()[Ljava/lang/Object;"⟩ : MethodName) jdk_38_method_7_code 1 (some (.array (.object "java/lang/Object"))) :: ws) ({ frames := 2, cells := 1, slots := 10, locals := 29 } : Room)) (fun a U => a = #[(.ref p0)] ∧ Z.Warmed39 U.vm ∧ U.heap = h0) (fun _ _ _ _ _ => True) (fun _ U o U' => ∃ v L, o = .returned v ∧ (own_Q29 Z p0 mc dA h0 n0) v U'.heap L ∧ FrameEnd U o U' L ({ frames := 2, cells := 1, slots := 10, locals := 29 } : Room).cells ({ frames := 2, cells := 1, slots := 10, locals := 29 } : Room).slots) := by
  refine MetFree.of_bodySF (plainFor_of_name pn_java_util_ArrayList) hisR ?_
  intro p e s m args below meth c s₁ Bd hml0 hP hK
  obtain ⟨rfl, hZ, hh⟩ := hP
  have hx := Bd.exec
  have hby := Bd.bytes
  have hml : c.maxLocals = 1 := hml0
  have hown : s.vm.findClass "java/util/ArrayList" = some m.cls := findClass_of_methodNamed Bd.named
  have hnm := (name_of_methodNamed Bd.named Bd.method).1
  have X0 : Stand p l e ({ frames := 2, cells := 1, slots := 10, locals := 29 } : Room) s m #[(.ref p0)] below meth c s₁ [] 0 0 := Stand.of_body Bd
  have e0 : s₁.heap = h0 := by rw [← hh, Bd.state]; rfl
  have N0 := Fr.nil n0
  refine own_body (QQ := (own_Q29 Z p0 mc dA h0 n0)) (ef_29 m p0) ?_
  have hNS : ∀ x ∈ [p0], ∃ c : Cell, h0[x]? = some c ∧ c.vm.isStatics = false := by
    intro x hx
    rcases List.mem_cons.mp hx with e | hx
    · rw [e]; exact own_nsE P0
    exact nomatch hx
  refine own_via (s₁.setTop (mkF m 1 #[.val (.ref p0)] [(.ref p0)])) (fun t k => XS.aloadN X0.here hx rfl (hb hby d29_0) rfl rfl k) ?_
  refine own_via (s₁.setTop (mkF m 2 #[.val (.ref p0)] [(.ref p0), (.ref p0)])) (fun t k => XS.aloadN X0.here hx rfl (hb hby d29_1) rfl rfl k) ?_
  obtain ⟨T169, X169, e169, st169⟩ := getF X0 hx hZ hown (host := "") (Or.inl (hw _ (List.mem_of_getElem? (i := 219) rfl))) Via.refl e0 P3 (g := (mkF m 2 #[.val (.ref p0)] [(.ref p0), (.ref p0)])) rfl rfl (hb hby d29_2)
  refine own_via (T169.setTop (mkF m 5 #[.val (.ref p0)] [(.int (0 : Int32)), (.ref p0)])) (fun t k => st169 t k) ?_
  refine own_via (T169.setTop (mkF m 6 #[.val (.ref p0)] [(.int (1 : Int32)), (.int (0 : Int32)), (.ref p0)])) (fun t k => XS.iconst X169.here hx rfl (hb hby d29_5) k) ?_
  refine own_via (T169.setTop (mkF m 7 #[.val (.ref p0)] [(.int (1 : Int32)), (.ref p0)])) (fun t k => XS.iadd X169.here hx rfl (hb hby d29_6) rfl k) ?_
  obtain ⟨cq170, q170, q170b⟩ := P0.cell
  obtain ⟨_, _, ⟨T170, L170, k170, n170⟩, -, X170, ⟨Lc170, hQ170, l170, y170, z170⟩, st170⟩ := X169.privateBack hx (y := (⟨"java/util/ArrayList", "grow", "(I)[Ljava/lang/Object;"⟩ : MethodName)) hown (mvT hZ (hw _ (List.mem_of_getElem? (i := 230) rfl))) (mvT hZ (hw _ (List.mem_of_getElem? (i := 231) rfl))) (mvT hZ (hw _ (List.mem_of_getElem? (i := 233) rfl))) (Cond.privateMethod_at (mvP hZ (hw _ (List.mem_of_getElem? (i := 232) rfl)) (args := #[]))) (mvT hZ (hw _ (List.mem_of_getElem? (i := 234) rfl))) (by decide) (backOf (W := 0) (rm30 l Z a0 hw [] p0 h0 n0 (Nat.le_trans Z0 (Keep.refl h0 [p0]).1) mc dA P0 P1 P2 P3 P4 P5 gg_p0 (by assumption)) hZ (hw _ (List.mem_of_getElem? (i := 234) rfl)) (hw _ (List.mem_of_getElem? (i := 24) rfl)) (by decide) (by decide)) (g := (mkF m 7 #[.val (.ref p0)] [(.int (1 : Int32)), (.ref p0)])) rfl (by rw [hml]; rfl) (Steps.refl _) (a := p0) (by rw [e169]; exact q170) q170b (argsL := [(.int (1 : Int32))]) (rest := []) (lenOf pd_4 rfl) rfl (by show 2 * 0 + _ ≤ _; exact Nat.le_of_eq rfl) (hb hby d29_7) (fun _ _ => ⟨rfl, e169, (by decide : 0 + 1 ≤ _), (by decide : 0 + 10 ≤ _)⟩)
  dsimp only [Pt.U, Pt.locs, Pt.cells, Pt.slots] at X170 l170 y170 z170 st170 hQ170
  rw [y170, z170] at X170
  have X170 : Stand _ _ _ _ _ _ _ _ _ _ T170 L170 1 10 := X170
  obtain ⟨h170, e170⟩ : ∃ h, T170.heap = h := ⟨_, rfl⟩
  rw [e170] at hQ170
  obtain ⟨r_170, rfl, N170q, K170q, gg_r_170, sq_r_170, G170_0, G170_1, G170_2, G170_3, G170_4⟩ := hQ170
  have N170 : Fr n0 L170 := by rw [l170]; exact Fr.app N0 N170q
  have sz_r_170 : h0.size ≤ r_170 := Nat.le_trans (Keep.refl h0 [p0]).1 sq_r_170
  have ne_p0_r_170 : p0 ≠ r_170 := Nat.ne_of_lt (Nat.lt_of_lt_of_le P0.lt sq_r_170)
  have ne_dA_r_170 : dA ≠ r_170 := Nat.ne_of_lt (Nat.lt_of_lt_of_le P5.lt sq_r_170)
  have K171 : Keep h0 h170 [p0] := (Keep.refl h0 [p0]).trans K170q (fun x hx => (List.mem_cons.mp hx).elim (fun e => e ▸ Or.inl (List.mem_of_getElem? (i := 0) rfl)) (fun hx => nomatch hx))
  refine own_via (T170.setTop (mkF m 10 #[.val (.ref p0)] [(.ref r_170)])) (fun t k => st170.trans k) ?_
  refine own_leave X170 Bd.notSynchronized (v := some (.ref r_170)) (fun h => by rw [Bd.returns] at h; cases h) (fun fs hr => retOut X170 hx Bd.returns rfl (Or.inr (Or.inr (Or.inr (Or.inr ⟨rfl, rfl, rfl⟩)))) (hb hby d29_10) hr) ?_ (by decide) (by decide)
  show (own_Q29 Z p0 mc dA h0 n0) _ T170.heap _
  rw [e170]
  exact ⟨r_170, rfl, N170, K171, gg_r_170, sz_r_170, G170_0, G170_1, G170_2, G170_3, G170_4⟩
def own_Q28z (Z : State) (p0 : Addr) (p1 : Addr) (dA : Addr) (mc : Int32) (h0 : Heap) (n0 : Nat) (v : Option Value) (h : Heap) (L : List Loc) : Prop := ∃ (r : Addr), v = none ∧ Fr n0 L ∧ Keep h0 h [p0] ∧ n0 ≤ r ∧ h0.size ≤ r ∧ Exa Z h p0 "java/util/ArrayList" ∧ Fld Z h p0 "java/util/AbstractList" "modCount" "I" (.int mc) ∧ Fld Z h p0 "java/util/ArrayList" "elementData" "[Ljava/lang/Object;" (.ref r) ∧ Fld Z h p0 "java/util/ArrayList" "size" "I" (.int (1 : Int32)) ∧ own_Ob Z h r 10 [.ref p1]
theorem d28_0 : decode jdk_38_method_24_code 0 = .ok (.iload_n 3, 1) := by decide +kernel
theorem d28_1 : decode jdk_38_method_24_code 1 = .ok (.aload_n 2, 1) := by decide +kernel
theorem d28_2 : decode jdk_38_method_24_code 2 = .ok (.arraylength, 1) := by decide +kernel
theorem d28_3 : decode jdk_38_method_24_code 3 = .ok (.if_icmp .ne 8, 3) := by decide +kernel
theorem d28_6 : decode jdk_38_method_24_code 6 = .ok (.aload_n 0, 1) := by decide +kernel
theorem d28_7 : decode jdk_38_method_24_code 7 = .ok (.invokevirtual 129, 3) := by decide +kernel
theorem d28_10 : decode jdk_38_method_24_code 10 = .ok (.astore_n 2, 1) := by decide +kernel
theorem d28_11 : decode jdk_38_method_24_code 11 = .ok (.aload_n 2, 1) := by decide +kernel
theorem d28_12 : decode jdk_38_method_24_code 12 = .ok (.iload_n 3, 1) := by decide +kernel
theorem d28_13 : decode jdk_38_method_24_code 13 = .ok (.aload_n 1, 1) := by decide +kernel
theorem d28_14 : decode jdk_38_method_24_code 14 = .ok (.aastore, 1) := by decide +kernel
theorem d28_15 : decode jdk_38_method_24_code 15 = .ok (.aload_n 0, 1) := by decide +kernel
theorem d28_16 : decode jdk_38_method_24_code 16 = .ok (.iload_n 3, 1) := by decide +kernel
theorem d28_17 : decode jdk_38_method_24_code 17 = .ok (.iconst 1, 1) := by decide +kernel
theorem d28_18 : decode jdk_38_method_24_code 18 = .ok (.iadd, 1) := by decide +kernel
theorem d28_19 : decode jdk_38_method_24_code 19 = .ok (.putfield 48, 3) := by decide +kernel
theorem d28_22 : decode jdk_38_method_24_code 22 = .ok (.return_, 1) := by decide +kernel
theorem pd_5 : parseMethodDescriptor "()[Ljava/lang/Object;" = some ⟨[], some (.array (.object "java/lang/Object"))⟩ := by decide +kernel
theorem ef_28z (m : MethodId) (p0 : Addr) (p1 : Addr) (dA : Addr) : entryFrame m #[(.ref p0), (.ref p1), (.ref dA), (.int (0 : Int32))] 4 = mkF m 0 #[.val (.ref p0), .val (.ref p1), .val (.ref dA), .val (.int (0 : Int32))] [] := by first | (simp [entryFrame, mkF, argsToLocals, Value.category]; done) | rfl
set_option maxRecDepth 65536 in
set_option maxHeartbeats 40000000 in
theorem rm28z (l : Launch) (Z : State) (a0 : Array Value) (hw : ∀ d ∈ tables_1, d.before a0 Z = true) (ws : List Jvm.Cond) (p0 : Addr) (p1 : Addr) (dA : Addr) (h0 : Heap) (n0 : Nat) (Z0 : n0 ≤ h0.size) (mc : Int32) (P0 : Exa Z h0 p0 "java/util/ArrayList") (P1 : Fld Z h0 p0 "java/util/AbstractList" "modCount" "I" (.int mc)) (P2 : Fld Z h0 p0 "java/util/ArrayList" "elementData" "[Ljava/lang/Object;" (.ref dA)) (P3 : Fld Z h0 p0 "java/util/ArrayList" "size" "I" (.int (0 : Int32))) (P4 : Exa Z h0 p1 "com/example/unweave/unweave/abstraction/Operation") (P5 : Sta Z h0 "java/util/ArrayList" "DEFAULTCAPACITY_EMPTY_ELEMENTDATA" "[Ljava/lang/Object;" (.ref dA)) (P6 : own_Ob Z h0 dA 0 []) (gg_p0 : n0 ≤ p0) (hne : dA ≠ p0) :
    MetFree l (⟨"java/util/ArrayList", "add", "(Ljava/lang/Object;[Ljava/lang/Object;I)V"⟩ : MethodName) (head1 (Jvm.Cond.code (⟨"java/util/ArrayList", "add", "(Ljava/lang/Object;[Ljava/lang/Object;I)V"⟩ : MethodName) jdk_38_method_24_code 4 none :: ws) ({ frames := 3, cells := 1, slots := 10, locals := 41 } : Room)) (fun a U => a = #[(.ref p0), (.ref p1), (.ref dA), (.int (0 : Int32))] ∧ Z.Warmed39 U.vm ∧ U.heap = h0) (fun _ _ _ _ _ => True) (fun _ U o U' => ∃ v L, o = .returned v ∧ (own_Q28z Z p0 p1 dA mc h0 n0) v U'.heap L ∧ FrameEnd U o U' L ({ frames := 3, cells := 1, slots := 10, locals := 41 } : Room).cells ({ frames := 3, cells := 1, slots := 10, locals := 41 } : Room).slots) := by
  refine MetFree.of_bodySF (plainFor_of_name pn_java_util_ArrayList) hisR ?_
  intro p e s m args below meth c s₁ Bd hml0 hP hK
  obtain ⟨rfl, hZ, hh⟩ := hP
  have hx := Bd.exec
  have hby := Bd.bytes
  have hml : c.maxLocals = 4 := hml0
  have hown : s.vm.findClass "java/util/ArrayList" = some m.cls := findClass_of_methodNamed Bd.named
  have hnm := (name_of_methodNamed Bd.named Bd.method).1
  have X0 : Stand p l e ({ frames := 3, cells := 1, slots := 10, locals := 41 } : Room) s m #[(.ref p0), (.ref p1), (.ref dA), (.int (0 : Int32))] below meth c s₁ [] 0 0 := Stand.of_body Bd
  have e0 : s₁.heap = h0 := by rw [← hh, Bd.state]; rfl
  have N0 := Fr.nil n0
  refine own_body (QQ := (own_Q28z Z p0 p1 dA mc h0 n0)) (ef_28z m p0 p1 dA) ?_
  have hNS : ∀ x ∈ [p0], ∃ c : Cell, h0[x]? = some c ∧ c.vm.isStatics = false := by
    intro x hx
    rcases List.mem_cons.mp hx with e | hx
    · rw [e]; exact own_nsE P0
    exact nomatch hx
  refine own_via (s₁.setTop (mkF m 1 #[.val (.ref p0), .val (.ref p1), .val (.ref dA), .val (.int (0 : Int32))] [(.int (0 : Int32))])) (fun t k => XS.iloadN X0.here hx rfl (hb hby d28_0) rfl  k) ?_
  refine own_via (s₁.setTop (mkF m 2 #[.val (.ref p0), .val (.ref p1), .val (.ref dA), .val (.int (0 : Int32))] [(.ref dA), (.int (0 : Int32))])) (fun t k => XS.aloadN X0.here hx rfl (hb hby d28_1) rfl rfl k) ?_
  obtain ⟨cl173, Ar173, S173, H173, -⟩ := id P6
  refine own_via (s₁.setTop (mkF m 3 #[.val (.ref p0), .val (.ref p1), .val (.ref dA), .val (.int (0 : Int32))] [(.int (0 : Int32)), (.int (0 : Int32))])) (fun t k => X0.arraylength hx (by rw [e0]; exact Ar173.1) (State.isArrayOf_alike hZ.alike Ar173.2.1) (g := (mkF m 2 #[.val (.ref p0), .val (.ref p1), .val (.ref dA), .val (.int (0 : Int32))] [(.ref dA), (.int (0 : Int32))])) rfl rfl (hb hby d28_2) _ (by rw [S173]; exact k)) ?_
  refine own_via (s₁.setTop (mkF m 6 #[.val (.ref p0), .val (.ref p1), .val (.ref dA), .val (.int (0 : Int32))] [])) (fun t k => XS.icmpNo X0.here hx rfl (hb hby d28_3) rfl (teq (by decide)).2 k) ?_
  refine own_via (s₁.setTop (mkF m 7 #[.val (.ref p0), .val (.ref p1), .val (.ref dA), .val (.int (0 : Int32))] [(.ref p0)])) (fun t k => XS.aloadN X0.here hx rfl (hb hby d28_6) rfl rfl k) ?_
  obtain ⟨cq174, q174, q174b⟩ := P0.cell
  obtain ⟨_, _, ⟨T174, L174, k174, n174⟩, -, X174, ⟨Lc174, hQ174, l174, y174, z174⟩, st174⟩ := X0.privateBack hx (y := (⟨"java/util/ArrayList", "grow", "()[Ljava/lang/Object;"⟩ : MethodName)) hown (mvT hZ (hw _ (List.mem_of_getElem? (i := 225) rfl))) (mvT hZ (hw _ (List.mem_of_getElem? (i := 226) rfl))) (mvT hZ (hw _ (List.mem_of_getElem? (i := 228) rfl))) (Cond.privateMethod_at (mvP hZ (hw _ (List.mem_of_getElem? (i := 227) rfl)) (args := #[]))) (mvT hZ (hw _ (List.mem_of_getElem? (i := 229) rfl))) (by decide) (backOf (W := 0) (rm29 l Z a0 hw [] p0 h0 n0 (Nat.le_trans Z0 (Keep.refl h0 [p0]).1) mc dA P0 P1 P2 P3 P5 P6 gg_p0 (by assumption)) hZ (hw _ (List.mem_of_getElem? (i := 229) rfl)) (hw _ (List.mem_of_getElem? (i := 24) rfl)) (by decide) (by decide)) (g := (mkF m 7 #[.val (.ref p0), .val (.ref p1), .val (.ref dA), .val (.int (0 : Int32))] [(.ref p0)])) rfl (by rw [hml]; rfl) (Steps.refl _) (a := p0) (by rw [e0]; exact q174) q174b (argsL := []) (rest := []) (lenOf pd_5 rfl) rfl (by show 2 * 0 + _ ≤ _; exact Nat.le_of_eq rfl) (hb hby d28_7) (fun _ _ => ⟨rfl, e0, (by decide : 0 + 1 ≤ _), (by decide : 0 + 10 ≤ _)⟩)
  dsimp only [Pt.U, Pt.locs, Pt.cells, Pt.slots] at X174 l174 y174 z174 st174 hQ174
  rw [y174, z174] at X174
  have X174 : Stand _ _ _ _ _ _ _ _ _ _ T174 L174 1 10 := X174
  obtain ⟨h174, e174⟩ : ∃ h, T174.heap = h := ⟨_, rfl⟩
  rw [e174] at hQ174
  obtain ⟨r_174, rfl, N174q, K174q, gg_r_174, sq_r_174, G174_0, G174_1, G174_2, G174_3, G174_4⟩ := hQ174
  have N174 : Fr n0 L174 := by rw [l174]; exact Fr.app N0 N174q
  have sz_r_174 : h0.size ≤ r_174 := Nat.le_trans (Keep.refl h0 [p0]).1 sq_r_174
  have ne_p0_r_174 : p0 ≠ r_174 := Nat.ne_of_lt (Nat.lt_of_lt_of_le P0.lt sq_r_174)
  have ne_p1_r_174 : p1 ≠ r_174 := Nat.ne_of_lt (Nat.lt_of_lt_of_le P4.lt sq_r_174)
  have ne_dA_r_174 : dA ≠ r_174 := Nat.ne_of_lt (Nat.lt_of_lt_of_le P6.lt sq_r_174)
  have K175 : Keep h0 h174 [p0] := (Keep.refl h0 [p0]).trans K174q (fun x hx => (List.mem_cons.mp hx).elim (fun e => e ▸ Or.inl (List.mem_of_getElem? (i := 0) rfl)) (fun hx => nomatch hx))
  refine own_via (T174.setTop (mkF m 10 #[.val (.ref p0), .val (.ref p1), .val (.ref dA), .val (.int (0 : Int32))] [(.ref r_174)])) (fun t k => st174.trans k) ?_
  refine own_via (T174.setTop (mkF m 11 #[.val (.ref p0), .val (.ref p1), .val (.ref r_174), .val (.int (0 : Int32))] [])) (fun t k => XS.astoreN X174.here hx rfl (hb hby d28_10) rfl rfl (l' := #[.val (.ref p0), .val (.ref p1), .val (.ref r_174), .val (.int (0 : Int32))]) rfl k) ?_
  refine own_via (T174.setTop (mkF m 12 #[.val (.ref p0), .val (.ref p1), .val (.ref r_174), .val (.int (0 : Int32))] [(.ref r_174)])) (fun t k => XS.aloadN X174.here hx rfl (hb hby d28_11) rfl rfl k) ?_
  refine own_via (T174.setTop (mkF m 13 #[.val (.ref p0), .val (.ref p1), .val (.ref r_174), .val (.int (0 : Int32))] [(.int (0 : Int32)), (.ref r_174)])) (fun t k => XS.iloadN X174.here hx rfl (hb hby d28_12) rfl  k) ?_
  refine own_via (T174.setTop (mkF m 14 #[.val (.ref p0), .val (.ref p1), .val (.ref r_174), .val (.int (0 : Int32))] [(.ref p1), (.int (0 : Int32)), (.ref r_174)])) (fun t k => XS.aloadN X174.here hx rfl (hb hby d28_13) rfl rfl k) ?_
  have F177 := (P4.keep K174q)
  obtain ⟨cl176, Ar176, S176, So176⟩ := own_Ob.sto G174_4 (by decide) (Ins.of_exa F177 (hw _ (List.mem_of_getElem? (i := 241) rfl)))
  obtain ⟨T176, h176, X176, e176, W176, st176⟩ := stR X174 hx hZ e174 Ar176 (j := (0 : Int32)) (own_in S176 (by decide)) rfl So176 (g := (mkF m 14 #[.val (.ref p0), .val (.ref p1), .val (.ref r_174), .val (.int (0 : Int32))] [(.ref p1), (.int (0 : Int32)), (.ref r_174)])) rfl rfl (hb hby d28_14)
  have V176 : own_Ob Z h176 r_174 10 [.ref p1] := own_Ob.set G174_4 W176 (fun i hi => by rcases i with _ | _ | _ | _ | _ | _ | _ | _ | _ | _ | i <;> first | rfl | (exfalso; omega))
  have N176 := Fr.snoc X176 N174 gg_r_174
  have K178 : Keep h0 h176 [p0] := K175.wr W176 (Or.inr sz_r_174)
  refine own_via (T176.setTop (mkF m 15 #[.val (.ref p0), .val (.ref p1), .val (.ref r_174), .val (.int (0 : Int32))] [])) (fun t k => st176 t k) ?_
  refine own_via (T176.setTop (mkF m 16 #[.val (.ref p0), .val (.ref p1), .val (.ref r_174), .val (.int (0 : Int32))] [(.ref p0)])) (fun t k => XS.aloadN X176.here hx rfl (hb hby d28_15) rfl rfl k) ?_
  refine own_via (T176.setTop (mkF m 17 #[.val (.ref p0), .val (.ref p1), .val (.ref r_174), .val (.int (0 : Int32))] [(.int (0 : Int32)), (.ref p0)])) (fun t k => XS.iloadN X176.here hx rfl (hb hby d28_16) rfl  k) ?_
  refine own_via (T176.setTop (mkF m 18 #[.val (.ref p0), .val (.ref p1), .val (.ref r_174), .val (.int (0 : Int32))] [(.int (1 : Int32)), (.int (0 : Int32)), (.ref p0)])) (fun t k => XS.iconst X176.here hx rfl (hb hby d28_17) k) ?_
  refine own_via (T176.setTop (mkF m 19 #[.val (.ref p0), .val (.ref p1), .val (.ref r_174), .val (.int (0 : Int32))] [(.int (1 : Int32)), (.ref p0)])) (fun t k => XS.iadd X176.here hx rfl (hb hby d28_18) rfl k) ?_
  have F180 := (G174_3.other W176 (Or.inl ne_p0_r_174))
  have F181 := (G174_0.wr W176)
  obtain ⟨T179, h179, X179, e179, W179, st179⟩ := putF X176 hx hZ hown (host := "") (Or.inl (hw _ (List.mem_of_getElem? (i := 219) rfl))) Via.refl e176 F180 F181 (Or.inl (hw _ (List.mem_of_getElem? (i := 106) rfl))) (hw _ (List.mem_of_getElem? (i := 23) rfl)) (ty := .int) (by decide) rfl rfl (g := (mkF m 19 #[.val (.ref p0), .val (.ref p1), .val (.ref r_174), .val (.int (0 : Int32))] [(.int (1 : Int32)), (.ref p0)])) rfl rfl (hb hby d28_19)
  have Fw179 := F180.same W179
  have N179 := Fr.snoc X179 N176 gg_p0
  have K182 : Keep h0 h179 [p0] := K178.wr W179 (Or.inl (List.mem_of_getElem? (i := 0) rfl))
  refine own_via (T179.setTop (mkF m 22 #[.val (.ref p0), .val (.ref p1), .val (.ref r_174), .val (.int (0 : Int32))] [])) (fun t k => st179 t k) ?_
  refine own_leave X179 Bd.notSynchronized (v := none) (fun _ => rfl) (fun fs hr => X179.returnOut hx Bd.returns (hb hby d28_22) hr) ?_ (by decide) (by decide)
  have F183 := (F181.wr W179)
  have F184 := ((G174_1.other W176 (Or.inl ne_p0_r_174)).other W179 (Or.inr (slot_ne (Or.inl (hw _ (List.mem_of_getElem? (i := 42) rfl))) (Or.inl (hw _ (List.mem_of_getElem? (i := 106) rfl))) (by decide) (t := .int) (t' := .int) (by decide) (by decide))))
  have F185 := ((G174_2.other W176 (Or.inl ne_p0_r_174)).other W179 (Or.inr (slot_ne (Or.inl (hw _ (List.mem_of_getElem? (i := 45) rfl))) (Or.inl (hw _ (List.mem_of_getElem? (i := 106) rfl))) (by decide) (t := (.array (.object "java/lang/Object"))) (t' := .int) (by decide) (by decide))))
  have F186 := (V176.other W179 (Ne.symm ne_p0_r_174))
  show (own_Q28z Z p0 p1 dA mc h0 n0) _ T179.heap _
  rw [e179]
  exact ⟨r_174, rfl, N179, K182, gg_r_174, sz_r_174, F183, F184, F185, Fw179, F186⟩
def own_Q28o (Z : State) (p0 : Addr) (p1 : Addr) (el : Addr) (mc : Int32) (o0 : Addr) (h0 : Heap) (n0 : Nat) (v : Option Value) (h : Heap) (L : List Loc) : Prop := v = none ∧ Fr n0 L ∧ Keep h0 h [p0, el] ∧ Exa Z h p0 "java/util/ArrayList" ∧ Fld Z h p0 "java/util/AbstractList" "modCount" "I" (.int mc) ∧ Fld Z h p0 "java/util/ArrayList" "elementData" "[Ljava/lang/Object;" (.ref el) ∧ Fld Z h p0 "java/util/ArrayList" "size" "I" (.int (2 : Int32)) ∧ own_Ob Z h el 10 [.ref o0, .ref p1]
theorem ef_28o (m : MethodId) (p0 : Addr) (p1 : Addr) (el : Addr) : entryFrame m #[(.ref p0), (.ref p1), (.ref el), (.int (1 : Int32))] 4 = mkF m 0 #[.val (.ref p0), .val (.ref p1), .val (.ref el), .val (.int (1 : Int32))] [] := by first | (simp [entryFrame, mkF, argsToLocals, Value.category]; done) | rfl
set_option maxRecDepth 65536 in
set_option maxHeartbeats 40000000 in
theorem rm28o (l : Launch) (Z : State) (a0 : Array Value) (hw : ∀ d ∈ tables_1, d.before a0 Z = true) (ws : List Jvm.Cond) (p0 : Addr) (p1 : Addr) (el : Addr) (h0 : Heap) (n0 : Nat) (Z0 : n0 ≤ h0.size) (mc : Int32) (o0 : Addr) (P0 : Exa Z h0 p0 "java/util/ArrayList") (P1 : Fld Z h0 p0 "java/util/AbstractList" "modCount" "I" (.int mc)) (P2 : Fld Z h0 p0 "java/util/ArrayList" "elementData" "[Ljava/lang/Object;" (.ref el)) (P3 : Fld Z h0 p0 "java/util/ArrayList" "size" "I" (.int (1 : Int32))) (P4 : Exa Z h0 p1 "com/example/unweave/unweave/abstraction/Operation") (P5 : own_Ob Z h0 el 10 [.ref o0]) (gg_p0 : n0 ≤ p0) (gg_el : n0 ≤ el) (hne : el ≠ p0) :
    MetFree l (⟨"java/util/ArrayList", "add", "(Ljava/lang/Object;[Ljava/lang/Object;I)V"⟩ : MethodName) (head1 (Jvm.Cond.code (⟨"java/util/ArrayList", "add", "(Ljava/lang/Object;[Ljava/lang/Object;I)V"⟩ : MethodName) jdk_38_method_24_code 4 none :: ws) ({ frames := 0, cells := 0, slots := 0, locals := 0 } : Room)) (fun a U => a = #[(.ref p0), (.ref p1), (.ref el), (.int (1 : Int32))] ∧ Z.Warmed39 U.vm ∧ U.heap = h0) (fun _ _ _ _ _ => True) (fun _ U o U' => ∃ v L, o = .returned v ∧ (own_Q28o Z p0 p1 el mc o0 h0 n0) v U'.heap L ∧ FrameEnd U o U' L ({ frames := 0, cells := 0, slots := 0, locals := 0 } : Room).cells ({ frames := 0, cells := 0, slots := 0, locals := 0 } : Room).slots) := by
  refine MetFree.of_bodySF (plainFor_of_name pn_java_util_ArrayList) hisR ?_
  intro p e s m args below meth c s₁ Bd hml0 hP hK
  obtain ⟨rfl, hZ, hh⟩ := hP
  have hx := Bd.exec
  have hby := Bd.bytes
  have hml : c.maxLocals = 4 := hml0
  have hown : s.vm.findClass "java/util/ArrayList" = some m.cls := findClass_of_methodNamed Bd.named
  have hnm := (name_of_methodNamed Bd.named Bd.method).1
  have X0 : Stand p l e ({ frames := 0, cells := 0, slots := 0, locals := 0 } : Room) s m #[(.ref p0), (.ref p1), (.ref el), (.int (1 : Int32))] below meth c s₁ [] 0 0 := Stand.of_body Bd
  have e0 : s₁.heap = h0 := by rw [← hh, Bd.state]; rfl
  have N0 := Fr.nil n0
  refine own_body (QQ := (own_Q28o Z p0 p1 el mc o0 h0 n0)) (ef_28o m p0 p1 el) ?_
  refine own_via (s₁.setTop (mkF m 1 #[.val (.ref p0), .val (.ref p1), .val (.ref el), .val (.int (1 : Int32))] [(.int (1 : Int32))])) (fun t k => XS.iloadN X0.here hx rfl (hb hby d28_0) rfl  k) ?_
  refine own_via (s₁.setTop (mkF m 2 #[.val (.ref p0), .val (.ref p1), .val (.ref el), .val (.int (1 : Int32))] [(.ref el), (.int (1 : Int32))])) (fun t k => XS.aloadN X0.here hx rfl (hb hby d28_1) rfl rfl k) ?_
  obtain ⟨cl188, Ar188, S188, H188, -⟩ := id P5
  refine own_via (s₁.setTop (mkF m 3 #[.val (.ref p0), .val (.ref p1), .val (.ref el), .val (.int (1 : Int32))] [(.int (10 : Int32)), (.int (1 : Int32))])) (fun t k => X0.arraylength hx (by rw [e0]; exact Ar188.1) (State.isArrayOf_alike hZ.alike Ar188.2.1) (g := (mkF m 2 #[.val (.ref p0), .val (.ref p1), .val (.ref el), .val (.int (1 : Int32))] [(.ref el), (.int (1 : Int32))])) rfl rfl (hb hby d28_2) _ (by rw [S188]; exact k)) ?_
  refine own_via (s₁.setTop (mkF m 11 #[.val (.ref p0), .val (.ref p1), .val (.ref el), .val (.int (1 : Int32))] [])) (fun t k => XS.icmpYes X0.here hx rfl (pc0 := 3) (pc' := 11) rfl (hb hby d28_3) rfl (feq (by decide)).2 (by decide) (by decide) k) ?_
  refine own_via (s₁.setTop (mkF m 12 #[.val (.ref p0), .val (.ref p1), .val (.ref el), .val (.int (1 : Int32))] [(.ref el)])) (fun t k => XS.aloadN X0.here hx rfl (hb hby d28_11) rfl rfl k) ?_
  refine own_via (s₁.setTop (mkF m 13 #[.val (.ref p0), .val (.ref p1), .val (.ref el), .val (.int (1 : Int32))] [(.int (1 : Int32)), (.ref el)])) (fun t k => XS.iloadN X0.here hx rfl (hb hby d28_12) rfl  k) ?_
  refine own_via (s₁.setTop (mkF m 14 #[.val (.ref p0), .val (.ref p1), .val (.ref el), .val (.int (1 : Int32))] [(.ref p1), (.int (1 : Int32)), (.ref el)])) (fun t k => XS.aloadN X0.here hx rfl (hb hby d28_13) rfl rfl k) ?_
  obtain ⟨cl189, Ar189, S189, So189⟩ := own_Ob.sto P5 (by decide) (Ins.of_exa P4 (hw _ (List.mem_of_getElem? (i := 241) rfl)))
  obtain ⟨T189, h189, X189, e189, W189, st189⟩ := stR X0 hx hZ e0 Ar189 (j := (1 : Int32)) (own_in S189 (by decide)) rfl So189 (g := (mkF m 14 #[.val (.ref p0), .val (.ref p1), .val (.ref el), .val (.int (1 : Int32))] [(.ref p1), (.int (1 : Int32)), (.ref el)])) rfl rfl (hb hby d28_14)
  have V189 : own_Ob Z h189 el 10 [.ref o0, .ref p1] := own_Ob.set P5 W189 (fun i hi => by rcases i with _ | _ | _ | _ | _ | _ | _ | _ | _ | _ | i <;> first | rfl | (exfalso; omega))
  have N189 := Fr.snoc X189 N0 gg_el
  have K190 : Keep h0 h189 [p0, el] := (Keep.refl h0 [p0, el]).wr W189 (Or.inl (List.mem_of_getElem? (i := 1) rfl))
  refine own_via (T189.setTop (mkF m 15 #[.val (.ref p0), .val (.ref p1), .val (.ref el), .val (.int (1 : Int32))] [])) (fun t k => st189 t k) ?_
  refine own_via (T189.setTop (mkF m 16 #[.val (.ref p0), .val (.ref p1), .val (.ref el), .val (.int (1 : Int32))] [(.ref p0)])) (fun t k => XS.aloadN X189.here hx rfl (hb hby d28_15) rfl rfl k) ?_
  refine own_via (T189.setTop (mkF m 17 #[.val (.ref p0), .val (.ref p1), .val (.ref el), .val (.int (1 : Int32))] [(.int (1 : Int32)), (.ref p0)])) (fun t k => XS.iloadN X189.here hx rfl (hb hby d28_16) rfl  k) ?_
  refine own_via (T189.setTop (mkF m 18 #[.val (.ref p0), .val (.ref p1), .val (.ref el), .val (.int (1 : Int32))] [(.int (1 : Int32)), (.int (1 : Int32)), (.ref p0)])) (fun t k => XS.iconst X189.here hx rfl (hb hby d28_17) k) ?_
  refine own_via (T189.setTop (mkF m 19 #[.val (.ref p0), .val (.ref p1), .val (.ref el), .val (.int (1 : Int32))] [(.int (2 : Int32)), (.ref p0)])) (fun t k => XS.iadd X189.here hx rfl (hb hby d28_18) rfl k) ?_
  have F192 := (P3.other W189 (Or.inl (Ne.symm hne)))
  have F193 := (P0.wr W189)
  obtain ⟨T191, h191, X191, e191, W191, st191⟩ := putF X189 hx hZ hown (host := "") (Or.inl (hw _ (List.mem_of_getElem? (i := 219) rfl))) Via.refl e189 F192 F193 (Or.inl (hw _ (List.mem_of_getElem? (i := 106) rfl))) (hw _ (List.mem_of_getElem? (i := 23) rfl)) (ty := .int) (by decide) rfl rfl (g := (mkF m 19 #[.val (.ref p0), .val (.ref p1), .val (.ref el), .val (.int (1 : Int32))] [(.int (2 : Int32)), (.ref p0)])) rfl rfl (hb hby d28_19)
  have Fw191 := F192.same W191
  have N191 := Fr.snoc X191 N189 gg_p0
  have K194 : Keep h0 h191 [p0, el] := K190.wr W191 (Or.inl (List.mem_of_getElem? (i := 0) rfl))
  refine own_via (T191.setTop (mkF m 22 #[.val (.ref p0), .val (.ref p1), .val (.ref el), .val (.int (1 : Int32))] [])) (fun t k => st191 t k) ?_
  refine own_leave X191 Bd.notSynchronized (v := none) (fun _ => rfl) (fun fs hr => X191.returnOut hx Bd.returns (hb hby d28_22) hr) ?_ (by decide) (by decide)
  have F195 := (F193.wr W191)
  have F196 := ((P1.other W189 (Or.inl (Ne.symm hne))).other W191 (Or.inr (slot_ne (Or.inl (hw _ (List.mem_of_getElem? (i := 42) rfl))) (Or.inl (hw _ (List.mem_of_getElem? (i := 106) rfl))) (by decide) (t := .int) (t' := .int) (by decide) (by decide))))
  have F197 := ((P2.other W189 (Or.inl (Ne.symm hne))).other W191 (Or.inr (slot_ne (Or.inl (hw _ (List.mem_of_getElem? (i := 45) rfl))) (Or.inl (hw _ (List.mem_of_getElem? (i := 106) rfl))) (by decide) (t := (.array (.object "java/lang/Object"))) (t' := .int) (by decide) (by decide))))
  have F198 := (V189.other W191 hne)
  show (own_Q28o Z p0 p1 el mc o0 h0 n0) _ T191.heap _
  rw [e191]
  exact ⟨rfl, N191, K194, F195, F196, F197, Fw191, F198⟩
def own_Q27z (Z : State) (p0 : Addr) (p1 : Addr) (mc : Int32) (dA : Addr) (h0 : Heap) (n0 : Nat) (v : Option Value) (h : Heap) (L : List Loc) : Prop := ∃ (r : Addr), v = some (.int (1 : Int32)) ∧ Fr n0 L ∧ Keep h0 h [p0] ∧ n0 ≤ r ∧ h0.size ≤ r ∧ Exa Z h p0 "java/util/ArrayList" ∧ Fld Z h p0 "java/util/AbstractList" "modCount" "I" (.int (mc + (1 : Int32))) ∧ Fld Z h p0 "java/util/ArrayList" "elementData" "[Ljava/lang/Object;" (.ref r) ∧ Fld Z h p0 "java/util/ArrayList" "size" "I" (.int (1 : Int32)) ∧ own_Ob Z h r 10 [.ref p1]
theorem d27_0 : decode jdk_38_method_25_code 0 = .ok (.aload_n 0, 1) := by decide +kernel
theorem d27_1 : decode jdk_38_method_25_code 1 = .ok (.dup, 1) := by decide +kernel
theorem d27_2 : decode jdk_38_method_25_code 2 = .ok (.getfield 63, 3) := by decide +kernel
theorem d27_5 : decode jdk_38_method_25_code 5 = .ok (.iconst 1, 1) := by decide +kernel
theorem d27_6 : decode jdk_38_method_25_code 6 = .ok (.iadd, 1) := by decide +kernel
theorem d27_7 : decode jdk_38_method_25_code 7 = .ok (.putfield 63, 3) := by decide +kernel
theorem d27_10 : decode jdk_38_method_25_code 10 = .ok (.aload_n 0, 1) := by decide +kernel
theorem d27_11 : decode jdk_38_method_25_code 11 = .ok (.aload_n 1, 1) := by decide +kernel
theorem d27_12 : decode jdk_38_method_25_code 12 = .ok (.aload_n 0, 1) := by decide +kernel
theorem d27_13 : decode jdk_38_method_25_code 13 = .ok (.getfield 9, 3) := by decide +kernel
theorem d27_16 : decode jdk_38_method_25_code 16 = .ok (.aload_n 0, 1) := by decide +kernel
theorem d27_17 : decode jdk_38_method_25_code 17 = .ok (.getfield 48, 3) := by decide +kernel
theorem d27_20 : decode jdk_38_method_25_code 20 = .ok (.invokevirtual 131, 3) := by decide +kernel
theorem d27_23 : decode jdk_38_method_25_code 23 = .ok (.iconst 1, 1) := by decide +kernel
theorem d27_24 : decode jdk_38_method_25_code 24 = .ok (.ireturn, 1) := by decide +kernel
theorem pd_6 : parseMethodDescriptor "(Ljava/lang/Object;[Ljava/lang/Object;I)V" = some ⟨[(.object "java/lang/Object"), (.array (.object "java/lang/Object")), .int], none⟩ := by decide +kernel
theorem ef_27z (m : MethodId) (p0 : Addr) (p1 : Addr) : entryFrame m #[(.ref p0), (.ref p1)] 2 = mkF m 0 #[.val (.ref p0), .val (.ref p1)] [] := by first | (simp [entryFrame, mkF, argsToLocals, Value.category]; done) | rfl
set_option maxRecDepth 65536 in
set_option maxHeartbeats 40000000 in
theorem rm27z (l : Launch) (Z : State) (a0 : Array Value) (hw : ∀ d ∈ tables_1, d.before a0 Z = true) (ws : List Jvm.Cond) (p0 : Addr) (p1 : Addr) (h0 : Heap) (n0 : Nat) (Z0 : n0 ≤ h0.size) (mc : Int32) (dA : Addr) (P0 : Exa Z h0 p0 "java/util/ArrayList") (P1 : Fld Z h0 p0 "java/util/AbstractList" "modCount" "I" (.int mc)) (P2 : Fld Z h0 p0 "java/util/ArrayList" "elementData" "[Ljava/lang/Object;" (.ref dA)) (P3 : Fld Z h0 p0 "java/util/ArrayList" "size" "I" (.int (0 : Int32))) (P4 : Exa Z h0 p1 "com/example/unweave/unweave/abstraction/Operation") (P5 : Sta Z h0 "java/util/ArrayList" "DEFAULTCAPACITY_EMPTY_ELEMENTDATA" "[Ljava/lang/Object;" (.ref dA)) (P6 : own_Ob Z h0 dA 0 []) (gg_p0 : n0 ≤ p0) (hne : dA ≠ p0) :
    MetFree l (⟨"java/util/ArrayList", "add", "(Ljava/lang/Object;)Z"⟩ : MethodName) (head1 (Jvm.Cond.code (⟨"java/util/ArrayList", "add", "(Ljava/lang/Object;)Z"⟩ : MethodName) jdk_38_method_25_code 2 (some .boolean) :: ws) ({ frames := 4, cells := 1, slots := 10, locals := 56 } : Room)) (fun a U => a = #[(.ref p0), (.ref p1)] ∧ Z.Warmed39 U.vm ∧ U.heap = h0) (fun _ _ _ _ _ => True) (fun _ U o U' => ∃ v L, o = .returned v ∧ (own_Q27z Z p0 p1 mc dA h0 n0) v U'.heap L ∧ FrameEnd U o U' L ({ frames := 4, cells := 1, slots := 10, locals := 56 } : Room).cells ({ frames := 4, cells := 1, slots := 10, locals := 56 } : Room).slots) := by
  refine MetFree.of_bodySF (plainFor_of_name pn_java_util_ArrayList) hisR ?_
  intro p e s m args below meth c s₁ Bd hml0 hP hK
  obtain ⟨rfl, hZ, hh⟩ := hP
  have hx := Bd.exec
  have hby := Bd.bytes
  have hml : c.maxLocals = 2 := hml0
  have hown : s.vm.findClass "java/util/ArrayList" = some m.cls := findClass_of_methodNamed Bd.named
  have hnm := (name_of_methodNamed Bd.named Bd.method).1
  have X0 : Stand p l e ({ frames := 4, cells := 1, slots := 10, locals := 56 } : Room) s m #[(.ref p0), (.ref p1)] below meth c s₁ [] 0 0 := Stand.of_body Bd
  have e0 : s₁.heap = h0 := by rw [← hh, Bd.state]; rfl
  have N0 := Fr.nil n0
  refine own_body (QQ := (own_Q27z Z p0 p1 mc dA h0 n0)) (ef_27z m p0 p1) ?_
  have hNS : ∀ x ∈ [p0], ∃ c : Cell, h0[x]? = some c ∧ c.vm.isStatics = false := by
    intro x hx
    rcases List.mem_cons.mp hx with e | hx
    · rw [e]; exact own_nsE P0
    exact nomatch hx
  refine own_via (s₁.setTop (mkF m 1 #[.val (.ref p0), .val (.ref p1)] [(.ref p0)])) (fun t k => XS.aloadN X0.here hx rfl (hb hby d27_0) rfl rfl k) ?_
  refine own_via (s₁.setTop (mkF m 2 #[.val (.ref p0), .val (.ref p1)] [(.ref p0), (.ref p0)])) (fun t k => XS.dup X0.here hx rfl (hb hby d27_1) rfl rfl k) ?_
  obtain ⟨T199, X199, e199, st199⟩ := getF X0 hx hZ hown (host := "") (Or.inl (hw _ (List.mem_of_getElem? (i := 218) rfl))) (Via.of (hw _ (List.mem_of_getElem? (i := 91) rfl))) e0 P1 (g := (mkF m 2 #[.val (.ref p0), .val (.ref p1)] [(.ref p0), (.ref p0)])) rfl rfl (hb hby d27_2)
  refine own_via (T199.setTop (mkF m 5 #[.val (.ref p0), .val (.ref p1)] [(.int mc), (.ref p0)])) (fun t k => st199 t k) ?_
  refine own_via (T199.setTop (mkF m 6 #[.val (.ref p0), .val (.ref p1)] [(.int (1 : Int32)), (.int mc), (.ref p0)])) (fun t k => XS.iconst X199.here hx rfl (hb hby d27_5) k) ?_
  refine own_via (T199.setTop (mkF m 7 #[.val (.ref p0), .val (.ref p1)] [(.int (mc + (1 : Int32))), (.ref p0)])) (fun t k => XS.iadd X199.here hx rfl (hb hby d27_6) rfl k) ?_
  obtain ⟨T200, h200, X200, e200, W200, st200⟩ := putF X199 hx hZ hown (host := "") (Or.inl (hw _ (List.mem_of_getElem? (i := 218) rfl))) (Via.of (hw _ (List.mem_of_getElem? (i := 91) rfl))) e199 P1 P0 (Or.inl (hw _ (List.mem_of_getElem? (i := 42) rfl))) (hw _ (List.mem_of_getElem? (i := 23) rfl)) (ty := .int) (by decide) rfl rfl (g := (mkF m 7 #[.val (.ref p0), .val (.ref p1)] [(.int (mc + (1 : Int32))), (.ref p0)])) rfl rfl (hb hby d27_7)
  have Fw200 := P1.same W200
  have N200 := Fr.snoc X200 N0 gg_p0
  have K201 : Keep h0 h200 [p0] := (Keep.refl h0 [p0]).wr W200 (Or.inl (List.mem_of_getElem? (i := 0) rfl))
  refine own_via (T200.setTop (mkF m 10 #[.val (.ref p0), .val (.ref p1)] [])) (fun t k => st200 t k) ?_
  refine own_via (T200.setTop (mkF m 11 #[.val (.ref p0), .val (.ref p1)] [(.ref p0)])) (fun t k => XS.aloadN X200.here hx rfl (hb hby d27_10) rfl rfl k) ?_
  refine own_via (T200.setTop (mkF m 12 #[.val (.ref p0), .val (.ref p1)] [(.ref p1), (.ref p0)])) (fun t k => XS.aloadN X200.here hx rfl (hb hby d27_11) rfl rfl k) ?_
  refine own_via (T200.setTop (mkF m 13 #[.val (.ref p0), .val (.ref p1)] [(.ref p0), (.ref p1), (.ref p0)])) (fun t k => XS.aloadN X200.here hx rfl (hb hby d27_12) rfl rfl k) ?_
  have F203 := (P2.other W200 (Or.inr (slot_ne (Or.inl (hw _ (List.mem_of_getElem? (i := 45) rfl))) (Or.inl (hw _ (List.mem_of_getElem? (i := 42) rfl))) (by decide) (t := (.array (.object "java/lang/Object"))) (t' := .int) (by decide) (by decide))))
  obtain ⟨T202, X202, e202, st202⟩ := getF X200 hx hZ hown (host := "") (Or.inl (hw _ (List.mem_of_getElem? (i := 44) rfl))) Via.refl e200 F203 (g := (mkF m 13 #[.val (.ref p0), .val (.ref p1)] [(.ref p0), (.ref p1), (.ref p0)])) rfl rfl (hb hby d27_13)
  refine own_via (T202.setTop (mkF m 16 #[.val (.ref p0), .val (.ref p1)] [(.ref dA), (.ref p1), (.ref p0)])) (fun t k => st202 t k) ?_
  refine own_via (T202.setTop (mkF m 17 #[.val (.ref p0), .val (.ref p1)] [(.ref p0), (.ref dA), (.ref p1), (.ref p0)])) (fun t k => XS.aloadN X202.here hx rfl (hb hby d27_16) rfl rfl k) ?_
  have F205 := (P3.other W200 (Or.inr (slot_ne (Or.inl (hw _ (List.mem_of_getElem? (i := 106) rfl))) (Or.inl (hw _ (List.mem_of_getElem? (i := 42) rfl))) (by decide) (t := .int) (t' := .int) (by decide) (by decide))))
  obtain ⟨T204, X204, e204, st204⟩ := getF X202 hx hZ hown (host := "") (Or.inl (hw _ (List.mem_of_getElem? (i := 219) rfl))) Via.refl e202 F205 (g := (mkF m 17 #[.val (.ref p0), .val (.ref p1)] [(.ref p0), (.ref dA), (.ref p1), (.ref p0)])) rfl rfl (hb hby d27_17)
  refine own_via (T204.setTop (mkF m 20 #[.val (.ref p0), .val (.ref p1)] [(.int (0 : Int32)), (.ref dA), (.ref p1), (.ref p0)])) (fun t k => st204 t k) ?_
  have F207 := (P0.wr W200)
  have F208 := (P4.wr W200)
  have F209 := (P6.other W200 hne)
  obtain ⟨cq206, q206, q206b⟩ := F207.cell
  obtain ⟨_, _, ⟨T206, L206, k206, n206⟩, -, X206, ⟨Lc206, hQ206, l206, y206, z206⟩, st206⟩ := X204.privateBack hx (y := (⟨"java/util/ArrayList", "add", "(Ljava/lang/Object;[Ljava/lang/Object;I)V"⟩ : MethodName)) hown (mvT hZ (hw _ (List.mem_of_getElem? (i := 220) rfl))) (mvT hZ (hw _ (List.mem_of_getElem? (i := 221) rfl))) (mvT hZ (hw _ (List.mem_of_getElem? (i := 223) rfl))) (Cond.privateMethod_at (mvP hZ (hw _ (List.mem_of_getElem? (i := 222) rfl)) (args := #[]))) (mvT hZ (hw _ (List.mem_of_getElem? (i := 224) rfl))) (by decide) (backOf (W := 0) (rm28z l Z a0 hw [] p0 p1 dA h200 n0 (Nat.le_trans Z0 K201.1) (mc + (1 : Int32)) F207 Fw200 F203 F205 F208 (own_stakeepW P5 hNS K201) F209 gg_p0 (by assumption)) hZ (hw _ (List.mem_of_getElem? (i := 224) rfl)) (hw _ (List.mem_of_getElem? (i := 24) rfl)) (by decide) (by decide)) (g := (mkF m 20 #[.val (.ref p0), .val (.ref p1)] [(.int (0 : Int32)), (.ref dA), (.ref p1), (.ref p0)])) rfl (by rw [hml]; rfl) (Steps.refl _) (a := p0) (by rw [e204]; exact q206) q206b (argsL := [(.ref p1), (.ref dA), (.int (0 : Int32))]) (rest := []) (lenOf pd_6 rfl) rfl (by show 2 * 0 + _ ≤ _; exact Nat.le_of_eq rfl) (hb hby d27_20) (fun _ _ => ⟨rfl, e204, (by decide : 0 + 1 ≤ _), (by decide : 0 + 10 ≤ _)⟩)
  dsimp only [Pt.U, Pt.locs, Pt.cells, Pt.slots] at X206 l206 y206 z206 st206 hQ206
  rw [y206, z206] at X206
  have X206 : Stand _ _ _ _ _ _ _ _ _ _ T206 L206 1 10 := X206
  obtain ⟨h206, e206⟩ : ∃ h, T206.heap = h := ⟨_, rfl⟩
  rw [e206] at hQ206
  obtain ⟨r_206, rfl, N206q, K206q, gg_r_206, sq_r_206, G206_0, G206_1, G206_2, G206_3, G206_4⟩ := hQ206
  have N206 : Fr n0 L206 := by rw [l206]; exact Fr.app N200 N206q
  have sz_r_206 : h0.size ≤ r_206 := Nat.le_trans K201.1 sq_r_206
  have ne_p0_r_206 : p0 ≠ r_206 := Nat.ne_of_lt (Nat.lt_of_lt_of_le F207.lt sq_r_206)
  have ne_p1_r_206 : p1 ≠ r_206 := Nat.ne_of_lt (Nat.lt_of_lt_of_le F208.lt sq_r_206)
  have ne_dA_r_206 : dA ≠ r_206 := Nat.ne_of_lt (Nat.lt_of_lt_of_le F209.lt sq_r_206)
  have K210 : Keep h0 h206 [p0] := K201.trans K206q (fun x hx => (List.mem_cons.mp hx).elim (fun e => e ▸ Or.inl (List.mem_of_getElem? (i := 0) rfl)) (fun hx => nomatch hx))
  refine own_via (T206.setTop (mkF m 23 #[.val (.ref p0), .val (.ref p1)] [])) (fun t k => st206.trans k) ?_
  refine own_via (T206.setTop (mkF m 24 #[.val (.ref p0), .val (.ref p1)] [(.int (1 : Int32))])) (fun t k => XS.iconst X206.here hx rfl (hb hby d27_23) k) ?_
  refine own_leave X206 Bd.notSynchronized (v := some (.int (1 : Int32))) (fun h => by rw [Bd.returns] at h; cases h) (fun fs hr => retN X206 hx (t := .boolean) Bd.returns (by simp) (hb hby d27_24) hr) ?_ (by decide) (by decide)
  show (own_Q27z Z p0 p1 mc dA h0 n0) _ T206.heap _
  rw [e206]
  exact ⟨r_206, rfl, N206, K210, gg_r_206, sz_r_206, G206_0, G206_1, G206_2, G206_3, G206_4⟩
def own_Q27o (Z : State) (p0 : Addr) (p1 : Addr) (mc : Int32) (el : Addr) (o0 : Addr) (h0 : Heap) (n0 : Nat) (v : Option Value) (h : Heap) (L : List Loc) : Prop := v = some (.int (1 : Int32)) ∧ Fr n0 L ∧ Keep h0 h [p0, el] ∧ Exa Z h p0 "java/util/ArrayList" ∧ Fld Z h p0 "java/util/AbstractList" "modCount" "I" (.int (mc + (1 : Int32))) ∧ Fld Z h p0 "java/util/ArrayList" "elementData" "[Ljava/lang/Object;" (.ref el) ∧ Fld Z h p0 "java/util/ArrayList" "size" "I" (.int (2 : Int32)) ∧ own_Ob Z h el 10 [.ref o0, .ref p1]
theorem ef_27o (m : MethodId) (p0 : Addr) (p1 : Addr) : entryFrame m #[(.ref p0), (.ref p1)] 2 = mkF m 0 #[.val (.ref p0), .val (.ref p1)] [] := by first | (simp [entryFrame, mkF, argsToLocals, Value.category]; done) | rfl
set_option maxRecDepth 65536 in
set_option maxHeartbeats 40000000 in
theorem rm27o (l : Launch) (Z : State) (a0 : Array Value) (hw : ∀ d ∈ tables_1, d.before a0 Z = true) (ws : List Jvm.Cond) (p0 : Addr) (p1 : Addr) (h0 : Heap) (n0 : Nat) (Z0 : n0 ≤ h0.size) (mc : Int32) (el : Addr) (o0 : Addr) (P0 : Exa Z h0 p0 "java/util/ArrayList") (P1 : Fld Z h0 p0 "java/util/AbstractList" "modCount" "I" (.int mc)) (P2 : Fld Z h0 p0 "java/util/ArrayList" "elementData" "[Ljava/lang/Object;" (.ref el)) (P3 : Fld Z h0 p0 "java/util/ArrayList" "size" "I" (.int (1 : Int32))) (P4 : Exa Z h0 p1 "com/example/unweave/unweave/abstraction/Operation") (P5 : own_Ob Z h0 el 10 [.ref o0]) (gg_p0 : n0 ≤ p0) (gg_el : n0 ≤ el) (hne : el ≠ p0) :
    MetFree l (⟨"java/util/ArrayList", "add", "(Ljava/lang/Object;)Z"⟩ : MethodName) (head1 (Jvm.Cond.code (⟨"java/util/ArrayList", "add", "(Ljava/lang/Object;)Z"⟩ : MethodName) jdk_38_method_25_code 2 (some .boolean) :: ws) ({ frames := 1, cells := 0, slots := 0, locals := 15 } : Room)) (fun a U => a = #[(.ref p0), (.ref p1)] ∧ Z.Warmed39 U.vm ∧ U.heap = h0) (fun _ _ _ _ _ => True) (fun _ U o U' => ∃ v L, o = .returned v ∧ (own_Q27o Z p0 p1 mc el o0 h0 n0) v U'.heap L ∧ FrameEnd U o U' L ({ frames := 1, cells := 0, slots := 0, locals := 15 } : Room).cells ({ frames := 1, cells := 0, slots := 0, locals := 15 } : Room).slots) := by
  refine MetFree.of_bodySF (plainFor_of_name pn_java_util_ArrayList) hisR ?_
  intro p e s m args below meth c s₁ Bd hml0 hP hK
  obtain ⟨rfl, hZ, hh⟩ := hP
  have hx := Bd.exec
  have hby := Bd.bytes
  have hml : c.maxLocals = 2 := hml0
  have hown : s.vm.findClass "java/util/ArrayList" = some m.cls := findClass_of_methodNamed Bd.named
  have hnm := (name_of_methodNamed Bd.named Bd.method).1
  have X0 : Stand p l e ({ frames := 1, cells := 0, slots := 0, locals := 15 } : Room) s m #[(.ref p0), (.ref p1)] below meth c s₁ [] 0 0 := Stand.of_body Bd
  have e0 : s₁.heap = h0 := by rw [← hh, Bd.state]; rfl
  have N0 := Fr.nil n0
  refine own_body (QQ := (own_Q27o Z p0 p1 mc el o0 h0 n0)) (ef_27o m p0 p1) ?_
  refine own_via (s₁.setTop (mkF m 1 #[.val (.ref p0), .val (.ref p1)] [(.ref p0)])) (fun t k => XS.aloadN X0.here hx rfl (hb hby d27_0) rfl rfl k) ?_
  refine own_via (s₁.setTop (mkF m 2 #[.val (.ref p0), .val (.ref p1)] [(.ref p0), (.ref p0)])) (fun t k => XS.dup X0.here hx rfl (hb hby d27_1) rfl rfl k) ?_
  obtain ⟨T211, X211, e211, st211⟩ := getF X0 hx hZ hown (host := "") (Or.inl (hw _ (List.mem_of_getElem? (i := 218) rfl))) (Via.of (hw _ (List.mem_of_getElem? (i := 91) rfl))) e0 P1 (g := (mkF m 2 #[.val (.ref p0), .val (.ref p1)] [(.ref p0), (.ref p0)])) rfl rfl (hb hby d27_2)
  refine own_via (T211.setTop (mkF m 5 #[.val (.ref p0), .val (.ref p1)] [(.int mc), (.ref p0)])) (fun t k => st211 t k) ?_
  refine own_via (T211.setTop (mkF m 6 #[.val (.ref p0), .val (.ref p1)] [(.int (1 : Int32)), (.int mc), (.ref p0)])) (fun t k => XS.iconst X211.here hx rfl (hb hby d27_5) k) ?_
  refine own_via (T211.setTop (mkF m 7 #[.val (.ref p0), .val (.ref p1)] [(.int (mc + (1 : Int32))), (.ref p0)])) (fun t k => XS.iadd X211.here hx rfl (hb hby d27_6) rfl k) ?_
  obtain ⟨T212, h212, X212, e212, W212, st212⟩ := putF X211 hx hZ hown (host := "") (Or.inl (hw _ (List.mem_of_getElem? (i := 218) rfl))) (Via.of (hw _ (List.mem_of_getElem? (i := 91) rfl))) e211 P1 P0 (Or.inl (hw _ (List.mem_of_getElem? (i := 42) rfl))) (hw _ (List.mem_of_getElem? (i := 23) rfl)) (ty := .int) (by decide) rfl rfl (g := (mkF m 7 #[.val (.ref p0), .val (.ref p1)] [(.int (mc + (1 : Int32))), (.ref p0)])) rfl rfl (hb hby d27_7)
  have Fw212 := P1.same W212
  have N212 := Fr.snoc X212 N0 gg_p0
  have K213 : Keep h0 h212 [p0, el] := (Keep.refl h0 [p0, el]).wr W212 (Or.inl (List.mem_of_getElem? (i := 0) rfl))
  refine own_via (T212.setTop (mkF m 10 #[.val (.ref p0), .val (.ref p1)] [])) (fun t k => st212 t k) ?_
  refine own_via (T212.setTop (mkF m 11 #[.val (.ref p0), .val (.ref p1)] [(.ref p0)])) (fun t k => XS.aloadN X212.here hx rfl (hb hby d27_10) rfl rfl k) ?_
  refine own_via (T212.setTop (mkF m 12 #[.val (.ref p0), .val (.ref p1)] [(.ref p1), (.ref p0)])) (fun t k => XS.aloadN X212.here hx rfl (hb hby d27_11) rfl rfl k) ?_
  refine own_via (T212.setTop (mkF m 13 #[.val (.ref p0), .val (.ref p1)] [(.ref p0), (.ref p1), (.ref p0)])) (fun t k => XS.aloadN X212.here hx rfl (hb hby d27_12) rfl rfl k) ?_
  have F215 := (P2.other W212 (Or.inr (slot_ne (Or.inl (hw _ (List.mem_of_getElem? (i := 45) rfl))) (Or.inl (hw _ (List.mem_of_getElem? (i := 42) rfl))) (by decide) (t := (.array (.object "java/lang/Object"))) (t' := .int) (by decide) (by decide))))
  obtain ⟨T214, X214, e214, st214⟩ := getF X212 hx hZ hown (host := "") (Or.inl (hw _ (List.mem_of_getElem? (i := 44) rfl))) Via.refl e212 F215 (g := (mkF m 13 #[.val (.ref p0), .val (.ref p1)] [(.ref p0), (.ref p1), (.ref p0)])) rfl rfl (hb hby d27_13)
  refine own_via (T214.setTop (mkF m 16 #[.val (.ref p0), .val (.ref p1)] [(.ref el), (.ref p1), (.ref p0)])) (fun t k => st214 t k) ?_
  refine own_via (T214.setTop (mkF m 17 #[.val (.ref p0), .val (.ref p1)] [(.ref p0), (.ref el), (.ref p1), (.ref p0)])) (fun t k => XS.aloadN X214.here hx rfl (hb hby d27_16) rfl rfl k) ?_
  have F217 := (P3.other W212 (Or.inr (slot_ne (Or.inl (hw _ (List.mem_of_getElem? (i := 106) rfl))) (Or.inl (hw _ (List.mem_of_getElem? (i := 42) rfl))) (by decide) (t := .int) (t' := .int) (by decide) (by decide))))
  obtain ⟨T216, X216, e216, st216⟩ := getF X214 hx hZ hown (host := "") (Or.inl (hw _ (List.mem_of_getElem? (i := 219) rfl))) Via.refl e214 F217 (g := (mkF m 17 #[.val (.ref p0), .val (.ref p1)] [(.ref p0), (.ref el), (.ref p1), (.ref p0)])) rfl rfl (hb hby d27_17)
  refine own_via (T216.setTop (mkF m 20 #[.val (.ref p0), .val (.ref p1)] [(.int (1 : Int32)), (.ref el), (.ref p1), (.ref p0)])) (fun t k => st216 t k) ?_
  have F219 := (P0.wr W212)
  have F220 := (P4.wr W212)
  have F221 := (P5.other W212 hne)
  obtain ⟨cq218, q218, q218b⟩ := F219.cell
  obtain ⟨_, _, ⟨T218, L218, k218, n218⟩, -, X218, ⟨Lc218, hQ218, l218, y218, z218⟩, st218⟩ := X216.privateBack hx (y := (⟨"java/util/ArrayList", "add", "(Ljava/lang/Object;[Ljava/lang/Object;I)V"⟩ : MethodName)) hown (mvT hZ (hw _ (List.mem_of_getElem? (i := 220) rfl))) (mvT hZ (hw _ (List.mem_of_getElem? (i := 221) rfl))) (mvT hZ (hw _ (List.mem_of_getElem? (i := 223) rfl))) (Cond.privateMethod_at (mvP hZ (hw _ (List.mem_of_getElem? (i := 222) rfl)) (args := #[]))) (mvT hZ (hw _ (List.mem_of_getElem? (i := 224) rfl))) (by decide) (backOf (W := 0) (rm28o l Z a0 hw [] p0 p1 el h212 n0 (Nat.le_trans Z0 K213.1) (mc + (1 : Int32)) o0 F219 Fw212 F215 F217 F220 F221 gg_p0 gg_el (by assumption)) hZ (hw _ (List.mem_of_getElem? (i := 224) rfl)) (hw _ (List.mem_of_getElem? (i := 24) rfl)) (by decide) (by decide)) (g := (mkF m 20 #[.val (.ref p0), .val (.ref p1)] [(.int (1 : Int32)), (.ref el), (.ref p1), (.ref p0)])) rfl (by rw [hml]; rfl) (Steps.refl _) (a := p0) (by rw [e216]; exact q218) q218b (argsL := [(.ref p1), (.ref el), (.int (1 : Int32))]) (rest := []) (lenOf pd_6 rfl) rfl (by show 2 * 0 + _ ≤ _; exact Nat.le_of_eq rfl) (hb hby d27_20) (fun _ _ => ⟨rfl, e216, (by decide : 0 + 0 ≤ _), (by decide : 0 + 0 ≤ _)⟩)
  dsimp only [Pt.U, Pt.locs, Pt.cells, Pt.slots] at X218 l218 y218 z218 st218 hQ218
  rw [y218, z218] at X218
  have X218 : Stand _ _ _ _ _ _ _ _ _ _ T218 L218 0 0 := X218
  obtain ⟨h218, e218⟩ : ∃ h, T218.heap = h := ⟨_, rfl⟩
  rw [e218] at hQ218
  obtain ⟨rfl, N218q, K218q, G218_0, G218_1, G218_2, G218_3, G218_4⟩ := hQ218
  have N218 : Fr n0 L218 := by rw [l218]; exact Fr.app N212 N218q
  have mq218 : ∀ x ∈ [p0, el], x ∈ [p0, el] ∨ h0.size ≤ x := by
    intro x hx
    rcases List.mem_cons.mp hx with e | hx
    · rw [e]; exact Or.inl (List.mem_of_getElem? (i := 0) rfl)
    rw [List.mem_singleton.mp hx]; exact Or.inl (List.mem_of_getElem? (i := 1) rfl)
  have K222 : Keep h0 h218 [p0, el] := K213.trans K218q mq218
  refine own_via (T218.setTop (mkF m 23 #[.val (.ref p0), .val (.ref p1)] [])) (fun t k => st218.trans k) ?_
  refine own_via (T218.setTop (mkF m 24 #[.val (.ref p0), .val (.ref p1)] [(.int (1 : Int32))])) (fun t k => XS.iconst X218.here hx rfl (hb hby d27_23) k) ?_
  refine own_leave X218 Bd.notSynchronized (v := some (.int (1 : Int32))) (fun h => by rw [Bd.returns] at h; cases h) (fun fs hr => retN X218 hx (t := .boolean) Bd.returns (by simp) (hb hby d27_24) hr) ?_ (by decide) (by decide)
  show (own_Q27o Z p0 p1 mc el o0 h0 n0) _ T218.heap _
  rw [e218]
  exact ⟨rfl, N218, K222, G218_0, G218_1, G218_2, G218_3, G218_4⟩
def own_Q8 (Z : State) (p0 : Addr)  (h0 : Heap) (n0 : Nat) (v : Option Value) (h : Heap) (L : List Loc) : Prop := v = none ∧ Fr n0 L ∧ Keep h0 h [p0] ∧ Exa Z h p0 "java/util/HashMap"
theorem d8_0 : decode jdk_69_method_7_code 0 = .ok (.aload_n 0, 1) := by decide +kernel
theorem d8_1 : decode jdk_69_method_7_code 1 = .ok (.invokespecial 43, 3) := by decide +kernel
theorem d8_4 : decode jdk_69_method_7_code 4 = .ok (.aload_n 0, 1) := by decide +kernel
theorem d8_5 : decode jdk_69_method_7_code 5 = .ok (.ldc 92, 2) := by decide +kernel
theorem d8_7 : decode jdk_69_method_7_code 7 = .ok (.putfield 81, 3) := by decide +kernel
theorem d8_10 : decode jdk_69_method_7_code 10 = .ok (.return_, 1) := by decide +kernel
theorem pn_java_util_HashMap : plainName "java/util/HashMap" = true := by first | (simp [plainName, overriddenIn]; done) | decide +kernel
theorem ef_8 (m : MethodId) (p0 : Addr) : entryFrame m #[(.ref p0)] 1 = mkF m 0 #[.val (.ref p0)] [] := by first | (simp [entryFrame, mkF, argsToLocals, Value.category]; done) | rfl
set_option maxRecDepth 65536 in
set_option maxHeartbeats 40000000 in
theorem rm8 (l : Launch) (Z : State) (a0 : Array Value) (hw : ∀ d ∈ tables_1, d.before a0 Z = true) (ws : List Jvm.Cond) (p0 : Addr) (h0 : Heap) (n0 : Nat) (Z0 : n0 ≤ h0.size) (P0 : Exa Z h0 p0 "java/util/HashMap") (P1 : Fld Z h0 p0 "java/util/HashMap" "loadFactor" "F" (.float (0 : UInt32))) (gg_p0 : n0 ≤ p0) :
    MetFree l (⟨"java/util/HashMap", "<init>", "()V"⟩ : MethodName) (head1 (Jvm.Cond.code (⟨"java/util/HashMap", "<init>", "()V"⟩ : MethodName) jdk_69_method_7_code 1 none :: ws) ({ frames := 2, cells := 0, slots := 0, locals := 24 } : Room)) (fun a U => a = #[(.ref p0)] ∧ Z.Warmed39 U.vm ∧ U.heap = h0) (fun _ _ _ _ _ => True) (fun _ U o U' => ∃ v L, o = .returned v ∧ (own_Q8 Z p0  h0 n0) v U'.heap L ∧ FrameEnd U o U' L ({ frames := 2, cells := 0, slots := 0, locals := 24 } : Room).cells ({ frames := 2, cells := 0, slots := 0, locals := 24 } : Room).slots) := by
  refine MetFree.of_bodySF (plainFor_of_name pn_java_util_HashMap) hisR ?_
  intro p e s m args below meth c s₁ Bd hml0 hP hK
  obtain ⟨rfl, hZ, hh⟩ := hP
  have hx := Bd.exec
  have hby := Bd.bytes
  have hml : c.maxLocals = 1 := hml0
  have hown : s.vm.findClass "java/util/HashMap" = some m.cls := findClass_of_methodNamed Bd.named
  have hnm := (name_of_methodNamed Bd.named Bd.method).1
  have X0 : Stand p l e ({ frames := 2, cells := 0, slots := 0, locals := 24 } : Room) s m #[(.ref p0)] below meth c s₁ [] 0 0 := Stand.of_body Bd
  have e0 : s₁.heap = h0 := by rw [← hh, Bd.state]; rfl
  have N0 := Fr.nil n0
  refine own_body (QQ := (own_Q8 Z p0  h0 n0)) (ef_8 m p0) ?_
  refine own_via (s₁.setTop (mkF m 1 #[.val (.ref p0)] [(.ref p0)])) (fun t k => XS.aloadN X0.here hx rfl (hb hby d8_0) rfl rfl k) ?_
  obtain ⟨_, _, ⟨T223, L223, k223, n223⟩, -, X223, ⟨Lc223, hQ223, l223, y223, z223⟩, st223⟩ := X0.specialBack hx (y := (⟨"java/util/AbstractMap", "<init>", "()V"⟩ : MethodName)) rfl hown (mvT hZ (hw _ (List.mem_of_getElem? (i := 57) rfl))) (mvT hZ (hw _ (List.mem_of_getElem? (i := 58) rfl))) (mvT hZ (hw _ (List.mem_of_getElem? (i := 62) rfl))) (by decide) (backOf (W := 0) (rm9 l Z a0 hw [] p0 h0 n0 (Nat.le_trans Z0 (Keep.refl h0 [p0]).1)) hZ (hw _ (List.mem_of_getElem? (i := 62) rfl)) (hw _ (List.mem_of_getElem? (i := 61) rfl)) (by decide) (by decide)) (g := (mkF m 1 #[.val (.ref p0)] [(.ref p0)])) rfl (by rw [hml]; rfl) (Steps.refl _) (a := p0) (argsL := []) (rest := []) (lenOf pd_0 rfl) rfl (by show 2 * 0 + _ ≤ _; exact Nat.le_of_eq rfl) (hb hby d8_1) (fun _ _ => ⟨rfl, e0, (by decide : 0 + 0 ≤ _), (by decide : 0 + 0 ≤ _)⟩)
  dsimp only [Pt.U, Pt.locs, Pt.cells, Pt.slots] at X223 l223 y223 z223 st223 hQ223
  rw [y223, z223] at X223
  have X223 : Stand _ _ _ _ _ _ _ _ _ _ T223 L223 0 0 := X223
  obtain ⟨rfl, N223q, e223⟩ := hQ223
  have N223 : Fr n0 L223 := by rw [l223]; exact Fr.app N0 N223q
  refine own_via (T223.setTop (mkF m 4 #[.val (.ref p0)] [])) (fun t k => st223.trans k) ?_
  refine own_via (T223.setTop (mkF m 5 #[.val (.ref p0)] [(.ref p0)])) (fun t k => XS.aloadN X223.here hx rfl (hb hby d8_4) rfl rfl k) ?_
  refine own_via (T223.setTop (mkF m 7 #[.val (.ref p0)] [(.float (1061158912 : UInt32)), (.ref p0)])) (fun t k => X223.ldcFloatC hx hown (mvT hZ (hw _ (List.mem_of_getElem? (i := 64) rfl))) (g := (mkF m 5 #[.val (.ref p0)] [(.ref p0)])) rfl (hb hby d8_5) _ k) ?_
  obtain ⟨T224, h224, X224, e224, W224, st224⟩ := putF X223 hx hZ hown (host := "") (Or.inl (hw _ (List.mem_of_getElem? (i := 65) rfl))) Via.refl e223 P1 P0 (Or.inr ⟨(hw _ (List.mem_of_getElem? (i := 66) rfl)), rfl, hnm⟩) (hw _ (List.mem_of_getElem? (i := 52) rfl)) (ty := .float) (by decide) rfl rfl (g := (mkF m 7 #[.val (.ref p0)] [(.float (1061158912 : UInt32)), (.ref p0)])) rfl rfl (hb hby d8_7)
  have Fw224 := P1.same W224
  have N224 := Fr.snoc X224 N223 gg_p0
  have K225 : Keep h0 h224 [p0] := (Keep.refl h0 [p0]).wr W224 (Or.inl (List.mem_of_getElem? (i := 0) rfl))
  refine own_via (T224.setTop (mkF m 10 #[.val (.ref p0)] [])) (fun t k => st224 t k) ?_
  refine own_leave X224 Bd.notSynchronized (v := none) (fun _ => rfl) (fun fs hr => X224.returnOut hx Bd.returns (hb hby d8_10) hr) ?_ (by decide) (by decide)
  have F226 := (P0.wr W224)
  show (own_Q8 Z p0  h0 n0) _ T224.heap _
  rw [e224]
  exact ⟨rfl, N224, K225, F226⟩
def own_Q20 (Z : State)   (h0 : Heap) (n0 : Nat) (v : Option Value) (h : Heap) (L : List Loc) : Prop := v = some (.int (0 : Int32)) ∧ Fr n0 L ∧ h = h0
theorem d20_0 : decode jdk_118_method_6_code 0 = .ok (.fload_n 0, 1) := by decide +kernel
theorem d20_1 : decode jdk_118_method_6_code 1 = .ok (.fload_n 0, 1) := by decide +kernel
theorem d20_2 : decode jdk_118_method_6_code 2 = .ok (.fcmp .l, 1) := by decide +kernel
theorem d20_3 : decode jdk_118_method_6_code 3 = .ok (.ifCond .eq 7, 3) := by decide +kernel
theorem d20_10 : decode jdk_118_method_6_code 10 = .ok (.iconst 0, 1) := by decide +kernel
theorem d20_11 : decode jdk_118_method_6_code 11 = .ok (.ireturn, 1) := by decide +kernel
theorem pf_20 : plainFor (⟨"java/lang/Float", "isNaN", "(F)Z"⟩ : MethodName) = true := by decide +kernel
theorem ef_20 (m : MethodId)  : entryFrame m #[(.float (1061158912 : UInt32))] 1 = mkF m 0 #[.val (.float (1061158912 : UInt32))] [] := by first | (simp [entryFrame, mkF, argsToLocals, Value.category]; done) | rfl
set_option maxRecDepth 65536 in
set_option maxHeartbeats 40000000 in
theorem rm20 (l : Launch) (Z : State) (a0 : Array Value) (hw : ∀ d ∈ tables_1, d.before a0 Z = true) (ws : List Jvm.Cond)  (h0 : Heap) (n0 : Nat) (Z0 : n0 ≤ h0.size)  :
    MetFree l (⟨"java/lang/Float", "isNaN", "(F)Z"⟩ : MethodName) (head1 (Jvm.Cond.code (⟨"java/lang/Float", "isNaN", "(F)Z"⟩ : MethodName) jdk_118_method_6_code 1 (some .boolean) :: ws) ({ frames := 0, cells := 0, slots := 0, locals := 0 } : Room)) (fun a U => a = #[(.float (1061158912 : UInt32))] ∧ Z.Warmed39 U.vm ∧ U.heap = h0) (fun _ _ _ _ _ => True) (fun _ U o U' => ∃ v L, o = .returned v ∧ (own_Q20 Z   h0 n0) v U'.heap L ∧ FrameEnd U o U' L ({ frames := 0, cells := 0, slots := 0, locals := 0 } : Room).cells ({ frames := 0, cells := 0, slots := 0, locals := 0 } : Room).slots) := by
  refine MetFree.of_bodySF pf_20 hisR ?_
  intro p e s m args below meth c s₁ Bd hml0 hP hK
  obtain ⟨rfl, hZ, hh⟩ := hP
  have hx := Bd.exec
  have hby := Bd.bytes
  have hml : c.maxLocals = 1 := hml0
  have hown : s.vm.findClass "java/lang/Float" = some m.cls := findClass_of_methodNamed Bd.named
  have hnm := (name_of_methodNamed Bd.named Bd.method).1
  have X0 : Stand p l e ({ frames := 0, cells := 0, slots := 0, locals := 0 } : Room) s m #[(.float (1061158912 : UInt32))] below meth c s₁ [] 0 0 := Stand.of_body Bd
  have e0 : s₁.heap = h0 := by rw [← hh, Bd.state]; rfl
  have N0 := Fr.nil n0
  refine own_body (QQ := (own_Q20 Z   h0 n0)) (ef_20 m ) ?_
  refine own_via (s₁.setTop (mkF m 1 #[.val (.float (1061158912 : UInt32))] [(.float (1061158912 : UInt32))])) (fun t k => own_floadN X0.here hx rfl (hb hby d20_0) rfl k) ?_
  refine own_via (s₁.setTop (mkF m 2 #[.val (.float (1061158912 : UInt32))] [(.float (1061158912 : UInt32)), (.float (1061158912 : UInt32))])) (fun t k => own_floadN X0.here hx rfl (hb hby d20_1) rfl k) ?_
  refine own_via (s₁.setTop (mkF m 3 #[.val (.float (1061158912 : UInt32))] [(.int (0 : Int32))])) (fun t k => own_fcmp X0.here hx rfl (z := (0 : Int32)) (hb hby d20_2) rfl (by decide +kernel) k) ?_
  refine own_via (s₁.setTop (mkF m 10 #[.val (.float (1061158912 : UInt32))] [])) (fun t k => XS.ifYes X0.here hx rfl (pc0 := 3) (pc' := 10) rfl (hb hby d20_3) rfl ((if0 _ _).trans (teq (by decide)).1) (by decide) (by decide) k) ?_
  refine own_via (s₁.setTop (mkF m 11 #[.val (.float (1061158912 : UInt32))] [(.int (0 : Int32))])) (fun t k => XS.iconst X0.here hx rfl (hb hby d20_10) k) ?_
  refine own_leave X0 Bd.notSynchronized (v := some (.int (0 : Int32))) (fun h => by rw [Bd.returns] at h; cases h) (fun fs hr => retN X0 hx (t := .boolean) Bd.returns (by simp) (hb hby d20_11) hr) ?_ (by decide) (by decide)
  exact ⟨rfl, N0, e0⟩
def own_f22 (p0 : Int32) : Int32 := (if (0 : Int32) < p0 then (if p0 < (65536 : Int32) then (if p0 < (256 : Int32) then (if p0 < (16 : Int32) then (if p0 < (4 : Int32) then ((31 : Int32) - ((p0.toUInt32 >>> ((1 : Int32) &&& 31).toUInt32).toInt32)) else (((31 : Int32) + (-2 : Int32)) - ((((p0.toUInt32 >>> ((2 : Int32) &&& 31).toUInt32).toInt32).toUInt32 >>> ((1 : Int32) &&& 31).toUInt32).toInt32))) else (if ((p0.toUInt32 >>> ((4 : Int32) &&& 31).toUInt32).toInt32) < (4 : Int32) then (((31 : Int32) + (-4 : Int32)) - ((((p0.toUInt32 >>> ((4 : Int32) &&& 31).toUInt32).toInt32).toUInt32 >>> ((1 : Int32) &&& 31).toUInt32).toInt32)) else ((((31 : Int32) + (-4 : Int32)) + (-2 : Int32)) - ((((((p0.toUInt32 >>> ((4 : Int32) &&& 31).toUInt32).toInt32).toUInt32 >>> ((2 : Int32) &&& 31).toUInt32).toInt32).toUInt32 >>> ((1 : Int32) &&& 31).toUInt32).toInt32)))) else (if ((p0.toUInt32 >>> ((8 : Int32) &&& 31).toUInt32).toInt32) < (16 : Int32) then (if ((p0.toUInt32 >>> ((8 : Int32) &&& 31).toUInt32).toInt32) < (4 : Int32) then (((31 : Int32) + (-8 : Int32)) - ((((p0.toUInt32 >>> ((8 : Int32) &&& 31).toUInt32).toInt32).toUInt32 >>> ((1 : Int32) &&& 31).toUInt32).toInt32)) else ((((31 : Int32) + (-8 : Int32)) + (-2 : Int32)) - ((((((p0.toUInt32 >>> ((8 : Int32) &&& 31).toUInt32).toInt32).toUInt32 >>> ((2 : Int32) &&& 31).toUInt32).toInt32).toUInt32 >>> ((1 : Int32) &&& 31).toUInt32).toInt32))) else (if ((((p0.toUInt32 >>> ((8 : Int32) &&& 31).toUInt32).toInt32).toUInt32 >>> ((4 : Int32) &&& 31).toUInt32).toInt32) < (4 : Int32) then ((((31 : Int32) + (-8 : Int32)) + (-4 : Int32)) - ((((((p0.toUInt32 >>> ((8 : Int32) &&& 31).toUInt32).toInt32).toUInt32 >>> ((4 : Int32) &&& 31).toUInt32).toInt32).toUInt32 >>> ((1 : Int32) &&& 31).toUInt32).toInt32)) else (((((31 : Int32) + (-8 : Int32)) + (-4 : Int32)) + (-2 : Int32)) - ((((((((p0.toUInt32 >>> ((8 : Int32) &&& 31).toUInt32).toInt32).toUInt32 >>> ((4 : Int32) &&& 31).toUInt32).toInt32).toUInt32 >>> ((2 : Int32) &&& 31).toUInt32).toInt32).toUInt32 >>> ((1 : Int32) &&& 31).toUInt32).toInt32))))) else (if ((p0.toUInt32 >>> ((16 : Int32) &&& 31).toUInt32).toInt32) < (256 : Int32) then (if ((p0.toUInt32 >>> ((16 : Int32) &&& 31).toUInt32).toInt32) < (16 : Int32) then (if ((p0.toUInt32 >>> ((16 : Int32) &&& 31).toUInt32).toInt32) < (4 : Int32) then (((31 : Int32) + (-16 : Int32)) - ((((p0.toUInt32 >>> ((16 : Int32) &&& 31).toUInt32).toInt32).toUInt32 >>> ((1 : Int32) &&& 31).toUInt32).toInt32)) else ((((31 : Int32) + (-16 : Int32)) + (-2 : Int32)) - ((((((p0.toUInt32 >>> ((16 : Int32) &&& 31).toUInt32).toInt32).toUInt32 >>> ((2 : Int32) &&& 31).toUInt32).toInt32).toUInt32 >>> ((1 : Int32) &&& 31).toUInt32).toInt32))) else (if ((((p0.toUInt32 >>> ((16 : Int32) &&& 31).toUInt32).toInt32).toUInt32 >>> ((4 : Int32) &&& 31).toUInt32).toInt32) < (4 : Int32) then ((((31 : Int32) + (-16 : Int32)) + (-4 : Int32)) - ((((((p0.toUInt32 >>> ((16 : Int32) &&& 31).toUInt32).toInt32).toUInt32 >>> ((4 : Int32) &&& 31).toUInt32).toInt32).toUInt32 >>> ((1 : Int32) &&& 31).toUInt32).toInt32)) else (((((31 : Int32) + (-16 : Int32)) + (-4 : Int32)) + (-2 : Int32)) - ((((((((p0.toUInt32 >>> ((16 : Int32) &&& 31).toUInt32).toInt32).toUInt32 >>> ((4 : Int32) &&& 31).toUInt32).toInt32).toUInt32 >>> ((2 : Int32) &&& 31).toUInt32).toInt32).toUInt32 >>> ((1 : Int32) &&& 31).toUInt32).toInt32)))) else (if ((((p0.toUInt32 >>> ((16 : Int32) &&& 31).toUInt32).toInt32).toUInt32 >>> ((8 : Int32) &&& 31).toUInt32).toInt32) < (16 : Int32) then (if ((((p0.toUInt32 >>> ((16 : Int32) &&& 31).toUInt32).toInt32).toUInt32 >>> ((8 : Int32) &&& 31).toUInt32).toInt32) < (4 : Int32) then ((((31 : Int32) + (-16 : Int32)) + (-8 : Int32)) - ((((((p0.toUInt32 >>> ((16 : Int32) &&& 31).toUInt32).toInt32).toUInt32 >>> ((8 : Int32) &&& 31).toUInt32).toInt32).toUInt32 >>> ((1 : Int32) &&& 31).toUInt32).toInt32)) else (((((31 : Int32) + (-16 : Int32)) + (-8 : Int32)) + (-2 : Int32)) - ((((((((p0.toUInt32 >>> ((16 : Int32) &&& 31).toUInt32).toInt32).toUInt32 >>> ((8 : Int32) &&& 31).toUInt32).toInt32).toUInt32 >>> ((2 : Int32) &&& 31).toUInt32).toInt32).toUInt32 >>> ((1 : Int32) &&& 31).toUInt32).toInt32))) else (if ((((((p0.toUInt32 >>> ((16 : Int32) &&& 31).toUInt32).toInt32).toUInt32 >>> ((8 : Int32) &&& 31).toUInt32).toInt32).toUInt32 >>> ((4 : Int32) &&& 31).toUInt32).toInt32) < (4 : Int32) then (((((31 : Int32) + (-16 : Int32)) + (-8 : Int32)) + (-4 : Int32)) - ((((((((p0.toUInt32 >>> ((16 : Int32) &&& 31).toUInt32).toInt32).toUInt32 >>> ((8 : Int32) &&& 31).toUInt32).toInt32).toUInt32 >>> ((4 : Int32) &&& 31).toUInt32).toInt32).toUInt32 >>> ((1 : Int32) &&& 31).toUInt32).toInt32)) else ((((((31 : Int32) + (-16 : Int32)) + (-8 : Int32)) + (-4 : Int32)) + (-2 : Int32)) - ((((((((((p0.toUInt32 >>> ((16 : Int32) &&& 31).toUInt32).toInt32).toUInt32 >>> ((8 : Int32) &&& 31).toUInt32).toInt32).toUInt32 >>> ((4 : Int32) &&& 31).toUInt32).toInt32).toUInt32 >>> ((2 : Int32) &&& 31).toUInt32).toInt32).toUInt32 >>> ((1 : Int32) &&& 31).toUInt32).toInt32)))))) else (if p0 = (0 : Int32) then (32 : Int32) else (0 : Int32)))
theorem d22_0 : decode jdk_33_method_47_code 0 = .ok (.iload_n 0, 1) := by decide +kernel
theorem d22_1 : decode jdk_33_method_47_code 1 = .ok (.ifCond .gt 14, 3) := by decide +kernel
theorem d22_4 : decode jdk_33_method_47_code 4 = .ok (.iload_n 0, 1) := by decide +kernel
theorem d22_5 : decode jdk_33_method_47_code 5 = .ok (.ifCond .ne 8, 3) := by decide +kernel
theorem d22_8 : decode jdk_33_method_47_code 8 = .ok (.bipush 32, 2) := by decide +kernel
theorem d22_10 : decode jdk_33_method_47_code 10 = .ok (.goto 4, 3) := by decide +kernel
theorem d22_13 : decode jdk_33_method_47_code 13 = .ok (.iconst 0, 1) := by decide +kernel
theorem d22_14 : decode jdk_33_method_47_code 14 = .ok (.ireturn, 1) := by decide +kernel
theorem d22_15 : decode jdk_33_method_47_code 15 = .ok (.bipush 31, 2) := by decide +kernel
theorem d22_17 : decode jdk_33_method_47_code 17 = .ok (.istore_n 1, 1) := by decide +kernel
theorem d22_18 : decode jdk_33_method_47_code 18 = .ok (.iload_n 0, 1) := by decide +kernel
theorem d22_19 : decode jdk_33_method_47_code 19 = .ok (.ldc_w 264, 3) := by decide +kernel
theorem d22_22 : decode jdk_33_method_47_code 22 = .ok (.if_icmp .lt 11, 3) := by decide +kernel
theorem d22_25 : decode jdk_33_method_47_code 25 = .ok (.iinc 1 (-16), 3) := by decide +kernel
theorem d22_28 : decode jdk_33_method_47_code 28 = .ok (.iload_n 0, 1) := by decide +kernel
theorem d22_29 : decode jdk_33_method_47_code 29 = .ok (.bipush 16, 2) := by decide +kernel
theorem d22_31 : decode jdk_33_method_47_code 31 = .ok (.iushr, 1) := by decide +kernel
theorem d22_32 : decode jdk_33_method_47_code 32 = .ok (.istore_n 0, 1) := by decide +kernel
theorem d22_33 : decode jdk_33_method_47_code 33 = .ok (.iload_n 0, 1) := by decide +kernel
theorem d22_34 : decode jdk_33_method_47_code 34 = .ok (.sipush 256, 3) := by decide +kernel
theorem d22_37 : decode jdk_33_method_47_code 37 = .ok (.if_icmp .lt 11, 3) := by decide +kernel
theorem d22_40 : decode jdk_33_method_47_code 40 = .ok (.iinc 1 (-8), 3) := by decide +kernel
theorem d22_43 : decode jdk_33_method_47_code 43 = .ok (.iload_n 0, 1) := by decide +kernel
theorem d22_44 : decode jdk_33_method_47_code 44 = .ok (.bipush 8, 2) := by decide +kernel
theorem d22_46 : decode jdk_33_method_47_code 46 = .ok (.iushr, 1) := by decide +kernel
theorem d22_47 : decode jdk_33_method_47_code 47 = .ok (.istore_n 0, 1) := by decide +kernel
theorem d22_48 : decode jdk_33_method_47_code 48 = .ok (.iload_n 0, 1) := by decide +kernel
theorem d22_49 : decode jdk_33_method_47_code 49 = .ok (.bipush 16, 2) := by decide +kernel
theorem d22_51 : decode jdk_33_method_47_code 51 = .ok (.if_icmp .lt 10, 3) := by decide +kernel
theorem d22_54 : decode jdk_33_method_47_code 54 = .ok (.iinc 1 (-4), 3) := by decide +kernel
theorem d22_57 : decode jdk_33_method_47_code 57 = .ok (.iload_n 0, 1) := by decide +kernel
theorem d22_58 : decode jdk_33_method_47_code 58 = .ok (.iconst 4, 1) := by decide +kernel
theorem d22_59 : decode jdk_33_method_47_code 59 = .ok (.iushr, 1) := by decide +kernel
theorem d22_60 : decode jdk_33_method_47_code 60 = .ok (.istore_n 0, 1) := by decide +kernel
theorem d22_61 : decode jdk_33_method_47_code 61 = .ok (.iload_n 0, 1) := by decide +kernel
theorem d22_62 : decode jdk_33_method_47_code 62 = .ok (.iconst 4, 1) := by decide +kernel
theorem d22_63 : decode jdk_33_method_47_code 63 = .ok (.if_icmp .lt 10, 3) := by decide +kernel
theorem d22_66 : decode jdk_33_method_47_code 66 = .ok (.iinc 1 (-2), 3) := by decide +kernel
theorem d22_69 : decode jdk_33_method_47_code 69 = .ok (.iload_n 0, 1) := by decide +kernel
theorem d22_70 : decode jdk_33_method_47_code 70 = .ok (.iconst 2, 1) := by decide +kernel
theorem d22_71 : decode jdk_33_method_47_code 71 = .ok (.iushr, 1) := by decide +kernel
theorem d22_72 : decode jdk_33_method_47_code 72 = .ok (.istore_n 0, 1) := by decide +kernel
theorem d22_73 : decode jdk_33_method_47_code 73 = .ok (.iload_n 1, 1) := by decide +kernel
theorem d22_74 : decode jdk_33_method_47_code 74 = .ok (.iload_n 0, 1) := by decide +kernel
theorem d22_75 : decode jdk_33_method_47_code 75 = .ok (.iconst 1, 1) := by decide +kernel
theorem d22_76 : decode jdk_33_method_47_code 76 = .ok (.iushr, 1) := by decide +kernel
theorem d22_77 : decode jdk_33_method_47_code 77 = .ok (.isub, 1) := by decide +kernel
theorem d22_78 : decode jdk_33_method_47_code 78 = .ok (.ireturn, 1) := by decide +kernel
theorem pn_java_lang_Integer : plainName "java/lang/Integer" = true := by first | (simp [plainName, overriddenIn]; done) | decide +kernel
theorem ef_22 (m : MethodId) (p0 : Int32) : entryFrame m #[(.int p0)] 2 = mkF m 0 #[.val (.int p0), .unset] [] := by first | (simp [entryFrame, mkF, argsToLocals, Value.category]; done) | rfl
set_option maxRecDepth 65536 in
set_option maxHeartbeats 40000000 in
theorem rm22 (l : Launch) (Z : State) (a0 : Array Value) (hw : ∀ d ∈ tables_1, d.before a0 Z = true) (ws : List Jvm.Cond) (p0 : Int32) (h0 : Heap) (n0 : Nat) (Z0 : n0 ≤ h0.size)  :
    MetFree l (⟨"java/lang/Integer", "numberOfLeadingZeros", "(I)I"⟩ : MethodName) (head1 (Jvm.Cond.code (⟨"java/lang/Integer", "numberOfLeadingZeros", "(I)I"⟩ : MethodName) jdk_33_method_47_code 2 (some .int) :: ws) ({ frames := 0, cells := 0, slots := 0, locals := 0 } : Room)) (fun a U => a = #[(.int p0)] ∧ Z.Warmed39 U.vm ∧ U.heap = h0) (fun _ _ _ _ _ => True) (fun _ U o U' => ∃ v L, o = .returned v ∧ (own_Q (some (.int (own_f22 p0))) h0 n0) v U'.heap L ∧ FrameEnd U o U' L ({ frames := 0, cells := 0, slots := 0, locals := 0 } : Room).cells ({ frames := 0, cells := 0, slots := 0, locals := 0 } : Room).slots) := by
  refine MetFree.of_bodySF (plainFor_of_name pn_java_lang_Integer) hisR ?_
  intro p e s m args below meth c s₁ Bd hml0 hP hK
  obtain ⟨rfl, hZ, hh⟩ := hP
  have hx := Bd.exec
  have hby := Bd.bytes
  have hml : c.maxLocals = 2 := hml0
  have hown : s.vm.findClass "java/lang/Integer" = some m.cls := findClass_of_methodNamed Bd.named
  have hnm := (name_of_methodNamed Bd.named Bd.method).1
  have X0 : Stand p l e ({ frames := 0, cells := 0, slots := 0, locals := 0 } : Room) s m #[(.int p0)] below meth c s₁ [] 0 0 := Stand.of_body Bd
  have e0 : s₁.heap = h0 := by rw [← hh, Bd.state]; rfl
  have N0 := Fr.nil n0
  refine own_body (QQ := (own_Q (some (.int (own_f22 p0))) h0 n0)) (ef_22 m p0) ?_
  refine own_via (s₁.setTop (mkF m 1 #[.val (.int p0), .unset] [(.int p0)])) (fun t k => XS.iloadN X0.here hx rfl (hb hby d22_0) rfl  k) ?_
  by_cases hc1_244 : (0 : Int32) < p0
  · refine own_via (s₁.setTop (mkF m 15 #[.val (.int p0), .unset] [])) (fun t k => XS.ifYes X0.here hx rfl (pc0 := 1) (pc' := 15) rfl (hb hby d22_1) rfl ((if0 _ _).trans (tlt hc1_244).2.2.1) (by decide) (by decide) k) ?_
    refine own_via (s₁.setTop (mkF m 17 #[.val (.int p0), .unset] [(.int (31 : Int32))])) (fun t k => XS.bipush X0.here hx rfl (hb hby d22_15) k) ?_
    refine own_via (s₁.setTop (mkF m 18 #[.val (.int p0), .val (.int (31 : Int32))] [])) (fun t k => XS.istoreN X0.here hx rfl (hb hby d22_17) rfl (l' := #[.val (.int p0), .val (.int (31 : Int32))]) rfl k) ?_
    refine own_via (s₁.setTop (mkF m 19 #[.val (.int p0), .val (.int (31 : Int32))] [(.int p0)])) (fun t k => XS.iloadN X0.here hx rfl (hb hby d22_18) rfl  k) ?_
    refine own_via (s₁.setTop (mkF m 22 #[.val (.int p0), .val (.int (31 : Int32))] [(.int (65536 : Int32)), (.int p0)])) (fun t k => X0.ldcwInt hx hown (mvT hZ (hw _ (List.mem_of_getElem? (i := 165) rfl))) (g := (mkF m 19 #[.val (.int p0), .val (.int (31 : Int32))] [(.int p0)])) rfl (hb hby d22_19) _ k) ?_
    by_cases hc22_245 : p0 < (65536 : Int32)
    · refine own_via (s₁.setTop (mkF m 33 #[.val (.int p0), .val (.int (31 : Int32))] [])) (fun t k => XS.icmpYes X0.here hx rfl (pc0 := 22) (pc' := 33) rfl (hb hby d22_22) rfl (tlt hc22_245).1 (by decide) (by decide) k) ?_
      refine own_via (s₁.setTop (mkF m 34 #[.val (.int p0), .val (.int (31 : Int32))] [(.int p0)])) (fun t k => XS.iloadN X0.here hx rfl (hb hby d22_33) rfl  k) ?_
      refine own_via (s₁.setTop (mkF m 37 #[.val (.int p0), .val (.int (31 : Int32))] [(.int (256 : Int32)), (.int p0)])) (fun t k => XS.sipush X0.here hx rfl (hb hby d22_34) k) ?_
      by_cases hc37_246 : p0 < (256 : Int32)
      · refine own_via (s₁.setTop (mkF m 48 #[.val (.int p0), .val (.int (31 : Int32))] [])) (fun t k => XS.icmpYes X0.here hx rfl (pc0 := 37) (pc' := 48) rfl (hb hby d22_37) rfl (tlt hc37_246).1 (by decide) (by decide) k) ?_
        refine own_via (s₁.setTop (mkF m 49 #[.val (.int p0), .val (.int (31 : Int32))] [(.int p0)])) (fun t k => XS.iloadN X0.here hx rfl (hb hby d22_48) rfl  k) ?_
        refine own_via (s₁.setTop (mkF m 51 #[.val (.int p0), .val (.int (31 : Int32))] [(.int (16 : Int32)), (.int p0)])) (fun t k => XS.bipush X0.here hx rfl (hb hby d22_49) k) ?_
        by_cases hc51_247 : p0 < (16 : Int32)
        · refine own_via (s₁.setTop (mkF m 61 #[.val (.int p0), .val (.int (31 : Int32))] [])) (fun t k => XS.icmpYes X0.here hx rfl (pc0 := 51) (pc' := 61) rfl (hb hby d22_51) rfl (tlt hc51_247).1 (by decide) (by decide) k) ?_
          refine own_via (s₁.setTop (mkF m 62 #[.val (.int p0), .val (.int (31 : Int32))] [(.int p0)])) (fun t k => XS.iloadN X0.here hx rfl (hb hby d22_61) rfl  k) ?_
          refine own_via (s₁.setTop (mkF m 63 #[.val (.int p0), .val (.int (31 : Int32))] [(.int (4 : Int32)), (.int p0)])) (fun t k => XS.iconst X0.here hx rfl (hb hby d22_62) k) ?_
          by_cases hc63_248 : p0 < (4 : Int32)
          · refine own_via (s₁.setTop (mkF m 73 #[.val (.int p0), .val (.int (31 : Int32))] [])) (fun t k => XS.icmpYes X0.here hx rfl (pc0 := 63) (pc' := 73) rfl (hb hby d22_63) rfl (tlt hc63_248).1 (by decide) (by decide) k) ?_
            refine own_via (s₁.setTop (mkF m 74 #[.val (.int p0), .val (.int (31 : Int32))] [(.int (31 : Int32))])) (fun t k => XS.iloadN X0.here hx rfl (hb hby d22_73) rfl  k) ?_
            refine own_via (s₁.setTop (mkF m 75 #[.val (.int p0), .val (.int (31 : Int32))] [(.int p0), (.int (31 : Int32))])) (fun t k => XS.iloadN X0.here hx rfl (hb hby d22_74) rfl  k) ?_
            refine own_via (s₁.setTop (mkF m 76 #[.val (.int p0), .val (.int (31 : Int32))] [(.int (1 : Int32)), (.int p0), (.int (31 : Int32))])) (fun t k => XS.iconst X0.here hx rfl (hb hby d22_75) k) ?_
            refine own_via (s₁.setTop (mkF m 77 #[.val (.int p0), .val (.int (31 : Int32))] [(.int ((p0.toUInt32 >>> ((1 : Int32) &&& 31).toUInt32).toInt32)), (.int (31 : Int32))])) (fun t k => XS.iushr X0.here hx rfl (hb hby d22_76) rfl k) ?_
            refine own_via (s₁.setTop (mkF m 78 #[.val (.int p0), .val (.int (31 : Int32))] [(.int ((31 : Int32) - ((p0.toUInt32 >>> ((1 : Int32) &&& 31).toUInt32).toInt32)))])) (fun t k => XS.isub X0.here hx rfl (hb hby d22_77) rfl k) ?_
            refine own_leave X0 Bd.notSynchronized (v := some (.int ((31 : Int32) - ((p0.toUInt32 >>> ((1 : Int32) &&& 31).toUInt32).toInt32)))) (fun h => by rw [Bd.returns] at h; cases h) (fun fs hr => retI X0 hx Bd.returns (hb hby d22_78) hr) ?_ (by decide) (by decide)
            refine ⟨?_, N0, e0⟩
            show some (Value.int _) = some (Value.int _); unfold own_f22; rw [if_pos hc1_244, if_pos hc22_245, if_pos hc37_246, if_pos hc51_247, if_pos hc63_248]
          · refine own_via (s₁.setTop (mkF m 66 #[.val (.int p0), .val (.int (31 : Int32))] [])) (fun t k => XS.icmpNo X0.here hx rfl (hb hby d22_63) rfl (flt hc63_248).1 k) ?_
            refine own_via (s₁.setTop (mkF m 69 #[.val (.int p0), .val (.int ((31 : Int32) + (-2 : Int32)))] [])) (fun t k => XS.iinc X0.here hx rfl (hb hby d22_66) rfl (l' := #[.val (.int p0), .val (.int ((31 : Int32) + (-2 : Int32)))]) rfl k) ?_
            refine own_via (s₁.setTop (mkF m 70 #[.val (.int p0), .val (.int ((31 : Int32) + (-2 : Int32)))] [(.int p0)])) (fun t k => XS.iloadN X0.here hx rfl (hb hby d22_69) rfl  k) ?_
            refine own_via (s₁.setTop (mkF m 71 #[.val (.int p0), .val (.int ((31 : Int32) + (-2 : Int32)))] [(.int (2 : Int32)), (.int p0)])) (fun t k => XS.iconst X0.here hx rfl (hb hby d22_70) k) ?_
            refine own_via (s₁.setTop (mkF m 72 #[.val (.int p0), .val (.int ((31 : Int32) + (-2 : Int32)))] [(.int ((p0.toUInt32 >>> ((2 : Int32) &&& 31).toUInt32).toInt32))])) (fun t k => XS.iushr X0.here hx rfl (hb hby d22_71) rfl k) ?_
            refine own_via (s₁.setTop (mkF m 73 #[.val (.int ((p0.toUInt32 >>> ((2 : Int32) &&& 31).toUInt32).toInt32)), .val (.int ((31 : Int32) + (-2 : Int32)))] [])) (fun t k => XS.istoreN X0.here hx rfl (hb hby d22_72) rfl (l' := #[.val (.int ((p0.toUInt32 >>> ((2 : Int32) &&& 31).toUInt32).toInt32)), .val (.int ((31 : Int32) + (-2 : Int32)))]) rfl k) ?_
            refine own_via (s₁.setTop (mkF m 74 #[.val (.int ((p0.toUInt32 >>> ((2 : Int32) &&& 31).toUInt32).toInt32)), .val (.int ((31 : Int32) + (-2 : Int32)))] [(.int ((31 : Int32) + (-2 : Int32)))])) (fun t k => XS.iloadN X0.here hx rfl (hb hby d22_73) rfl  k) ?_
            refine own_via (s₁.setTop (mkF m 75 #[.val (.int ((p0.toUInt32 >>> ((2 : Int32) &&& 31).toUInt32).toInt32)), .val (.int ((31 : Int32) + (-2 : Int32)))] [(.int ((p0.toUInt32 >>> ((2 : Int32) &&& 31).toUInt32).toInt32)), (.int ((31 : Int32) + (-2 : Int32)))])) (fun t k => XS.iloadN X0.here hx rfl (hb hby d22_74) rfl  k) ?_
            refine own_via (s₁.setTop (mkF m 76 #[.val (.int ((p0.toUInt32 >>> ((2 : Int32) &&& 31).toUInt32).toInt32)), .val (.int ((31 : Int32) + (-2 : Int32)))] [(.int (1 : Int32)), (.int ((p0.toUInt32 >>> ((2 : Int32) &&& 31).toUInt32).toInt32)), (.int ((31 : Int32) + (-2 : Int32)))])) (fun t k => XS.iconst X0.here hx rfl (hb hby d22_75) k) ?_
            refine own_via (s₁.setTop (mkF m 77 #[.val (.int ((p0.toUInt32 >>> ((2 : Int32) &&& 31).toUInt32).toInt32)), .val (.int ((31 : Int32) + (-2 : Int32)))] [(.int ((((p0.toUInt32 >>> ((2 : Int32) &&& 31).toUInt32).toInt32).toUInt32 >>> ((1 : Int32) &&& 31).toUInt32).toInt32)), (.int ((31 : Int32) + (-2 : Int32)))])) (fun t k => XS.iushr X0.here hx rfl (hb hby d22_76) rfl k) ?_
            refine own_via (s₁.setTop (mkF m 78 #[.val (.int ((p0.toUInt32 >>> ((2 : Int32) &&& 31).toUInt32).toInt32)), .val (.int ((31 : Int32) + (-2 : Int32)))] [(.int (((31 : Int32) + (-2 : Int32)) - ((((p0.toUInt32 >>> ((2 : Int32) &&& 31).toUInt32).toInt32).toUInt32 >>> ((1 : Int32) &&& 31).toUInt32).toInt32)))])) (fun t k => XS.isub X0.here hx rfl (hb hby d22_77) rfl k) ?_
            refine own_leave X0 Bd.notSynchronized (v := some (.int (((31 : Int32) + (-2 : Int32)) - ((((p0.toUInt32 >>> ((2 : Int32) &&& 31).toUInt32).toInt32).toUInt32 >>> ((1 : Int32) &&& 31).toUInt32).toInt32)))) (fun h => by rw [Bd.returns] at h; cases h) (fun fs hr => retI X0 hx Bd.returns (hb hby d22_78) hr) ?_ (by decide) (by decide)
            refine ⟨?_, N0, e0⟩
            show some (Value.int _) = some (Value.int _); unfold own_f22; rw [if_pos hc1_244, if_pos hc22_245, if_pos hc37_246, if_pos hc51_247, if_neg hc63_248]
        · refine own_via (s₁.setTop (mkF m 54 #[.val (.int p0), .val (.int (31 : Int32))] [])) (fun t k => XS.icmpNo X0.here hx rfl (hb hby d22_51) rfl (flt hc51_247).1 k) ?_
          refine own_via (s₁.setTop (mkF m 57 #[.val (.int p0), .val (.int ((31 : Int32) + (-4 : Int32)))] [])) (fun t k => XS.iinc X0.here hx rfl (hb hby d22_54) rfl (l' := #[.val (.int p0), .val (.int ((31 : Int32) + (-4 : Int32)))]) rfl k) ?_
          refine own_via (s₁.setTop (mkF m 58 #[.val (.int p0), .val (.int ((31 : Int32) + (-4 : Int32)))] [(.int p0)])) (fun t k => XS.iloadN X0.here hx rfl (hb hby d22_57) rfl  k) ?_
          refine own_via (s₁.setTop (mkF m 59 #[.val (.int p0), .val (.int ((31 : Int32) + (-4 : Int32)))] [(.int (4 : Int32)), (.int p0)])) (fun t k => XS.iconst X0.here hx rfl (hb hby d22_58) k) ?_
          refine own_via (s₁.setTop (mkF m 60 #[.val (.int p0), .val (.int ((31 : Int32) + (-4 : Int32)))] [(.int ((p0.toUInt32 >>> ((4 : Int32) &&& 31).toUInt32).toInt32))])) (fun t k => XS.iushr X0.here hx rfl (hb hby d22_59) rfl k) ?_
          refine own_via (s₁.setTop (mkF m 61 #[.val (.int ((p0.toUInt32 >>> ((4 : Int32) &&& 31).toUInt32).toInt32)), .val (.int ((31 : Int32) + (-4 : Int32)))] [])) (fun t k => XS.istoreN X0.here hx rfl (hb hby d22_60) rfl (l' := #[.val (.int ((p0.toUInt32 >>> ((4 : Int32) &&& 31).toUInt32).toInt32)), .val (.int ((31 : Int32) + (-4 : Int32)))]) rfl k) ?_
          refine own_via (s₁.setTop (mkF m 62 #[.val (.int ((p0.toUInt32 >>> ((4 : Int32) &&& 31).toUInt32).toInt32)), .val (.int ((31 : Int32) + (-4 : Int32)))] [(.int ((p0.toUInt32 >>> ((4 : Int32) &&& 31).toUInt32).toInt32))])) (fun t k => XS.iloadN X0.here hx rfl (hb hby d22_61) rfl  k) ?_
          refine own_via (s₁.setTop (mkF m 63 #[.val (.int ((p0.toUInt32 >>> ((4 : Int32) &&& 31).toUInt32).toInt32)), .val (.int ((31 : Int32) + (-4 : Int32)))] [(.int (4 : Int32)), (.int ((p0.toUInt32 >>> ((4 : Int32) &&& 31).toUInt32).toInt32))])) (fun t k => XS.iconst X0.here hx rfl (hb hby d22_62) k) ?_
          by_cases hc63_249 : ((p0.toUInt32 >>> ((4 : Int32) &&& 31).toUInt32).toInt32) < (4 : Int32)
          · refine own_via (s₁.setTop (mkF m 73 #[.val (.int ((p0.toUInt32 >>> ((4 : Int32) &&& 31).toUInt32).toInt32)), .val (.int ((31 : Int32) + (-4 : Int32)))] [])) (fun t k => XS.icmpYes X0.here hx rfl (pc0 := 63) (pc' := 73) rfl (hb hby d22_63) rfl (tlt hc63_249).1 (by decide) (by decide) k) ?_
            refine own_via (s₁.setTop (mkF m 74 #[.val (.int ((p0.toUInt32 >>> ((4 : Int32) &&& 31).toUInt32).toInt32)), .val (.int ((31 : Int32) + (-4 : Int32)))] [(.int ((31 : Int32) + (-4 : Int32)))])) (fun t k => XS.iloadN X0.here hx rfl (hb hby d22_73) rfl  k) ?_
            refine own_via (s₁.setTop (mkF m 75 #[.val (.int ((p0.toUInt32 >>> ((4 : Int32) &&& 31).toUInt32).toInt32)), .val (.int ((31 : Int32) + (-4 : Int32)))] [(.int ((p0.toUInt32 >>> ((4 : Int32) &&& 31).toUInt32).toInt32)), (.int ((31 : Int32) + (-4 : Int32)))])) (fun t k => XS.iloadN X0.here hx rfl (hb hby d22_74) rfl  k) ?_
            refine own_via (s₁.setTop (mkF m 76 #[.val (.int ((p0.toUInt32 >>> ((4 : Int32) &&& 31).toUInt32).toInt32)), .val (.int ((31 : Int32) + (-4 : Int32)))] [(.int (1 : Int32)), (.int ((p0.toUInt32 >>> ((4 : Int32) &&& 31).toUInt32).toInt32)), (.int ((31 : Int32) + (-4 : Int32)))])) (fun t k => XS.iconst X0.here hx rfl (hb hby d22_75) k) ?_
            refine own_via (s₁.setTop (mkF m 77 #[.val (.int ((p0.toUInt32 >>> ((4 : Int32) &&& 31).toUInt32).toInt32)), .val (.int ((31 : Int32) + (-4 : Int32)))] [(.int ((((p0.toUInt32 >>> ((4 : Int32) &&& 31).toUInt32).toInt32).toUInt32 >>> ((1 : Int32) &&& 31).toUInt32).toInt32)), (.int ((31 : Int32) + (-4 : Int32)))])) (fun t k => XS.iushr X0.here hx rfl (hb hby d22_76) rfl k) ?_
            refine own_via (s₁.setTop (mkF m 78 #[.val (.int ((p0.toUInt32 >>> ((4 : Int32) &&& 31).toUInt32).toInt32)), .val (.int ((31 : Int32) + (-4 : Int32)))] [(.int (((31 : Int32) + (-4 : Int32)) - ((((p0.toUInt32 >>> ((4 : Int32) &&& 31).toUInt32).toInt32).toUInt32 >>> ((1 : Int32) &&& 31).toUInt32).toInt32)))])) (fun t k => XS.isub X0.here hx rfl (hb hby d22_77) rfl k) ?_
            refine own_leave X0 Bd.notSynchronized (v := some (.int (((31 : Int32) + (-4 : Int32)) - ((((p0.toUInt32 >>> ((4 : Int32) &&& 31).toUInt32).toInt32).toUInt32 >>> ((1 : Int32) &&& 31).toUInt32).toInt32)))) (fun h => by rw [Bd.returns] at h; cases h) (fun fs hr => retI X0 hx Bd.returns (hb hby d22_78) hr) ?_ (by decide) (by decide)
            refine ⟨?_, N0, e0⟩
            show some (Value.int _) = some (Value.int _); unfold own_f22; rw [if_pos hc1_244, if_pos hc22_245, if_pos hc37_246, if_neg hc51_247, if_pos hc63_249]
          · refine own_via (s₁.setTop (mkF m 66 #[.val (.int ((p0.toUInt32 >>> ((4 : Int32) &&& 31).toUInt32).toInt32)), .val (.int ((31 : Int32) + (-4 : Int32)))] [])) (fun t k => XS.icmpNo X0.here hx rfl (hb hby d22_63) rfl (flt hc63_249).1 k) ?_
            refine own_via (s₁.setTop (mkF m 69 #[.val (.int ((p0.toUInt32 >>> ((4 : Int32) &&& 31).toUInt32).toInt32)), .val (.int (((31 : Int32) + (-4 : Int32)) + (-2 : Int32)))] [])) (fun t k => XS.iinc X0.here hx rfl (hb hby d22_66) rfl (l' := #[.val (.int ((p0.toUInt32 >>> ((4 : Int32) &&& 31).toUInt32).toInt32)), .val (.int (((31 : Int32) + (-4 : Int32)) + (-2 : Int32)))]) rfl k) ?_
            refine own_via (s₁.setTop (mkF m 70 #[.val (.int ((p0.toUInt32 >>> ((4 : Int32) &&& 31).toUInt32).toInt32)), .val (.int (((31 : Int32) + (-4 : Int32)) + (-2 : Int32)))] [(.int ((p0.toUInt32 >>> ((4 : Int32) &&& 31).toUInt32).toInt32))])) (fun t k => XS.iloadN X0.here hx rfl (hb hby d22_69) rfl  k) ?_
            refine own_via (s₁.setTop (mkF m 71 #[.val (.int ((p0.toUInt32 >>> ((4 : Int32) &&& 31).toUInt32).toInt32)), .val (.int (((31 : Int32) + (-4 : Int32)) + (-2 : Int32)))] [(.int (2 : Int32)), (.int ((p0.toUInt32 >>> ((4 : Int32) &&& 31).toUInt32).toInt32))])) (fun t k => XS.iconst X0.here hx rfl (hb hby d22_70) k) ?_
            refine own_via (s₁.setTop (mkF m 72 #[.val (.int ((p0.toUInt32 >>> ((4 : Int32) &&& 31).toUInt32).toInt32)), .val (.int (((31 : Int32) + (-4 : Int32)) + (-2 : Int32)))] [(.int ((((p0.toUInt32 >>> ((4 : Int32) &&& 31).toUInt32).toInt32).toUInt32 >>> ((2 : Int32) &&& 31).toUInt32).toInt32))])) (fun t k => XS.iushr X0.here hx rfl (hb hby d22_71) rfl k) ?_
            refine own_via (s₁.setTop (mkF m 73 #[.val (.int ((((p0.toUInt32 >>> ((4 : Int32) &&& 31).toUInt32).toInt32).toUInt32 >>> ((2 : Int32) &&& 31).toUInt32).toInt32)), .val (.int (((31 : Int32) + (-4 : Int32)) + (-2 : Int32)))] [])) (fun t k => XS.istoreN X0.here hx rfl (hb hby d22_72) rfl (l' := #[.val (.int ((((p0.toUInt32 >>> ((4 : Int32) &&& 31).toUInt32).toInt32).toUInt32 >>> ((2 : Int32) &&& 31).toUInt32).toInt32)), .val (.int (((31 : Int32) + (-4 : Int32)) + (-2 : Int32)))]) rfl k) ?_
            refine own_via (s₁.setTop (mkF m 74 #[.val (.int ((((p0.toUInt32 >>> ((4 : Int32) &&& 31).toUInt32).toInt32).toUInt32 >>> ((2 : Int32) &&& 31).toUInt32).toInt32)), .val (.int (((31 : Int32) + (-4 : Int32)) + (-2 : Int32)))] [(.int (((31 : Int32) + (-4 : Int32)) + (-2 : Int32)))])) (fun t k => XS.iloadN X0.here hx rfl (hb hby d22_73) rfl  k) ?_
            refine own_via (s₁.setTop (mkF m 75 #[.val (.int ((((p0.toUInt32 >>> ((4 : Int32) &&& 31).toUInt32).toInt32).toUInt32 >>> ((2 : Int32) &&& 31).toUInt32).toInt32)), .val (.int (((31 : Int32) + (-4 : Int32)) + (-2 : Int32)))] [(.int ((((p0.toUInt32 >>> ((4 : Int32) &&& 31).toUInt32).toInt32).toUInt32 >>> ((2 : Int32) &&& 31).toUInt32).toInt32)), (.int (((31 : Int32) + (-4 : Int32)) + (-2 : Int32)))])) (fun t k => XS.iloadN X0.here hx rfl (hb hby d22_74) rfl  k) ?_
            refine own_via (s₁.setTop (mkF m 76 #[.val (.int ((((p0.toUInt32 >>> ((4 : Int32) &&& 31).toUInt32).toInt32).toUInt32 >>> ((2 : Int32) &&& 31).toUInt32).toInt32)), .val (.int (((31 : Int32) + (-4 : Int32)) + (-2 : Int32)))] [(.int (1 : Int32)), (.int ((((p0.toUInt32 >>> ((4 : Int32) &&& 31).toUInt32).toInt32).toUInt32 >>> ((2 : Int32) &&& 31).toUInt32).toInt32)), (.int (((31 : Int32) + (-4 : Int32)) + (-2 : Int32)))])) (fun t k => XS.iconst X0.here hx rfl (hb hby d22_75) k) ?_
            refine own_via (s₁.setTop (mkF m 77 #[.val (.int ((((p0.toUInt32 >>> ((4 : Int32) &&& 31).toUInt32).toInt32).toUInt32 >>> ((2 : Int32) &&& 31).toUInt32).toInt32)), .val (.int (((31 : Int32) + (-4 : Int32)) + (-2 : Int32)))] [(.int ((((((p0.toUInt32 >>> ((4 : Int32) &&& 31).toUInt32).toInt32).toUInt32 >>> ((2 : Int32) &&& 31).toUInt32).toInt32).toUInt32 >>> ((1 : Int32) &&& 31).toUInt32).toInt32)), (.int (((31 : Int32) + (-4 : Int32)) + (-2 : Int32)))])) (fun t k => XS.iushr X0.here hx rfl (hb hby d22_76) rfl k) ?_
            refine own_via (s₁.setTop (mkF m 78 #[.val (.int ((((p0.toUInt32 >>> ((4 : Int32) &&& 31).toUInt32).toInt32).toUInt32 >>> ((2 : Int32) &&& 31).toUInt32).toInt32)), .val (.int (((31 : Int32) + (-4 : Int32)) + (-2 : Int32)))] [(.int ((((31 : Int32) + (-4 : Int32)) + (-2 : Int32)) - ((((((p0.toUInt32 >>> ((4 : Int32) &&& 31).toUInt32).toInt32).toUInt32 >>> ((2 : Int32) &&& 31).toUInt32).toInt32).toUInt32 >>> ((1 : Int32) &&& 31).toUInt32).toInt32)))])) (fun t k => XS.isub X0.here hx rfl (hb hby d22_77) rfl k) ?_
            refine own_leave X0 Bd.notSynchronized (v := some (.int ((((31 : Int32) + (-4 : Int32)) + (-2 : Int32)) - ((((((p0.toUInt32 >>> ((4 : Int32) &&& 31).toUInt32).toInt32).toUInt32 >>> ((2 : Int32) &&& 31).toUInt32).toInt32).toUInt32 >>> ((1 : Int32) &&& 31).toUInt32).toInt32)))) (fun h => by rw [Bd.returns] at h; cases h) (fun fs hr => retI X0 hx Bd.returns (hb hby d22_78) hr) ?_ (by decide) (by decide)
            refine ⟨?_, N0, e0⟩
            show some (Value.int _) = some (Value.int _); unfold own_f22; rw [if_pos hc1_244, if_pos hc22_245, if_pos hc37_246, if_neg hc51_247, if_neg hc63_249]
      · refine own_via (s₁.setTop (mkF m 40 #[.val (.int p0), .val (.int (31 : Int32))] [])) (fun t k => XS.icmpNo X0.here hx rfl (hb hby d22_37) rfl (flt hc37_246).1 k) ?_
        refine own_via (s₁.setTop (mkF m 43 #[.val (.int p0), .val (.int ((31 : Int32) + (-8 : Int32)))] [])) (fun t k => XS.iinc X0.here hx rfl (hb hby d22_40) rfl (l' := #[.val (.int p0), .val (.int ((31 : Int32) + (-8 : Int32)))]) rfl k) ?_
        refine own_via (s₁.setTop (mkF m 44 #[.val (.int p0), .val (.int ((31 : Int32) + (-8 : Int32)))] [(.int p0)])) (fun t k => XS.iloadN X0.here hx rfl (hb hby d22_43) rfl  k) ?_
        refine own_via (s₁.setTop (mkF m 46 #[.val (.int p0), .val (.int ((31 : Int32) + (-8 : Int32)))] [(.int (8 : Int32)), (.int p0)])) (fun t k => XS.bipush X0.here hx rfl (hb hby d22_44) k) ?_
        refine own_via (s₁.setTop (mkF m 47 #[.val (.int p0), .val (.int ((31 : Int32) + (-8 : Int32)))] [(.int ((p0.toUInt32 >>> ((8 : Int32) &&& 31).toUInt32).toInt32))])) (fun t k => XS.iushr X0.here hx rfl (hb hby d22_46) rfl k) ?_
        refine own_via (s₁.setTop (mkF m 48 #[.val (.int ((p0.toUInt32 >>> ((8 : Int32) &&& 31).toUInt32).toInt32)), .val (.int ((31 : Int32) + (-8 : Int32)))] [])) (fun t k => XS.istoreN X0.here hx rfl (hb hby d22_47) rfl (l' := #[.val (.int ((p0.toUInt32 >>> ((8 : Int32) &&& 31).toUInt32).toInt32)), .val (.int ((31 : Int32) + (-8 : Int32)))]) rfl k) ?_
        refine own_via (s₁.setTop (mkF m 49 #[.val (.int ((p0.toUInt32 >>> ((8 : Int32) &&& 31).toUInt32).toInt32)), .val (.int ((31 : Int32) + (-8 : Int32)))] [(.int ((p0.toUInt32 >>> ((8 : Int32) &&& 31).toUInt32).toInt32))])) (fun t k => XS.iloadN X0.here hx rfl (hb hby d22_48) rfl  k) ?_
        refine own_via (s₁.setTop (mkF m 51 #[.val (.int ((p0.toUInt32 >>> ((8 : Int32) &&& 31).toUInt32).toInt32)), .val (.int ((31 : Int32) + (-8 : Int32)))] [(.int (16 : Int32)), (.int ((p0.toUInt32 >>> ((8 : Int32) &&& 31).toUInt32).toInt32))])) (fun t k => XS.bipush X0.here hx rfl (hb hby d22_49) k) ?_
        by_cases hc51_250 : ((p0.toUInt32 >>> ((8 : Int32) &&& 31).toUInt32).toInt32) < (16 : Int32)
        · refine own_via (s₁.setTop (mkF m 61 #[.val (.int ((p0.toUInt32 >>> ((8 : Int32) &&& 31).toUInt32).toInt32)), .val (.int ((31 : Int32) + (-8 : Int32)))] [])) (fun t k => XS.icmpYes X0.here hx rfl (pc0 := 51) (pc' := 61) rfl (hb hby d22_51) rfl (tlt hc51_250).1 (by decide) (by decide) k) ?_
          refine own_via (s₁.setTop (mkF m 62 #[.val (.int ((p0.toUInt32 >>> ((8 : Int32) &&& 31).toUInt32).toInt32)), .val (.int ((31 : Int32) + (-8 : Int32)))] [(.int ((p0.toUInt32 >>> ((8 : Int32) &&& 31).toUInt32).toInt32))])) (fun t k => XS.iloadN X0.here hx rfl (hb hby d22_61) rfl  k) ?_
          refine own_via (s₁.setTop (mkF m 63 #[.val (.int ((p0.toUInt32 >>> ((8 : Int32) &&& 31).toUInt32).toInt32)), .val (.int ((31 : Int32) + (-8 : Int32)))] [(.int (4 : Int32)), (.int ((p0.toUInt32 >>> ((8 : Int32) &&& 31).toUInt32).toInt32))])) (fun t k => XS.iconst X0.here hx rfl (hb hby d22_62) k) ?_
          by_cases hc63_251 : ((p0.toUInt32 >>> ((8 : Int32) &&& 31).toUInt32).toInt32) < (4 : Int32)
          · refine own_via (s₁.setTop (mkF m 73 #[.val (.int ((p0.toUInt32 >>> ((8 : Int32) &&& 31).toUInt32).toInt32)), .val (.int ((31 : Int32) + (-8 : Int32)))] [])) (fun t k => XS.icmpYes X0.here hx rfl (pc0 := 63) (pc' := 73) rfl (hb hby d22_63) rfl (tlt hc63_251).1 (by decide) (by decide) k) ?_
            refine own_via (s₁.setTop (mkF m 74 #[.val (.int ((p0.toUInt32 >>> ((8 : Int32) &&& 31).toUInt32).toInt32)), .val (.int ((31 : Int32) + (-8 : Int32)))] [(.int ((31 : Int32) + (-8 : Int32)))])) (fun t k => XS.iloadN X0.here hx rfl (hb hby d22_73) rfl  k) ?_
            refine own_via (s₁.setTop (mkF m 75 #[.val (.int ((p0.toUInt32 >>> ((8 : Int32) &&& 31).toUInt32).toInt32)), .val (.int ((31 : Int32) + (-8 : Int32)))] [(.int ((p0.toUInt32 >>> ((8 : Int32) &&& 31).toUInt32).toInt32)), (.int ((31 : Int32) + (-8 : Int32)))])) (fun t k => XS.iloadN X0.here hx rfl (hb hby d22_74) rfl  k) ?_
            refine own_via (s₁.setTop (mkF m 76 #[.val (.int ((p0.toUInt32 >>> ((8 : Int32) &&& 31).toUInt32).toInt32)), .val (.int ((31 : Int32) + (-8 : Int32)))] [(.int (1 : Int32)), (.int ((p0.toUInt32 >>> ((8 : Int32) &&& 31).toUInt32).toInt32)), (.int ((31 : Int32) + (-8 : Int32)))])) (fun t k => XS.iconst X0.here hx rfl (hb hby d22_75) k) ?_
            refine own_via (s₁.setTop (mkF m 77 #[.val (.int ((p0.toUInt32 >>> ((8 : Int32) &&& 31).toUInt32).toInt32)), .val (.int ((31 : Int32) + (-8 : Int32)))] [(.int ((((p0.toUInt32 >>> ((8 : Int32) &&& 31).toUInt32).toInt32).toUInt32 >>> ((1 : Int32) &&& 31).toUInt32).toInt32)), (.int ((31 : Int32) + (-8 : Int32)))])) (fun t k => XS.iushr X0.here hx rfl (hb hby d22_76) rfl k) ?_
            refine own_via (s₁.setTop (mkF m 78 #[.val (.int ((p0.toUInt32 >>> ((8 : Int32) &&& 31).toUInt32).toInt32)), .val (.int ((31 : Int32) + (-8 : Int32)))] [(.int (((31 : Int32) + (-8 : Int32)) - ((((p0.toUInt32 >>> ((8 : Int32) &&& 31).toUInt32).toInt32).toUInt32 >>> ((1 : Int32) &&& 31).toUInt32).toInt32)))])) (fun t k => XS.isub X0.here hx rfl (hb hby d22_77) rfl k) ?_
            refine own_leave X0 Bd.notSynchronized (v := some (.int (((31 : Int32) + (-8 : Int32)) - ((((p0.toUInt32 >>> ((8 : Int32) &&& 31).toUInt32).toInt32).toUInt32 >>> ((1 : Int32) &&& 31).toUInt32).toInt32)))) (fun h => by rw [Bd.returns] at h; cases h) (fun fs hr => retI X0 hx Bd.returns (hb hby d22_78) hr) ?_ (by decide) (by decide)
            refine ⟨?_, N0, e0⟩
            show some (Value.int _) = some (Value.int _); unfold own_f22; rw [if_pos hc1_244, if_pos hc22_245, if_neg hc37_246, if_pos hc51_250, if_pos hc63_251]
          · refine own_via (s₁.setTop (mkF m 66 #[.val (.int ((p0.toUInt32 >>> ((8 : Int32) &&& 31).toUInt32).toInt32)), .val (.int ((31 : Int32) + (-8 : Int32)))] [])) (fun t k => XS.icmpNo X0.here hx rfl (hb hby d22_63) rfl (flt hc63_251).1 k) ?_
            refine own_via (s₁.setTop (mkF m 69 #[.val (.int ((p0.toUInt32 >>> ((8 : Int32) &&& 31).toUInt32).toInt32)), .val (.int (((31 : Int32) + (-8 : Int32)) + (-2 : Int32)))] [])) (fun t k => XS.iinc X0.here hx rfl (hb hby d22_66) rfl (l' := #[.val (.int ((p0.toUInt32 >>> ((8 : Int32) &&& 31).toUInt32).toInt32)), .val (.int (((31 : Int32) + (-8 : Int32)) + (-2 : Int32)))]) rfl k) ?_
            refine own_via (s₁.setTop (mkF m 70 #[.val (.int ((p0.toUInt32 >>> ((8 : Int32) &&& 31).toUInt32).toInt32)), .val (.int (((31 : Int32) + (-8 : Int32)) + (-2 : Int32)))] [(.int ((p0.toUInt32 >>> ((8 : Int32) &&& 31).toUInt32).toInt32))])) (fun t k => XS.iloadN X0.here hx rfl (hb hby d22_69) rfl  k) ?_
            refine own_via (s₁.setTop (mkF m 71 #[.val (.int ((p0.toUInt32 >>> ((8 : Int32) &&& 31).toUInt32).toInt32)), .val (.int (((31 : Int32) + (-8 : Int32)) + (-2 : Int32)))] [(.int (2 : Int32)), (.int ((p0.toUInt32 >>> ((8 : Int32) &&& 31).toUInt32).toInt32))])) (fun t k => XS.iconst X0.here hx rfl (hb hby d22_70) k) ?_
            refine own_via (s₁.setTop (mkF m 72 #[.val (.int ((p0.toUInt32 >>> ((8 : Int32) &&& 31).toUInt32).toInt32)), .val (.int (((31 : Int32) + (-8 : Int32)) + (-2 : Int32)))] [(.int ((((p0.toUInt32 >>> ((8 : Int32) &&& 31).toUInt32).toInt32).toUInt32 >>> ((2 : Int32) &&& 31).toUInt32).toInt32))])) (fun t k => XS.iushr X0.here hx rfl (hb hby d22_71) rfl k) ?_
            refine own_via (s₁.setTop (mkF m 73 #[.val (.int ((((p0.toUInt32 >>> ((8 : Int32) &&& 31).toUInt32).toInt32).toUInt32 >>> ((2 : Int32) &&& 31).toUInt32).toInt32)), .val (.int (((31 : Int32) + (-8 : Int32)) + (-2 : Int32)))] [])) (fun t k => XS.istoreN X0.here hx rfl (hb hby d22_72) rfl (l' := #[.val (.int ((((p0.toUInt32 >>> ((8 : Int32) &&& 31).toUInt32).toInt32).toUInt32 >>> ((2 : Int32) &&& 31).toUInt32).toInt32)), .val (.int (((31 : Int32) + (-8 : Int32)) + (-2 : Int32)))]) rfl k) ?_
            refine own_via (s₁.setTop (mkF m 74 #[.val (.int ((((p0.toUInt32 >>> ((8 : Int32) &&& 31).toUInt32).toInt32).toUInt32 >>> ((2 : Int32) &&& 31).toUInt32).toInt32)), .val (.int (((31 : Int32) + (-8 : Int32)) + (-2 : Int32)))] [(.int (((31 : Int32) + (-8 : Int32)) + (-2 : Int32)))])) (fun t k => XS.iloadN X0.here hx rfl (hb hby d22_73) rfl  k) ?_
            refine own_via (s₁.setTop (mkF m 75 #[.val (.int ((((p0.toUInt32 >>> ((8 : Int32) &&& 31).toUInt32).toInt32).toUInt32 >>> ((2 : Int32) &&& 31).toUInt32).toInt32)), .val (.int (((31 : Int32) + (-8 : Int32)) + (-2 : Int32)))] [(.int ((((p0.toUInt32 >>> ((8 : Int32) &&& 31).toUInt32).toInt32).toUInt32 >>> ((2 : Int32) &&& 31).toUInt32).toInt32)), (.int (((31 : Int32) + (-8 : Int32)) + (-2 : Int32)))])) (fun t k => XS.iloadN X0.here hx rfl (hb hby d22_74) rfl  k) ?_
            refine own_via (s₁.setTop (mkF m 76 #[.val (.int ((((p0.toUInt32 >>> ((8 : Int32) &&& 31).toUInt32).toInt32).toUInt32 >>> ((2 : Int32) &&& 31).toUInt32).toInt32)), .val (.int (((31 : Int32) + (-8 : Int32)) + (-2 : Int32)))] [(.int (1 : Int32)), (.int ((((p0.toUInt32 >>> ((8 : Int32) &&& 31).toUInt32).toInt32).toUInt32 >>> ((2 : Int32) &&& 31).toUInt32).toInt32)), (.int (((31 : Int32) + (-8 : Int32)) + (-2 : Int32)))])) (fun t k => XS.iconst X0.here hx rfl (hb hby d22_75) k) ?_
            refine own_via (s₁.setTop (mkF m 77 #[.val (.int ((((p0.toUInt32 >>> ((8 : Int32) &&& 31).toUInt32).toInt32).toUInt32 >>> ((2 : Int32) &&& 31).toUInt32).toInt32)), .val (.int (((31 : Int32) + (-8 : Int32)) + (-2 : Int32)))] [(.int ((((((p0.toUInt32 >>> ((8 : Int32) &&& 31).toUInt32).toInt32).toUInt32 >>> ((2 : Int32) &&& 31).toUInt32).toInt32).toUInt32 >>> ((1 : Int32) &&& 31).toUInt32).toInt32)), (.int (((31 : Int32) + (-8 : Int32)) + (-2 : Int32)))])) (fun t k => XS.iushr X0.here hx rfl (hb hby d22_76) rfl k) ?_
            refine own_via (s₁.setTop (mkF m 78 #[.val (.int ((((p0.toUInt32 >>> ((8 : Int32) &&& 31).toUInt32).toInt32).toUInt32 >>> ((2 : Int32) &&& 31).toUInt32).toInt32)), .val (.int (((31 : Int32) + (-8 : Int32)) + (-2 : Int32)))] [(.int ((((31 : Int32) + (-8 : Int32)) + (-2 : Int32)) - ((((((p0.toUInt32 >>> ((8 : Int32) &&& 31).toUInt32).toInt32).toUInt32 >>> ((2 : Int32) &&& 31).toUInt32).toInt32).toUInt32 >>> ((1 : Int32) &&& 31).toUInt32).toInt32)))])) (fun t k => XS.isub X0.here hx rfl (hb hby d22_77) rfl k) ?_
            refine own_leave X0 Bd.notSynchronized (v := some (.int ((((31 : Int32) + (-8 : Int32)) + (-2 : Int32)) - ((((((p0.toUInt32 >>> ((8 : Int32) &&& 31).toUInt32).toInt32).toUInt32 >>> ((2 : Int32) &&& 31).toUInt32).toInt32).toUInt32 >>> ((1 : Int32) &&& 31).toUInt32).toInt32)))) (fun h => by rw [Bd.returns] at h; cases h) (fun fs hr => retI X0 hx Bd.returns (hb hby d22_78) hr) ?_ (by decide) (by decide)
            refine ⟨?_, N0, e0⟩
            show some (Value.int _) = some (Value.int _); unfold own_f22; rw [if_pos hc1_244, if_pos hc22_245, if_neg hc37_246, if_pos hc51_250, if_neg hc63_251]
        · refine own_via (s₁.setTop (mkF m 54 #[.val (.int ((p0.toUInt32 >>> ((8 : Int32) &&& 31).toUInt32).toInt32)), .val (.int ((31 : Int32) + (-8 : Int32)))] [])) (fun t k => XS.icmpNo X0.here hx rfl (hb hby d22_51) rfl (flt hc51_250).1 k) ?_
          refine own_via (s₁.setTop (mkF m 57 #[.val (.int ((p0.toUInt32 >>> ((8 : Int32) &&& 31).toUInt32).toInt32)), .val (.int (((31 : Int32) + (-8 : Int32)) + (-4 : Int32)))] [])) (fun t k => XS.iinc X0.here hx rfl (hb hby d22_54) rfl (l' := #[.val (.int ((p0.toUInt32 >>> ((8 : Int32) &&& 31).toUInt32).toInt32)), .val (.int (((31 : Int32) + (-8 : Int32)) + (-4 : Int32)))]) rfl k) ?_
          refine own_via (s₁.setTop (mkF m 58 #[.val (.int ((p0.toUInt32 >>> ((8 : Int32) &&& 31).toUInt32).toInt32)), .val (.int (((31 : Int32) + (-8 : Int32)) + (-4 : Int32)))] [(.int ((p0.toUInt32 >>> ((8 : Int32) &&& 31).toUInt32).toInt32))])) (fun t k => XS.iloadN X0.here hx rfl (hb hby d22_57) rfl  k) ?_
          refine own_via (s₁.setTop (mkF m 59 #[.val (.int ((p0.toUInt32 >>> ((8 : Int32) &&& 31).toUInt32).toInt32)), .val (.int (((31 : Int32) + (-8 : Int32)) + (-4 : Int32)))] [(.int (4 : Int32)), (.int ((p0.toUInt32 >>> ((8 : Int32) &&& 31).toUInt32).toInt32))])) (fun t k => XS.iconst X0.here hx rfl (hb hby d22_58) k) ?_
          refine own_via (s₁.setTop (mkF m 60 #[.val (.int ((p0.toUInt32 >>> ((8 : Int32) &&& 31).toUInt32).toInt32)), .val (.int (((31 : Int32) + (-8 : Int32)) + (-4 : Int32)))] [(.int ((((p0.toUInt32 >>> ((8 : Int32) &&& 31).toUInt32).toInt32).toUInt32 >>> ((4 : Int32) &&& 31).toUInt32).toInt32))])) (fun t k => XS.iushr X0.here hx rfl (hb hby d22_59) rfl k) ?_
          refine own_via (s₁.setTop (mkF m 61 #[.val (.int ((((p0.toUInt32 >>> ((8 : Int32) &&& 31).toUInt32).toInt32).toUInt32 >>> ((4 : Int32) &&& 31).toUInt32).toInt32)), .val (.int (((31 : Int32) + (-8 : Int32)) + (-4 : Int32)))] [])) (fun t k => XS.istoreN X0.here hx rfl (hb hby d22_60) rfl (l' := #[.val (.int ((((p0.toUInt32 >>> ((8 : Int32) &&& 31).toUInt32).toInt32).toUInt32 >>> ((4 : Int32) &&& 31).toUInt32).toInt32)), .val (.int (((31 : Int32) + (-8 : Int32)) + (-4 : Int32)))]) rfl k) ?_
          refine own_via (s₁.setTop (mkF m 62 #[.val (.int ((((p0.toUInt32 >>> ((8 : Int32) &&& 31).toUInt32).toInt32).toUInt32 >>> ((4 : Int32) &&& 31).toUInt32).toInt32)), .val (.int (((31 : Int32) + (-8 : Int32)) + (-4 : Int32)))] [(.int ((((p0.toUInt32 >>> ((8 : Int32) &&& 31).toUInt32).toInt32).toUInt32 >>> ((4 : Int32) &&& 31).toUInt32).toInt32))])) (fun t k => XS.iloadN X0.here hx rfl (hb hby d22_61) rfl  k) ?_
          refine own_via (s₁.setTop (mkF m 63 #[.val (.int ((((p0.toUInt32 >>> ((8 : Int32) &&& 31).toUInt32).toInt32).toUInt32 >>> ((4 : Int32) &&& 31).toUInt32).toInt32)), .val (.int (((31 : Int32) + (-8 : Int32)) + (-4 : Int32)))] [(.int (4 : Int32)), (.int ((((p0.toUInt32 >>> ((8 : Int32) &&& 31).toUInt32).toInt32).toUInt32 >>> ((4 : Int32) &&& 31).toUInt32).toInt32))])) (fun t k => XS.iconst X0.here hx rfl (hb hby d22_62) k) ?_
          by_cases hc63_252 : ((((p0.toUInt32 >>> ((8 : Int32) &&& 31).toUInt32).toInt32).toUInt32 >>> ((4 : Int32) &&& 31).toUInt32).toInt32) < (4 : Int32)
          · refine own_via (s₁.setTop (mkF m 73 #[.val (.int ((((p0.toUInt32 >>> ((8 : Int32) &&& 31).toUInt32).toInt32).toUInt32 >>> ((4 : Int32) &&& 31).toUInt32).toInt32)), .val (.int (((31 : Int32) + (-8 : Int32)) + (-4 : Int32)))] [])) (fun t k => XS.icmpYes X0.here hx rfl (pc0 := 63) (pc' := 73) rfl (hb hby d22_63) rfl (tlt hc63_252).1 (by decide) (by decide) k) ?_
            refine own_via (s₁.setTop (mkF m 74 #[.val (.int ((((p0.toUInt32 >>> ((8 : Int32) &&& 31).toUInt32).toInt32).toUInt32 >>> ((4 : Int32) &&& 31).toUInt32).toInt32)), .val (.int (((31 : Int32) + (-8 : Int32)) + (-4 : Int32)))] [(.int (((31 : Int32) + (-8 : Int32)) + (-4 : Int32)))])) (fun t k => XS.iloadN X0.here hx rfl (hb hby d22_73) rfl  k) ?_
            refine own_via (s₁.setTop (mkF m 75 #[.val (.int ((((p0.toUInt32 >>> ((8 : Int32) &&& 31).toUInt32).toInt32).toUInt32 >>> ((4 : Int32) &&& 31).toUInt32).toInt32)), .val (.int (((31 : Int32) + (-8 : Int32)) + (-4 : Int32)))] [(.int ((((p0.toUInt32 >>> ((8 : Int32) &&& 31).toUInt32).toInt32).toUInt32 >>> ((4 : Int32) &&& 31).toUInt32).toInt32)), (.int (((31 : Int32) + (-8 : Int32)) + (-4 : Int32)))])) (fun t k => XS.iloadN X0.here hx rfl (hb hby d22_74) rfl  k) ?_
            refine own_via (s₁.setTop (mkF m 76 #[.val (.int ((((p0.toUInt32 >>> ((8 : Int32) &&& 31).toUInt32).toInt32).toUInt32 >>> ((4 : Int32) &&& 31).toUInt32).toInt32)), .val (.int (((31 : Int32) + (-8 : Int32)) + (-4 : Int32)))] [(.int (1 : Int32)), (.int ((((p0.toUInt32 >>> ((8 : Int32) &&& 31).toUInt32).toInt32).toUInt32 >>> ((4 : Int32) &&& 31).toUInt32).toInt32)), (.int (((31 : Int32) + (-8 : Int32)) + (-4 : Int32)))])) (fun t k => XS.iconst X0.here hx rfl (hb hby d22_75) k) ?_
            refine own_via (s₁.setTop (mkF m 77 #[.val (.int ((((p0.toUInt32 >>> ((8 : Int32) &&& 31).toUInt32).toInt32).toUInt32 >>> ((4 : Int32) &&& 31).toUInt32).toInt32)), .val (.int (((31 : Int32) + (-8 : Int32)) + (-4 : Int32)))] [(.int ((((((p0.toUInt32 >>> ((8 : Int32) &&& 31).toUInt32).toInt32).toUInt32 >>> ((4 : Int32) &&& 31).toUInt32).toInt32).toUInt32 >>> ((1 : Int32) &&& 31).toUInt32).toInt32)), (.int (((31 : Int32) + (-8 : Int32)) + (-4 : Int32)))])) (fun t k => XS.iushr X0.here hx rfl (hb hby d22_76) rfl k) ?_
            refine own_via (s₁.setTop (mkF m 78 #[.val (.int ((((p0.toUInt32 >>> ((8 : Int32) &&& 31).toUInt32).toInt32).toUInt32 >>> ((4 : Int32) &&& 31).toUInt32).toInt32)), .val (.int (((31 : Int32) + (-8 : Int32)) + (-4 : Int32)))] [(.int ((((31 : Int32) + (-8 : Int32)) + (-4 : Int32)) - ((((((p0.toUInt32 >>> ((8 : Int32) &&& 31).toUInt32).toInt32).toUInt32 >>> ((4 : Int32) &&& 31).toUInt32).toInt32).toUInt32 >>> ((1 : Int32) &&& 31).toUInt32).toInt32)))])) (fun t k => XS.isub X0.here hx rfl (hb hby d22_77) rfl k) ?_
            refine own_leave X0 Bd.notSynchronized (v := some (.int ((((31 : Int32) + (-8 : Int32)) + (-4 : Int32)) - ((((((p0.toUInt32 >>> ((8 : Int32) &&& 31).toUInt32).toInt32).toUInt32 >>> ((4 : Int32) &&& 31).toUInt32).toInt32).toUInt32 >>> ((1 : Int32) &&& 31).toUInt32).toInt32)))) (fun h => by rw [Bd.returns] at h; cases h) (fun fs hr => retI X0 hx Bd.returns (hb hby d22_78) hr) ?_ (by decide) (by decide)
            refine ⟨?_, N0, e0⟩
            show some (Value.int _) = some (Value.int _); unfold own_f22; rw [if_pos hc1_244, if_pos hc22_245, if_neg hc37_246, if_neg hc51_250, if_pos hc63_252]
          · refine own_via (s₁.setTop (mkF m 66 #[.val (.int ((((p0.toUInt32 >>> ((8 : Int32) &&& 31).toUInt32).toInt32).toUInt32 >>> ((4 : Int32) &&& 31).toUInt32).toInt32)), .val (.int (((31 : Int32) + (-8 : Int32)) + (-4 : Int32)))] [])) (fun t k => XS.icmpNo X0.here hx rfl (hb hby d22_63) rfl (flt hc63_252).1 k) ?_
            refine own_via (s₁.setTop (mkF m 69 #[.val (.int ((((p0.toUInt32 >>> ((8 : Int32) &&& 31).toUInt32).toInt32).toUInt32 >>> ((4 : Int32) &&& 31).toUInt32).toInt32)), .val (.int ((((31 : Int32) + (-8 : Int32)) + (-4 : Int32)) + (-2 : Int32)))] [])) (fun t k => XS.iinc X0.here hx rfl (hb hby d22_66) rfl (l' := #[.val (.int ((((p0.toUInt32 >>> ((8 : Int32) &&& 31).toUInt32).toInt32).toUInt32 >>> ((4 : Int32) &&& 31).toUInt32).toInt32)), .val (.int ((((31 : Int32) + (-8 : Int32)) + (-4 : Int32)) + (-2 : Int32)))]) rfl k) ?_
            refine own_via (s₁.setTop (mkF m 70 #[.val (.int ((((p0.toUInt32 >>> ((8 : Int32) &&& 31).toUInt32).toInt32).toUInt32 >>> ((4 : Int32) &&& 31).toUInt32).toInt32)), .val (.int ((((31 : Int32) + (-8 : Int32)) + (-4 : Int32)) + (-2 : Int32)))] [(.int ((((p0.toUInt32 >>> ((8 : Int32) &&& 31).toUInt32).toInt32).toUInt32 >>> ((4 : Int32) &&& 31).toUInt32).toInt32))])) (fun t k => XS.iloadN X0.here hx rfl (hb hby d22_69) rfl  k) ?_
            refine own_via (s₁.setTop (mkF m 71 #[.val (.int ((((p0.toUInt32 >>> ((8 : Int32) &&& 31).toUInt32).toInt32).toUInt32 >>> ((4 : Int32) &&& 31).toUInt32).toInt32)), .val (.int ((((31 : Int32) + (-8 : Int32)) + (-4 : Int32)) + (-2 : Int32)))] [(.int (2 : Int32)), (.int ((((p0.toUInt32 >>> ((8 : Int32) &&& 31).toUInt32).toInt32).toUInt32 >>> ((4 : Int32) &&& 31).toUInt32).toInt32))])) (fun t k => XS.iconst X0.here hx rfl (hb hby d22_70) k) ?_
            refine own_via (s₁.setTop (mkF m 72 #[.val (.int ((((p0.toUInt32 >>> ((8 : Int32) &&& 31).toUInt32).toInt32).toUInt32 >>> ((4 : Int32) &&& 31).toUInt32).toInt32)), .val (.int ((((31 : Int32) + (-8 : Int32)) + (-4 : Int32)) + (-2 : Int32)))] [(.int ((((((p0.toUInt32 >>> ((8 : Int32) &&& 31).toUInt32).toInt32).toUInt32 >>> ((4 : Int32) &&& 31).toUInt32).toInt32).toUInt32 >>> ((2 : Int32) &&& 31).toUInt32).toInt32))])) (fun t k => XS.iushr X0.here hx rfl (hb hby d22_71) rfl k) ?_
            refine own_via (s₁.setTop (mkF m 73 #[.val (.int ((((((p0.toUInt32 >>> ((8 : Int32) &&& 31).toUInt32).toInt32).toUInt32 >>> ((4 : Int32) &&& 31).toUInt32).toInt32).toUInt32 >>> ((2 : Int32) &&& 31).toUInt32).toInt32)), .val (.int ((((31 : Int32) + (-8 : Int32)) + (-4 : Int32)) + (-2 : Int32)))] [])) (fun t k => XS.istoreN X0.here hx rfl (hb hby d22_72) rfl (l' := #[.val (.int ((((((p0.toUInt32 >>> ((8 : Int32) &&& 31).toUInt32).toInt32).toUInt32 >>> ((4 : Int32) &&& 31).toUInt32).toInt32).toUInt32 >>> ((2 : Int32) &&& 31).toUInt32).toInt32)), .val (.int ((((31 : Int32) + (-8 : Int32)) + (-4 : Int32)) + (-2 : Int32)))]) rfl k) ?_
            refine own_via (s₁.setTop (mkF m 74 #[.val (.int ((((((p0.toUInt32 >>> ((8 : Int32) &&& 31).toUInt32).toInt32).toUInt32 >>> ((4 : Int32) &&& 31).toUInt32).toInt32).toUInt32 >>> ((2 : Int32) &&& 31).toUInt32).toInt32)), .val (.int ((((31 : Int32) + (-8 : Int32)) + (-4 : Int32)) + (-2 : Int32)))] [(.int ((((31 : Int32) + (-8 : Int32)) + (-4 : Int32)) + (-2 : Int32)))])) (fun t k => XS.iloadN X0.here hx rfl (hb hby d22_73) rfl  k) ?_
            refine own_via (s₁.setTop (mkF m 75 #[.val (.int ((((((p0.toUInt32 >>> ((8 : Int32) &&& 31).toUInt32).toInt32).toUInt32 >>> ((4 : Int32) &&& 31).toUInt32).toInt32).toUInt32 >>> ((2 : Int32) &&& 31).toUInt32).toInt32)), .val (.int ((((31 : Int32) + (-8 : Int32)) + (-4 : Int32)) + (-2 : Int32)))] [(.int ((((((p0.toUInt32 >>> ((8 : Int32) &&& 31).toUInt32).toInt32).toUInt32 >>> ((4 : Int32) &&& 31).toUInt32).toInt32).toUInt32 >>> ((2 : Int32) &&& 31).toUInt32).toInt32)), (.int ((((31 : Int32) + (-8 : Int32)) + (-4 : Int32)) + (-2 : Int32)))])) (fun t k => XS.iloadN X0.here hx rfl (hb hby d22_74) rfl  k) ?_
            refine own_via (s₁.setTop (mkF m 76 #[.val (.int ((((((p0.toUInt32 >>> ((8 : Int32) &&& 31).toUInt32).toInt32).toUInt32 >>> ((4 : Int32) &&& 31).toUInt32).toInt32).toUInt32 >>> ((2 : Int32) &&& 31).toUInt32).toInt32)), .val (.int ((((31 : Int32) + (-8 : Int32)) + (-4 : Int32)) + (-2 : Int32)))] [(.int (1 : Int32)), (.int ((((((p0.toUInt32 >>> ((8 : Int32) &&& 31).toUInt32).toInt32).toUInt32 >>> ((4 : Int32) &&& 31).toUInt32).toInt32).toUInt32 >>> ((2 : Int32) &&& 31).toUInt32).toInt32)), (.int ((((31 : Int32) + (-8 : Int32)) + (-4 : Int32)) + (-2 : Int32)))])) (fun t k => XS.iconst X0.here hx rfl (hb hby d22_75) k) ?_
            refine own_via (s₁.setTop (mkF m 77 #[.val (.int ((((((p0.toUInt32 >>> ((8 : Int32) &&& 31).toUInt32).toInt32).toUInt32 >>> ((4 : Int32) &&& 31).toUInt32).toInt32).toUInt32 >>> ((2 : Int32) &&& 31).toUInt32).toInt32)), .val (.int ((((31 : Int32) + (-8 : Int32)) + (-4 : Int32)) + (-2 : Int32)))] [(.int ((((((((p0.toUInt32 >>> ((8 : Int32) &&& 31).toUInt32).toInt32).toUInt32 >>> ((4 : Int32) &&& 31).toUInt32).toInt32).toUInt32 >>> ((2 : Int32) &&& 31).toUInt32).toInt32).toUInt32 >>> ((1 : Int32) &&& 31).toUInt32).toInt32)), (.int ((((31 : Int32) + (-8 : Int32)) + (-4 : Int32)) + (-2 : Int32)))])) (fun t k => XS.iushr X0.here hx rfl (hb hby d22_76) rfl k) ?_
            refine own_via (s₁.setTop (mkF m 78 #[.val (.int ((((((p0.toUInt32 >>> ((8 : Int32) &&& 31).toUInt32).toInt32).toUInt32 >>> ((4 : Int32) &&& 31).toUInt32).toInt32).toUInt32 >>> ((2 : Int32) &&& 31).toUInt32).toInt32)), .val (.int ((((31 : Int32) + (-8 : Int32)) + (-4 : Int32)) + (-2 : Int32)))] [(.int (((((31 : Int32) + (-8 : Int32)) + (-4 : Int32)) + (-2 : Int32)) - ((((((((p0.toUInt32 >>> ((8 : Int32) &&& 31).toUInt32).toInt32).toUInt32 >>> ((4 : Int32) &&& 31).toUInt32).toInt32).toUInt32 >>> ((2 : Int32) &&& 31).toUInt32).toInt32).toUInt32 >>> ((1 : Int32) &&& 31).toUInt32).toInt32)))])) (fun t k => XS.isub X0.here hx rfl (hb hby d22_77) rfl k) ?_
            refine own_leave X0 Bd.notSynchronized (v := some (.int (((((31 : Int32) + (-8 : Int32)) + (-4 : Int32)) + (-2 : Int32)) - ((((((((p0.toUInt32 >>> ((8 : Int32) &&& 31).toUInt32).toInt32).toUInt32 >>> ((4 : Int32) &&& 31).toUInt32).toInt32).toUInt32 >>> ((2 : Int32) &&& 31).toUInt32).toInt32).toUInt32 >>> ((1 : Int32) &&& 31).toUInt32).toInt32)))) (fun h => by rw [Bd.returns] at h; cases h) (fun fs hr => retI X0 hx Bd.returns (hb hby d22_78) hr) ?_ (by decide) (by decide)
            refine ⟨?_, N0, e0⟩
            show some (Value.int _) = some (Value.int _); unfold own_f22; rw [if_pos hc1_244, if_pos hc22_245, if_neg hc37_246, if_neg hc51_250, if_neg hc63_252]
    · refine own_via (s₁.setTop (mkF m 25 #[.val (.int p0), .val (.int (31 : Int32))] [])) (fun t k => XS.icmpNo X0.here hx rfl (hb hby d22_22) rfl (flt hc22_245).1 k) ?_
      refine own_via (s₁.setTop (mkF m 28 #[.val (.int p0), .val (.int ((31 : Int32) + (-16 : Int32)))] [])) (fun t k => XS.iinc X0.here hx rfl (hb hby d22_25) rfl (l' := #[.val (.int p0), .val (.int ((31 : Int32) + (-16 : Int32)))]) rfl k) ?_
      refine own_via (s₁.setTop (mkF m 29 #[.val (.int p0), .val (.int ((31 : Int32) + (-16 : Int32)))] [(.int p0)])) (fun t k => XS.iloadN X0.here hx rfl (hb hby d22_28) rfl  k) ?_
      refine own_via (s₁.setTop (mkF m 31 #[.val (.int p0), .val (.int ((31 : Int32) + (-16 : Int32)))] [(.int (16 : Int32)), (.int p0)])) (fun t k => XS.bipush X0.here hx rfl (hb hby d22_29) k) ?_
      refine own_via (s₁.setTop (mkF m 32 #[.val (.int p0), .val (.int ((31 : Int32) + (-16 : Int32)))] [(.int ((p0.toUInt32 >>> ((16 : Int32) &&& 31).toUInt32).toInt32))])) (fun t k => XS.iushr X0.here hx rfl (hb hby d22_31) rfl k) ?_
      refine own_via (s₁.setTop (mkF m 33 #[.val (.int ((p0.toUInt32 >>> ((16 : Int32) &&& 31).toUInt32).toInt32)), .val (.int ((31 : Int32) + (-16 : Int32)))] [])) (fun t k => XS.istoreN X0.here hx rfl (hb hby d22_32) rfl (l' := #[.val (.int ((p0.toUInt32 >>> ((16 : Int32) &&& 31).toUInt32).toInt32)), .val (.int ((31 : Int32) + (-16 : Int32)))]) rfl k) ?_
      refine own_via (s₁.setTop (mkF m 34 #[.val (.int ((p0.toUInt32 >>> ((16 : Int32) &&& 31).toUInt32).toInt32)), .val (.int ((31 : Int32) + (-16 : Int32)))] [(.int ((p0.toUInt32 >>> ((16 : Int32) &&& 31).toUInt32).toInt32))])) (fun t k => XS.iloadN X0.here hx rfl (hb hby d22_33) rfl  k) ?_
      refine own_via (s₁.setTop (mkF m 37 #[.val (.int ((p0.toUInt32 >>> ((16 : Int32) &&& 31).toUInt32).toInt32)), .val (.int ((31 : Int32) + (-16 : Int32)))] [(.int (256 : Int32)), (.int ((p0.toUInt32 >>> ((16 : Int32) &&& 31).toUInt32).toInt32))])) (fun t k => XS.sipush X0.here hx rfl (hb hby d22_34) k) ?_
      by_cases hc37_253 : ((p0.toUInt32 >>> ((16 : Int32) &&& 31).toUInt32).toInt32) < (256 : Int32)
      · refine own_via (s₁.setTop (mkF m 48 #[.val (.int ((p0.toUInt32 >>> ((16 : Int32) &&& 31).toUInt32).toInt32)), .val (.int ((31 : Int32) + (-16 : Int32)))] [])) (fun t k => XS.icmpYes X0.here hx rfl (pc0 := 37) (pc' := 48) rfl (hb hby d22_37) rfl (tlt hc37_253).1 (by decide) (by decide) k) ?_
        refine own_via (s₁.setTop (mkF m 49 #[.val (.int ((p0.toUInt32 >>> ((16 : Int32) &&& 31).toUInt32).toInt32)), .val (.int ((31 : Int32) + (-16 : Int32)))] [(.int ((p0.toUInt32 >>> ((16 : Int32) &&& 31).toUInt32).toInt32))])) (fun t k => XS.iloadN X0.here hx rfl (hb hby d22_48) rfl  k) ?_
        refine own_via (s₁.setTop (mkF m 51 #[.val (.int ((p0.toUInt32 >>> ((16 : Int32) &&& 31).toUInt32).toInt32)), .val (.int ((31 : Int32) + (-16 : Int32)))] [(.int (16 : Int32)), (.int ((p0.toUInt32 >>> ((16 : Int32) &&& 31).toUInt32).toInt32))])) (fun t k => XS.bipush X0.here hx rfl (hb hby d22_49) k) ?_
        by_cases hc51_254 : ((p0.toUInt32 >>> ((16 : Int32) &&& 31).toUInt32).toInt32) < (16 : Int32)
        · refine own_via (s₁.setTop (mkF m 61 #[.val (.int ((p0.toUInt32 >>> ((16 : Int32) &&& 31).toUInt32).toInt32)), .val (.int ((31 : Int32) + (-16 : Int32)))] [])) (fun t k => XS.icmpYes X0.here hx rfl (pc0 := 51) (pc' := 61) rfl (hb hby d22_51) rfl (tlt hc51_254).1 (by decide) (by decide) k) ?_
          refine own_via (s₁.setTop (mkF m 62 #[.val (.int ((p0.toUInt32 >>> ((16 : Int32) &&& 31).toUInt32).toInt32)), .val (.int ((31 : Int32) + (-16 : Int32)))] [(.int ((p0.toUInt32 >>> ((16 : Int32) &&& 31).toUInt32).toInt32))])) (fun t k => XS.iloadN X0.here hx rfl (hb hby d22_61) rfl  k) ?_
          refine own_via (s₁.setTop (mkF m 63 #[.val (.int ((p0.toUInt32 >>> ((16 : Int32) &&& 31).toUInt32).toInt32)), .val (.int ((31 : Int32) + (-16 : Int32)))] [(.int (4 : Int32)), (.int ((p0.toUInt32 >>> ((16 : Int32) &&& 31).toUInt32).toInt32))])) (fun t k => XS.iconst X0.here hx rfl (hb hby d22_62) k) ?_
          by_cases hc63_255 : ((p0.toUInt32 >>> ((16 : Int32) &&& 31).toUInt32).toInt32) < (4 : Int32)
          · refine own_via (s₁.setTop (mkF m 73 #[.val (.int ((p0.toUInt32 >>> ((16 : Int32) &&& 31).toUInt32).toInt32)), .val (.int ((31 : Int32) + (-16 : Int32)))] [])) (fun t k => XS.icmpYes X0.here hx rfl (pc0 := 63) (pc' := 73) rfl (hb hby d22_63) rfl (tlt hc63_255).1 (by decide) (by decide) k) ?_
            refine own_via (s₁.setTop (mkF m 74 #[.val (.int ((p0.toUInt32 >>> ((16 : Int32) &&& 31).toUInt32).toInt32)), .val (.int ((31 : Int32) + (-16 : Int32)))] [(.int ((31 : Int32) + (-16 : Int32)))])) (fun t k => XS.iloadN X0.here hx rfl (hb hby d22_73) rfl  k) ?_
            refine own_via (s₁.setTop (mkF m 75 #[.val (.int ((p0.toUInt32 >>> ((16 : Int32) &&& 31).toUInt32).toInt32)), .val (.int ((31 : Int32) + (-16 : Int32)))] [(.int ((p0.toUInt32 >>> ((16 : Int32) &&& 31).toUInt32).toInt32)), (.int ((31 : Int32) + (-16 : Int32)))])) (fun t k => XS.iloadN X0.here hx rfl (hb hby d22_74) rfl  k) ?_
            refine own_via (s₁.setTop (mkF m 76 #[.val (.int ((p0.toUInt32 >>> ((16 : Int32) &&& 31).toUInt32).toInt32)), .val (.int ((31 : Int32) + (-16 : Int32)))] [(.int (1 : Int32)), (.int ((p0.toUInt32 >>> ((16 : Int32) &&& 31).toUInt32).toInt32)), (.int ((31 : Int32) + (-16 : Int32)))])) (fun t k => XS.iconst X0.here hx rfl (hb hby d22_75) k) ?_
            refine own_via (s₁.setTop (mkF m 77 #[.val (.int ((p0.toUInt32 >>> ((16 : Int32) &&& 31).toUInt32).toInt32)), .val (.int ((31 : Int32) + (-16 : Int32)))] [(.int ((((p0.toUInt32 >>> ((16 : Int32) &&& 31).toUInt32).toInt32).toUInt32 >>> ((1 : Int32) &&& 31).toUInt32).toInt32)), (.int ((31 : Int32) + (-16 : Int32)))])) (fun t k => XS.iushr X0.here hx rfl (hb hby d22_76) rfl k) ?_
            refine own_via (s₁.setTop (mkF m 78 #[.val (.int ((p0.toUInt32 >>> ((16 : Int32) &&& 31).toUInt32).toInt32)), .val (.int ((31 : Int32) + (-16 : Int32)))] [(.int (((31 : Int32) + (-16 : Int32)) - ((((p0.toUInt32 >>> ((16 : Int32) &&& 31).toUInt32).toInt32).toUInt32 >>> ((1 : Int32) &&& 31).toUInt32).toInt32)))])) (fun t k => XS.isub X0.here hx rfl (hb hby d22_77) rfl k) ?_
            refine own_leave X0 Bd.notSynchronized (v := some (.int (((31 : Int32) + (-16 : Int32)) - ((((p0.toUInt32 >>> ((16 : Int32) &&& 31).toUInt32).toInt32).toUInt32 >>> ((1 : Int32) &&& 31).toUInt32).toInt32)))) (fun h => by rw [Bd.returns] at h; cases h) (fun fs hr => retI X0 hx Bd.returns (hb hby d22_78) hr) ?_ (by decide) (by decide)
            refine ⟨?_, N0, e0⟩
            show some (Value.int _) = some (Value.int _); unfold own_f22; rw [if_pos hc1_244, if_neg hc22_245, if_pos hc37_253, if_pos hc51_254, if_pos hc63_255]
          · refine own_via (s₁.setTop (mkF m 66 #[.val (.int ((p0.toUInt32 >>> ((16 : Int32) &&& 31).toUInt32).toInt32)), .val (.int ((31 : Int32) + (-16 : Int32)))] [])) (fun t k => XS.icmpNo X0.here hx rfl (hb hby d22_63) rfl (flt hc63_255).1 k) ?_
            refine own_via (s₁.setTop (mkF m 69 #[.val (.int ((p0.toUInt32 >>> ((16 : Int32) &&& 31).toUInt32).toInt32)), .val (.int (((31 : Int32) + (-16 : Int32)) + (-2 : Int32)))] [])) (fun t k => XS.iinc X0.here hx rfl (hb hby d22_66) rfl (l' := #[.val (.int ((p0.toUInt32 >>> ((16 : Int32) &&& 31).toUInt32).toInt32)), .val (.int (((31 : Int32) + (-16 : Int32)) + (-2 : Int32)))]) rfl k) ?_
            refine own_via (s₁.setTop (mkF m 70 #[.val (.int ((p0.toUInt32 >>> ((16 : Int32) &&& 31).toUInt32).toInt32)), .val (.int (((31 : Int32) + (-16 : Int32)) + (-2 : Int32)))] [(.int ((p0.toUInt32 >>> ((16 : Int32) &&& 31).toUInt32).toInt32))])) (fun t k => XS.iloadN X0.here hx rfl (hb hby d22_69) rfl  k) ?_
            refine own_via (s₁.setTop (mkF m 71 #[.val (.int ((p0.toUInt32 >>> ((16 : Int32) &&& 31).toUInt32).toInt32)), .val (.int (((31 : Int32) + (-16 : Int32)) + (-2 : Int32)))] [(.int (2 : Int32)), (.int ((p0.toUInt32 >>> ((16 : Int32) &&& 31).toUInt32).toInt32))])) (fun t k => XS.iconst X0.here hx rfl (hb hby d22_70) k) ?_
            refine own_via (s₁.setTop (mkF m 72 #[.val (.int ((p0.toUInt32 >>> ((16 : Int32) &&& 31).toUInt32).toInt32)), .val (.int (((31 : Int32) + (-16 : Int32)) + (-2 : Int32)))] [(.int ((((p0.toUInt32 >>> ((16 : Int32) &&& 31).toUInt32).toInt32).toUInt32 >>> ((2 : Int32) &&& 31).toUInt32).toInt32))])) (fun t k => XS.iushr X0.here hx rfl (hb hby d22_71) rfl k) ?_
            refine own_via (s₁.setTop (mkF m 73 #[.val (.int ((((p0.toUInt32 >>> ((16 : Int32) &&& 31).toUInt32).toInt32).toUInt32 >>> ((2 : Int32) &&& 31).toUInt32).toInt32)), .val (.int (((31 : Int32) + (-16 : Int32)) + (-2 : Int32)))] [])) (fun t k => XS.istoreN X0.here hx rfl (hb hby d22_72) rfl (l' := #[.val (.int ((((p0.toUInt32 >>> ((16 : Int32) &&& 31).toUInt32).toInt32).toUInt32 >>> ((2 : Int32) &&& 31).toUInt32).toInt32)), .val (.int (((31 : Int32) + (-16 : Int32)) + (-2 : Int32)))]) rfl k) ?_
            refine own_via (s₁.setTop (mkF m 74 #[.val (.int ((((p0.toUInt32 >>> ((16 : Int32) &&& 31).toUInt32).toInt32).toUInt32 >>> ((2 : Int32) &&& 31).toUInt32).toInt32)), .val (.int (((31 : Int32) + (-16 : Int32)) + (-2 : Int32)))] [(.int (((31 : Int32) + (-16 : Int32)) + (-2 : Int32)))])) (fun t k => XS.iloadN X0.here hx rfl (hb hby d22_73) rfl  k) ?_
            refine own_via (s₁.setTop (mkF m 75 #[.val (.int ((((p0.toUInt32 >>> ((16 : Int32) &&& 31).toUInt32).toInt32).toUInt32 >>> ((2 : Int32) &&& 31).toUInt32).toInt32)), .val (.int (((31 : Int32) + (-16 : Int32)) + (-2 : Int32)))] [(.int ((((p0.toUInt32 >>> ((16 : Int32) &&& 31).toUInt32).toInt32).toUInt32 >>> ((2 : Int32) &&& 31).toUInt32).toInt32)), (.int (((31 : Int32) + (-16 : Int32)) + (-2 : Int32)))])) (fun t k => XS.iloadN X0.here hx rfl (hb hby d22_74) rfl  k) ?_
            refine own_via (s₁.setTop (mkF m 76 #[.val (.int ((((p0.toUInt32 >>> ((16 : Int32) &&& 31).toUInt32).toInt32).toUInt32 >>> ((2 : Int32) &&& 31).toUInt32).toInt32)), .val (.int (((31 : Int32) + (-16 : Int32)) + (-2 : Int32)))] [(.int (1 : Int32)), (.int ((((p0.toUInt32 >>> ((16 : Int32) &&& 31).toUInt32).toInt32).toUInt32 >>> ((2 : Int32) &&& 31).toUInt32).toInt32)), (.int (((31 : Int32) + (-16 : Int32)) + (-2 : Int32)))])) (fun t k => XS.iconst X0.here hx rfl (hb hby d22_75) k) ?_
            refine own_via (s₁.setTop (mkF m 77 #[.val (.int ((((p0.toUInt32 >>> ((16 : Int32) &&& 31).toUInt32).toInt32).toUInt32 >>> ((2 : Int32) &&& 31).toUInt32).toInt32)), .val (.int (((31 : Int32) + (-16 : Int32)) + (-2 : Int32)))] [(.int ((((((p0.toUInt32 >>> ((16 : Int32) &&& 31).toUInt32).toInt32).toUInt32 >>> ((2 : Int32) &&& 31).toUInt32).toInt32).toUInt32 >>> ((1 : Int32) &&& 31).toUInt32).toInt32)), (.int (((31 : Int32) + (-16 : Int32)) + (-2 : Int32)))])) (fun t k => XS.iushr X0.here hx rfl (hb hby d22_76) rfl k) ?_
            refine own_via (s₁.setTop (mkF m 78 #[.val (.int ((((p0.toUInt32 >>> ((16 : Int32) &&& 31).toUInt32).toInt32).toUInt32 >>> ((2 : Int32) &&& 31).toUInt32).toInt32)), .val (.int (((31 : Int32) + (-16 : Int32)) + (-2 : Int32)))] [(.int ((((31 : Int32) + (-16 : Int32)) + (-2 : Int32)) - ((((((p0.toUInt32 >>> ((16 : Int32) &&& 31).toUInt32).toInt32).toUInt32 >>> ((2 : Int32) &&& 31).toUInt32).toInt32).toUInt32 >>> ((1 : Int32) &&& 31).toUInt32).toInt32)))])) (fun t k => XS.isub X0.here hx rfl (hb hby d22_77) rfl k) ?_
            refine own_leave X0 Bd.notSynchronized (v := some (.int ((((31 : Int32) + (-16 : Int32)) + (-2 : Int32)) - ((((((p0.toUInt32 >>> ((16 : Int32) &&& 31).toUInt32).toInt32).toUInt32 >>> ((2 : Int32) &&& 31).toUInt32).toInt32).toUInt32 >>> ((1 : Int32) &&& 31).toUInt32).toInt32)))) (fun h => by rw [Bd.returns] at h; cases h) (fun fs hr => retI X0 hx Bd.returns (hb hby d22_78) hr) ?_ (by decide) (by decide)
            refine ⟨?_, N0, e0⟩
            show some (Value.int _) = some (Value.int _); unfold own_f22; rw [if_pos hc1_244, if_neg hc22_245, if_pos hc37_253, if_pos hc51_254, if_neg hc63_255]
        · refine own_via (s₁.setTop (mkF m 54 #[.val (.int ((p0.toUInt32 >>> ((16 : Int32) &&& 31).toUInt32).toInt32)), .val (.int ((31 : Int32) + (-16 : Int32)))] [])) (fun t k => XS.icmpNo X0.here hx rfl (hb hby d22_51) rfl (flt hc51_254).1 k) ?_
          refine own_via (s₁.setTop (mkF m 57 #[.val (.int ((p0.toUInt32 >>> ((16 : Int32) &&& 31).toUInt32).toInt32)), .val (.int (((31 : Int32) + (-16 : Int32)) + (-4 : Int32)))] [])) (fun t k => XS.iinc X0.here hx rfl (hb hby d22_54) rfl (l' := #[.val (.int ((p0.toUInt32 >>> ((16 : Int32) &&& 31).toUInt32).toInt32)), .val (.int (((31 : Int32) + (-16 : Int32)) + (-4 : Int32)))]) rfl k) ?_
          refine own_via (s₁.setTop (mkF m 58 #[.val (.int ((p0.toUInt32 >>> ((16 : Int32) &&& 31).toUInt32).toInt32)), .val (.int (((31 : Int32) + (-16 : Int32)) + (-4 : Int32)))] [(.int ((p0.toUInt32 >>> ((16 : Int32) &&& 31).toUInt32).toInt32))])) (fun t k => XS.iloadN X0.here hx rfl (hb hby d22_57) rfl  k) ?_
          refine own_via (s₁.setTop (mkF m 59 #[.val (.int ((p0.toUInt32 >>> ((16 : Int32) &&& 31).toUInt32).toInt32)), .val (.int (((31 : Int32) + (-16 : Int32)) + (-4 : Int32)))] [(.int (4 : Int32)), (.int ((p0.toUInt32 >>> ((16 : Int32) &&& 31).toUInt32).toInt32))])) (fun t k => XS.iconst X0.here hx rfl (hb hby d22_58) k) ?_
          refine own_via (s₁.setTop (mkF m 60 #[.val (.int ((p0.toUInt32 >>> ((16 : Int32) &&& 31).toUInt32).toInt32)), .val (.int (((31 : Int32) + (-16 : Int32)) + (-4 : Int32)))] [(.int ((((p0.toUInt32 >>> ((16 : Int32) &&& 31).toUInt32).toInt32).toUInt32 >>> ((4 : Int32) &&& 31).toUInt32).toInt32))])) (fun t k => XS.iushr X0.here hx rfl (hb hby d22_59) rfl k) ?_
          refine own_via (s₁.setTop (mkF m 61 #[.val (.int ((((p0.toUInt32 >>> ((16 : Int32) &&& 31).toUInt32).toInt32).toUInt32 >>> ((4 : Int32) &&& 31).toUInt32).toInt32)), .val (.int (((31 : Int32) + (-16 : Int32)) + (-4 : Int32)))] [])) (fun t k => XS.istoreN X0.here hx rfl (hb hby d22_60) rfl (l' := #[.val (.int ((((p0.toUInt32 >>> ((16 : Int32) &&& 31).toUInt32).toInt32).toUInt32 >>> ((4 : Int32) &&& 31).toUInt32).toInt32)), .val (.int (((31 : Int32) + (-16 : Int32)) + (-4 : Int32)))]) rfl k) ?_
          refine own_via (s₁.setTop (mkF m 62 #[.val (.int ((((p0.toUInt32 >>> ((16 : Int32) &&& 31).toUInt32).toInt32).toUInt32 >>> ((4 : Int32) &&& 31).toUInt32).toInt32)), .val (.int (((31 : Int32) + (-16 : Int32)) + (-4 : Int32)))] [(.int ((((p0.toUInt32 >>> ((16 : Int32) &&& 31).toUInt32).toInt32).toUInt32 >>> ((4 : Int32) &&& 31).toUInt32).toInt32))])) (fun t k => XS.iloadN X0.here hx rfl (hb hby d22_61) rfl  k) ?_
          refine own_via (s₁.setTop (mkF m 63 #[.val (.int ((((p0.toUInt32 >>> ((16 : Int32) &&& 31).toUInt32).toInt32).toUInt32 >>> ((4 : Int32) &&& 31).toUInt32).toInt32)), .val (.int (((31 : Int32) + (-16 : Int32)) + (-4 : Int32)))] [(.int (4 : Int32)), (.int ((((p0.toUInt32 >>> ((16 : Int32) &&& 31).toUInt32).toInt32).toUInt32 >>> ((4 : Int32) &&& 31).toUInt32).toInt32))])) (fun t k => XS.iconst X0.here hx rfl (hb hby d22_62) k) ?_
          by_cases hc63_256 : ((((p0.toUInt32 >>> ((16 : Int32) &&& 31).toUInt32).toInt32).toUInt32 >>> ((4 : Int32) &&& 31).toUInt32).toInt32) < (4 : Int32)
          · refine own_via (s₁.setTop (mkF m 73 #[.val (.int ((((p0.toUInt32 >>> ((16 : Int32) &&& 31).toUInt32).toInt32).toUInt32 >>> ((4 : Int32) &&& 31).toUInt32).toInt32)), .val (.int (((31 : Int32) + (-16 : Int32)) + (-4 : Int32)))] [])) (fun t k => XS.icmpYes X0.here hx rfl (pc0 := 63) (pc' := 73) rfl (hb hby d22_63) rfl (tlt hc63_256).1 (by decide) (by decide) k) ?_
            refine own_via (s₁.setTop (mkF m 74 #[.val (.int ((((p0.toUInt32 >>> ((16 : Int32) &&& 31).toUInt32).toInt32).toUInt32 >>> ((4 : Int32) &&& 31).toUInt32).toInt32)), .val (.int (((31 : Int32) + (-16 : Int32)) + (-4 : Int32)))] [(.int (((31 : Int32) + (-16 : Int32)) + (-4 : Int32)))])) (fun t k => XS.iloadN X0.here hx rfl (hb hby d22_73) rfl  k) ?_
            refine own_via (s₁.setTop (mkF m 75 #[.val (.int ((((p0.toUInt32 >>> ((16 : Int32) &&& 31).toUInt32).toInt32).toUInt32 >>> ((4 : Int32) &&& 31).toUInt32).toInt32)), .val (.int (((31 : Int32) + (-16 : Int32)) + (-4 : Int32)))] [(.int ((((p0.toUInt32 >>> ((16 : Int32) &&& 31).toUInt32).toInt32).toUInt32 >>> ((4 : Int32) &&& 31).toUInt32).toInt32)), (.int (((31 : Int32) + (-16 : Int32)) + (-4 : Int32)))])) (fun t k => XS.iloadN X0.here hx rfl (hb hby d22_74) rfl  k) ?_
            refine own_via (s₁.setTop (mkF m 76 #[.val (.int ((((p0.toUInt32 >>> ((16 : Int32) &&& 31).toUInt32).toInt32).toUInt32 >>> ((4 : Int32) &&& 31).toUInt32).toInt32)), .val (.int (((31 : Int32) + (-16 : Int32)) + (-4 : Int32)))] [(.int (1 : Int32)), (.int ((((p0.toUInt32 >>> ((16 : Int32) &&& 31).toUInt32).toInt32).toUInt32 >>> ((4 : Int32) &&& 31).toUInt32).toInt32)), (.int (((31 : Int32) + (-16 : Int32)) + (-4 : Int32)))])) (fun t k => XS.iconst X0.here hx rfl (hb hby d22_75) k) ?_
            refine own_via (s₁.setTop (mkF m 77 #[.val (.int ((((p0.toUInt32 >>> ((16 : Int32) &&& 31).toUInt32).toInt32).toUInt32 >>> ((4 : Int32) &&& 31).toUInt32).toInt32)), .val (.int (((31 : Int32) + (-16 : Int32)) + (-4 : Int32)))] [(.int ((((((p0.toUInt32 >>> ((16 : Int32) &&& 31).toUInt32).toInt32).toUInt32 >>> ((4 : Int32) &&& 31).toUInt32).toInt32).toUInt32 >>> ((1 : Int32) &&& 31).toUInt32).toInt32)), (.int (((31 : Int32) + (-16 : Int32)) + (-4 : Int32)))])) (fun t k => XS.iushr X0.here hx rfl (hb hby d22_76) rfl k) ?_
            refine own_via (s₁.setTop (mkF m 78 #[.val (.int ((((p0.toUInt32 >>> ((16 : Int32) &&& 31).toUInt32).toInt32).toUInt32 >>> ((4 : Int32) &&& 31).toUInt32).toInt32)), .val (.int (((31 : Int32) + (-16 : Int32)) + (-4 : Int32)))] [(.int ((((31 : Int32) + (-16 : Int32)) + (-4 : Int32)) - ((((((p0.toUInt32 >>> ((16 : Int32) &&& 31).toUInt32).toInt32).toUInt32 >>> ((4 : Int32) &&& 31).toUInt32).toInt32).toUInt32 >>> ((1 : Int32) &&& 31).toUInt32).toInt32)))])) (fun t k => XS.isub X0.here hx rfl (hb hby d22_77) rfl k) ?_
            refine own_leave X0 Bd.notSynchronized (v := some (.int ((((31 : Int32) + (-16 : Int32)) + (-4 : Int32)) - ((((((p0.toUInt32 >>> ((16 : Int32) &&& 31).toUInt32).toInt32).toUInt32 >>> ((4 : Int32) &&& 31).toUInt32).toInt32).toUInt32 >>> ((1 : Int32) &&& 31).toUInt32).toInt32)))) (fun h => by rw [Bd.returns] at h; cases h) (fun fs hr => retI X0 hx Bd.returns (hb hby d22_78) hr) ?_ (by decide) (by decide)
            refine ⟨?_, N0, e0⟩
            show some (Value.int _) = some (Value.int _); unfold own_f22; rw [if_pos hc1_244, if_neg hc22_245, if_pos hc37_253, if_neg hc51_254, if_pos hc63_256]
          · refine own_via (s₁.setTop (mkF m 66 #[.val (.int ((((p0.toUInt32 >>> ((16 : Int32) &&& 31).toUInt32).toInt32).toUInt32 >>> ((4 : Int32) &&& 31).toUInt32).toInt32)), .val (.int (((31 : Int32) + (-16 : Int32)) + (-4 : Int32)))] [])) (fun t k => XS.icmpNo X0.here hx rfl (hb hby d22_63) rfl (flt hc63_256).1 k) ?_
            refine own_via (s₁.setTop (mkF m 69 #[.val (.int ((((p0.toUInt32 >>> ((16 : Int32) &&& 31).toUInt32).toInt32).toUInt32 >>> ((4 : Int32) &&& 31).toUInt32).toInt32)), .val (.int ((((31 : Int32) + (-16 : Int32)) + (-4 : Int32)) + (-2 : Int32)))] [])) (fun t k => XS.iinc X0.here hx rfl (hb hby d22_66) rfl (l' := #[.val (.int ((((p0.toUInt32 >>> ((16 : Int32) &&& 31).toUInt32).toInt32).toUInt32 >>> ((4 : Int32) &&& 31).toUInt32).toInt32)), .val (.int ((((31 : Int32) + (-16 : Int32)) + (-4 : Int32)) + (-2 : Int32)))]) rfl k) ?_
            refine own_via (s₁.setTop (mkF m 70 #[.val (.int ((((p0.toUInt32 >>> ((16 : Int32) &&& 31).toUInt32).toInt32).toUInt32 >>> ((4 : Int32) &&& 31).toUInt32).toInt32)), .val (.int ((((31 : Int32) + (-16 : Int32)) + (-4 : Int32)) + (-2 : Int32)))] [(.int ((((p0.toUInt32 >>> ((16 : Int32) &&& 31).toUInt32).toInt32).toUInt32 >>> ((4 : Int32) &&& 31).toUInt32).toInt32))])) (fun t k => XS.iloadN X0.here hx rfl (hb hby d22_69) rfl  k) ?_
            refine own_via (s₁.setTop (mkF m 71 #[.val (.int ((((p0.toUInt32 >>> ((16 : Int32) &&& 31).toUInt32).toInt32).toUInt32 >>> ((4 : Int32) &&& 31).toUInt32).toInt32)), .val (.int ((((31 : Int32) + (-16 : Int32)) + (-4 : Int32)) + (-2 : Int32)))] [(.int (2 : Int32)), (.int ((((p0.toUInt32 >>> ((16 : Int32) &&& 31).toUInt32).toInt32).toUInt32 >>> ((4 : Int32) &&& 31).toUInt32).toInt32))])) (fun t k => XS.iconst X0.here hx rfl (hb hby d22_70) k) ?_
            refine own_via (s₁.setTop (mkF m 72 #[.val (.int ((((p0.toUInt32 >>> ((16 : Int32) &&& 31).toUInt32).toInt32).toUInt32 >>> ((4 : Int32) &&& 31).toUInt32).toInt32)), .val (.int ((((31 : Int32) + (-16 : Int32)) + (-4 : Int32)) + (-2 : Int32)))] [(.int ((((((p0.toUInt32 >>> ((16 : Int32) &&& 31).toUInt32).toInt32).toUInt32 >>> ((4 : Int32) &&& 31).toUInt32).toInt32).toUInt32 >>> ((2 : Int32) &&& 31).toUInt32).toInt32))])) (fun t k => XS.iushr X0.here hx rfl (hb hby d22_71) rfl k) ?_
            refine own_via (s₁.setTop (mkF m 73 #[.val (.int ((((((p0.toUInt32 >>> ((16 : Int32) &&& 31).toUInt32).toInt32).toUInt32 >>> ((4 : Int32) &&& 31).toUInt32).toInt32).toUInt32 >>> ((2 : Int32) &&& 31).toUInt32).toInt32)), .val (.int ((((31 : Int32) + (-16 : Int32)) + (-4 : Int32)) + (-2 : Int32)))] [])) (fun t k => XS.istoreN X0.here hx rfl (hb hby d22_72) rfl (l' := #[.val (.int ((((((p0.toUInt32 >>> ((16 : Int32) &&& 31).toUInt32).toInt32).toUInt32 >>> ((4 : Int32) &&& 31).toUInt32).toInt32).toUInt32 >>> ((2 : Int32) &&& 31).toUInt32).toInt32)), .val (.int ((((31 : Int32) + (-16 : Int32)) + (-4 : Int32)) + (-2 : Int32)))]) rfl k) ?_
            refine own_via (s₁.setTop (mkF m 74 #[.val (.int ((((((p0.toUInt32 >>> ((16 : Int32) &&& 31).toUInt32).toInt32).toUInt32 >>> ((4 : Int32) &&& 31).toUInt32).toInt32).toUInt32 >>> ((2 : Int32) &&& 31).toUInt32).toInt32)), .val (.int ((((31 : Int32) + (-16 : Int32)) + (-4 : Int32)) + (-2 : Int32)))] [(.int ((((31 : Int32) + (-16 : Int32)) + (-4 : Int32)) + (-2 : Int32)))])) (fun t k => XS.iloadN X0.here hx rfl (hb hby d22_73) rfl  k) ?_
            refine own_via (s₁.setTop (mkF m 75 #[.val (.int ((((((p0.toUInt32 >>> ((16 : Int32) &&& 31).toUInt32).toInt32).toUInt32 >>> ((4 : Int32) &&& 31).toUInt32).toInt32).toUInt32 >>> ((2 : Int32) &&& 31).toUInt32).toInt32)), .val (.int ((((31 : Int32) + (-16 : Int32)) + (-4 : Int32)) + (-2 : Int32)))] [(.int ((((((p0.toUInt32 >>> ((16 : Int32) &&& 31).toUInt32).toInt32).toUInt32 >>> ((4 : Int32) &&& 31).toUInt32).toInt32).toUInt32 >>> ((2 : Int32) &&& 31).toUInt32).toInt32)), (.int ((((31 : Int32) + (-16 : Int32)) + (-4 : Int32)) + (-2 : Int32)))])) (fun t k => XS.iloadN X0.here hx rfl (hb hby d22_74) rfl  k) ?_
            refine own_via (s₁.setTop (mkF m 76 #[.val (.int ((((((p0.toUInt32 >>> ((16 : Int32) &&& 31).toUInt32).toInt32).toUInt32 >>> ((4 : Int32) &&& 31).toUInt32).toInt32).toUInt32 >>> ((2 : Int32) &&& 31).toUInt32).toInt32)), .val (.int ((((31 : Int32) + (-16 : Int32)) + (-4 : Int32)) + (-2 : Int32)))] [(.int (1 : Int32)), (.int ((((((p0.toUInt32 >>> ((16 : Int32) &&& 31).toUInt32).toInt32).toUInt32 >>> ((4 : Int32) &&& 31).toUInt32).toInt32).toUInt32 >>> ((2 : Int32) &&& 31).toUInt32).toInt32)), (.int ((((31 : Int32) + (-16 : Int32)) + (-4 : Int32)) + (-2 : Int32)))])) (fun t k => XS.iconst X0.here hx rfl (hb hby d22_75) k) ?_
            refine own_via (s₁.setTop (mkF m 77 #[.val (.int ((((((p0.toUInt32 >>> ((16 : Int32) &&& 31).toUInt32).toInt32).toUInt32 >>> ((4 : Int32) &&& 31).toUInt32).toInt32).toUInt32 >>> ((2 : Int32) &&& 31).toUInt32).toInt32)), .val (.int ((((31 : Int32) + (-16 : Int32)) + (-4 : Int32)) + (-2 : Int32)))] [(.int ((((((((p0.toUInt32 >>> ((16 : Int32) &&& 31).toUInt32).toInt32).toUInt32 >>> ((4 : Int32) &&& 31).toUInt32).toInt32).toUInt32 >>> ((2 : Int32) &&& 31).toUInt32).toInt32).toUInt32 >>> ((1 : Int32) &&& 31).toUInt32).toInt32)), (.int ((((31 : Int32) + (-16 : Int32)) + (-4 : Int32)) + (-2 : Int32)))])) (fun t k => XS.iushr X0.here hx rfl (hb hby d22_76) rfl k) ?_
            refine own_via (s₁.setTop (mkF m 78 #[.val (.int ((((((p0.toUInt32 >>> ((16 : Int32) &&& 31).toUInt32).toInt32).toUInt32 >>> ((4 : Int32) &&& 31).toUInt32).toInt32).toUInt32 >>> ((2 : Int32) &&& 31).toUInt32).toInt32)), .val (.int ((((31 : Int32) + (-16 : Int32)) + (-4 : Int32)) + (-2 : Int32)))] [(.int (((((31 : Int32) + (-16 : Int32)) + (-4 : Int32)) + (-2 : Int32)) - ((((((((p0.toUInt32 >>> ((16 : Int32) &&& 31).toUInt32).toInt32).toUInt32 >>> ((4 : Int32) &&& 31).toUInt32).toInt32).toUInt32 >>> ((2 : Int32) &&& 31).toUInt32).toInt32).toUInt32 >>> ((1 : Int32) &&& 31).toUInt32).toInt32)))])) (fun t k => XS.isub X0.here hx rfl (hb hby d22_77) rfl k) ?_
            refine own_leave X0 Bd.notSynchronized (v := some (.int (((((31 : Int32) + (-16 : Int32)) + (-4 : Int32)) + (-2 : Int32)) - ((((((((p0.toUInt32 >>> ((16 : Int32) &&& 31).toUInt32).toInt32).toUInt32 >>> ((4 : Int32) &&& 31).toUInt32).toInt32).toUInt32 >>> ((2 : Int32) &&& 31).toUInt32).toInt32).toUInt32 >>> ((1 : Int32) &&& 31).toUInt32).toInt32)))) (fun h => by rw [Bd.returns] at h; cases h) (fun fs hr => retI X0 hx Bd.returns (hb hby d22_78) hr) ?_ (by decide) (by decide)
            refine ⟨?_, N0, e0⟩
            show some (Value.int _) = some (Value.int _); unfold own_f22; rw [if_pos hc1_244, if_neg hc22_245, if_pos hc37_253, if_neg hc51_254, if_neg hc63_256]
      · refine own_via (s₁.setTop (mkF m 40 #[.val (.int ((p0.toUInt32 >>> ((16 : Int32) &&& 31).toUInt32).toInt32)), .val (.int ((31 : Int32) + (-16 : Int32)))] [])) (fun t k => XS.icmpNo X0.here hx rfl (hb hby d22_37) rfl (flt hc37_253).1 k) ?_
        refine own_via (s₁.setTop (mkF m 43 #[.val (.int ((p0.toUInt32 >>> ((16 : Int32) &&& 31).toUInt32).toInt32)), .val (.int (((31 : Int32) + (-16 : Int32)) + (-8 : Int32)))] [])) (fun t k => XS.iinc X0.here hx rfl (hb hby d22_40) rfl (l' := #[.val (.int ((p0.toUInt32 >>> ((16 : Int32) &&& 31).toUInt32).toInt32)), .val (.int (((31 : Int32) + (-16 : Int32)) + (-8 : Int32)))]) rfl k) ?_
        refine own_via (s₁.setTop (mkF m 44 #[.val (.int ((p0.toUInt32 >>> ((16 : Int32) &&& 31).toUInt32).toInt32)), .val (.int (((31 : Int32) + (-16 : Int32)) + (-8 : Int32)))] [(.int ((p0.toUInt32 >>> ((16 : Int32) &&& 31).toUInt32).toInt32))])) (fun t k => XS.iloadN X0.here hx rfl (hb hby d22_43) rfl  k) ?_
        refine own_via (s₁.setTop (mkF m 46 #[.val (.int ((p0.toUInt32 >>> ((16 : Int32) &&& 31).toUInt32).toInt32)), .val (.int (((31 : Int32) + (-16 : Int32)) + (-8 : Int32)))] [(.int (8 : Int32)), (.int ((p0.toUInt32 >>> ((16 : Int32) &&& 31).toUInt32).toInt32))])) (fun t k => XS.bipush X0.here hx rfl (hb hby d22_44) k) ?_
        refine own_via (s₁.setTop (mkF m 47 #[.val (.int ((p0.toUInt32 >>> ((16 : Int32) &&& 31).toUInt32).toInt32)), .val (.int (((31 : Int32) + (-16 : Int32)) + (-8 : Int32)))] [(.int ((((p0.toUInt32 >>> ((16 : Int32) &&& 31).toUInt32).toInt32).toUInt32 >>> ((8 : Int32) &&& 31).toUInt32).toInt32))])) (fun t k => XS.iushr X0.here hx rfl (hb hby d22_46) rfl k) ?_
        refine own_via (s₁.setTop (mkF m 48 #[.val (.int ((((p0.toUInt32 >>> ((16 : Int32) &&& 31).toUInt32).toInt32).toUInt32 >>> ((8 : Int32) &&& 31).toUInt32).toInt32)), .val (.int (((31 : Int32) + (-16 : Int32)) + (-8 : Int32)))] [])) (fun t k => XS.istoreN X0.here hx rfl (hb hby d22_47) rfl (l' := #[.val (.int ((((p0.toUInt32 >>> ((16 : Int32) &&& 31).toUInt32).toInt32).toUInt32 >>> ((8 : Int32) &&& 31).toUInt32).toInt32)), .val (.int (((31 : Int32) + (-16 : Int32)) + (-8 : Int32)))]) rfl k) ?_
        refine own_via (s₁.setTop (mkF m 49 #[.val (.int ((((p0.toUInt32 >>> ((16 : Int32) &&& 31).toUInt32).toInt32).toUInt32 >>> ((8 : Int32) &&& 31).toUInt32).toInt32)), .val (.int (((31 : Int32) + (-16 : Int32)) + (-8 : Int32)))] [(.int ((((p0.toUInt32 >>> ((16 : Int32) &&& 31).toUInt32).toInt32).toUInt32 >>> ((8 : Int32) &&& 31).toUInt32).toInt32))])) (fun t k => XS.iloadN X0.here hx rfl (hb hby d22_48) rfl  k) ?_
        refine own_via (s₁.setTop (mkF m 51 #[.val (.int ((((p0.toUInt32 >>> ((16 : Int32) &&& 31).toUInt32).toInt32).toUInt32 >>> ((8 : Int32) &&& 31).toUInt32).toInt32)), .val (.int (((31 : Int32) + (-16 : Int32)) + (-8 : Int32)))] [(.int (16 : Int32)), (.int ((((p0.toUInt32 >>> ((16 : Int32) &&& 31).toUInt32).toInt32).toUInt32 >>> ((8 : Int32) &&& 31).toUInt32).toInt32))])) (fun t k => XS.bipush X0.here hx rfl (hb hby d22_49) k) ?_
        by_cases hc51_257 : ((((p0.toUInt32 >>> ((16 : Int32) &&& 31).toUInt32).toInt32).toUInt32 >>> ((8 : Int32) &&& 31).toUInt32).toInt32) < (16 : Int32)
        · refine own_via (s₁.setTop (mkF m 61 #[.val (.int ((((p0.toUInt32 >>> ((16 : Int32) &&& 31).toUInt32).toInt32).toUInt32 >>> ((8 : Int32) &&& 31).toUInt32).toInt32)), .val (.int (((31 : Int32) + (-16 : Int32)) + (-8 : Int32)))] [])) (fun t k => XS.icmpYes X0.here hx rfl (pc0 := 51) (pc' := 61) rfl (hb hby d22_51) rfl (tlt hc51_257).1 (by decide) (by decide) k) ?_
          refine own_via (s₁.setTop (mkF m 62 #[.val (.int ((((p0.toUInt32 >>> ((16 : Int32) &&& 31).toUInt32).toInt32).toUInt32 >>> ((8 : Int32) &&& 31).toUInt32).toInt32)), .val (.int (((31 : Int32) + (-16 : Int32)) + (-8 : Int32)))] [(.int ((((p0.toUInt32 >>> ((16 : Int32) &&& 31).toUInt32).toInt32).toUInt32 >>> ((8 : Int32) &&& 31).toUInt32).toInt32))])) (fun t k => XS.iloadN X0.here hx rfl (hb hby d22_61) rfl  k) ?_
          refine own_via (s₁.setTop (mkF m 63 #[.val (.int ((((p0.toUInt32 >>> ((16 : Int32) &&& 31).toUInt32).toInt32).toUInt32 >>> ((8 : Int32) &&& 31).toUInt32).toInt32)), .val (.int (((31 : Int32) + (-16 : Int32)) + (-8 : Int32)))] [(.int (4 : Int32)), (.int ((((p0.toUInt32 >>> ((16 : Int32) &&& 31).toUInt32).toInt32).toUInt32 >>> ((8 : Int32) &&& 31).toUInt32).toInt32))])) (fun t k => XS.iconst X0.here hx rfl (hb hby d22_62) k) ?_
          by_cases hc63_258 : ((((p0.toUInt32 >>> ((16 : Int32) &&& 31).toUInt32).toInt32).toUInt32 >>> ((8 : Int32) &&& 31).toUInt32).toInt32) < (4 : Int32)
          · refine own_via (s₁.setTop (mkF m 73 #[.val (.int ((((p0.toUInt32 >>> ((16 : Int32) &&& 31).toUInt32).toInt32).toUInt32 >>> ((8 : Int32) &&& 31).toUInt32).toInt32)), .val (.int (((31 : Int32) + (-16 : Int32)) + (-8 : Int32)))] [])) (fun t k => XS.icmpYes X0.here hx rfl (pc0 := 63) (pc' := 73) rfl (hb hby d22_63) rfl (tlt hc63_258).1 (by decide) (by decide) k) ?_
            refine own_via (s₁.setTop (mkF m 74 #[.val (.int ((((p0.toUInt32 >>> ((16 : Int32) &&& 31).toUInt32).toInt32).toUInt32 >>> ((8 : Int32) &&& 31).toUInt32).toInt32)), .val (.int (((31 : Int32) + (-16 : Int32)) + (-8 : Int32)))] [(.int (((31 : Int32) + (-16 : Int32)) + (-8 : Int32)))])) (fun t k => XS.iloadN X0.here hx rfl (hb hby d22_73) rfl  k) ?_
            refine own_via (s₁.setTop (mkF m 75 #[.val (.int ((((p0.toUInt32 >>> ((16 : Int32) &&& 31).toUInt32).toInt32).toUInt32 >>> ((8 : Int32) &&& 31).toUInt32).toInt32)), .val (.int (((31 : Int32) + (-16 : Int32)) + (-8 : Int32)))] [(.int ((((p0.toUInt32 >>> ((16 : Int32) &&& 31).toUInt32).toInt32).toUInt32 >>> ((8 : Int32) &&& 31).toUInt32).toInt32)), (.int (((31 : Int32) + (-16 : Int32)) + (-8 : Int32)))])) (fun t k => XS.iloadN X0.here hx rfl (hb hby d22_74) rfl  k) ?_
            refine own_via (s₁.setTop (mkF m 76 #[.val (.int ((((p0.toUInt32 >>> ((16 : Int32) &&& 31).toUInt32).toInt32).toUInt32 >>> ((8 : Int32) &&& 31).toUInt32).toInt32)), .val (.int (((31 : Int32) + (-16 : Int32)) + (-8 : Int32)))] [(.int (1 : Int32)), (.int ((((p0.toUInt32 >>> ((16 : Int32) &&& 31).toUInt32).toInt32).toUInt32 >>> ((8 : Int32) &&& 31).toUInt32).toInt32)), (.int (((31 : Int32) + (-16 : Int32)) + (-8 : Int32)))])) (fun t k => XS.iconst X0.here hx rfl (hb hby d22_75) k) ?_
            refine own_via (s₁.setTop (mkF m 77 #[.val (.int ((((p0.toUInt32 >>> ((16 : Int32) &&& 31).toUInt32).toInt32).toUInt32 >>> ((8 : Int32) &&& 31).toUInt32).toInt32)), .val (.int (((31 : Int32) + (-16 : Int32)) + (-8 : Int32)))] [(.int ((((((p0.toUInt32 >>> ((16 : Int32) &&& 31).toUInt32).toInt32).toUInt32 >>> ((8 : Int32) &&& 31).toUInt32).toInt32).toUInt32 >>> ((1 : Int32) &&& 31).toUInt32).toInt32)), (.int (((31 : Int32) + (-16 : Int32)) + (-8 : Int32)))])) (fun t k => XS.iushr X0.here hx rfl (hb hby d22_76) rfl k) ?_
            refine own_via (s₁.setTop (mkF m 78 #[.val (.int ((((p0.toUInt32 >>> ((16 : Int32) &&& 31).toUInt32).toInt32).toUInt32 >>> ((8 : Int32) &&& 31).toUInt32).toInt32)), .val (.int (((31 : Int32) + (-16 : Int32)) + (-8 : Int32)))] [(.int ((((31 : Int32) + (-16 : Int32)) + (-8 : Int32)) - ((((((p0.toUInt32 >>> ((16 : Int32) &&& 31).toUInt32).toInt32).toUInt32 >>> ((8 : Int32) &&& 31).toUInt32).toInt32).toUInt32 >>> ((1 : Int32) &&& 31).toUInt32).toInt32)))])) (fun t k => XS.isub X0.here hx rfl (hb hby d22_77) rfl k) ?_
            refine own_leave X0 Bd.notSynchronized (v := some (.int ((((31 : Int32) + (-16 : Int32)) + (-8 : Int32)) - ((((((p0.toUInt32 >>> ((16 : Int32) &&& 31).toUInt32).toInt32).toUInt32 >>> ((8 : Int32) &&& 31).toUInt32).toInt32).toUInt32 >>> ((1 : Int32) &&& 31).toUInt32).toInt32)))) (fun h => by rw [Bd.returns] at h; cases h) (fun fs hr => retI X0 hx Bd.returns (hb hby d22_78) hr) ?_ (by decide) (by decide)
            refine ⟨?_, N0, e0⟩
            show some (Value.int _) = some (Value.int _); unfold own_f22; rw [if_pos hc1_244, if_neg hc22_245, if_neg hc37_253, if_pos hc51_257, if_pos hc63_258]
          · refine own_via (s₁.setTop (mkF m 66 #[.val (.int ((((p0.toUInt32 >>> ((16 : Int32) &&& 31).toUInt32).toInt32).toUInt32 >>> ((8 : Int32) &&& 31).toUInt32).toInt32)), .val (.int (((31 : Int32) + (-16 : Int32)) + (-8 : Int32)))] [])) (fun t k => XS.icmpNo X0.here hx rfl (hb hby d22_63) rfl (flt hc63_258).1 k) ?_
            refine own_via (s₁.setTop (mkF m 69 #[.val (.int ((((p0.toUInt32 >>> ((16 : Int32) &&& 31).toUInt32).toInt32).toUInt32 >>> ((8 : Int32) &&& 31).toUInt32).toInt32)), .val (.int ((((31 : Int32) + (-16 : Int32)) + (-8 : Int32)) + (-2 : Int32)))] [])) (fun t k => XS.iinc X0.here hx rfl (hb hby d22_66) rfl (l' := #[.val (.int ((((p0.toUInt32 >>> ((16 : Int32) &&& 31).toUInt32).toInt32).toUInt32 >>> ((8 : Int32) &&& 31).toUInt32).toInt32)), .val (.int ((((31 : Int32) + (-16 : Int32)) + (-8 : Int32)) + (-2 : Int32)))]) rfl k) ?_
            refine own_via (s₁.setTop (mkF m 70 #[.val (.int ((((p0.toUInt32 >>> ((16 : Int32) &&& 31).toUInt32).toInt32).toUInt32 >>> ((8 : Int32) &&& 31).toUInt32).toInt32)), .val (.int ((((31 : Int32) + (-16 : Int32)) + (-8 : Int32)) + (-2 : Int32)))] [(.int ((((p0.toUInt32 >>> ((16 : Int32) &&& 31).toUInt32).toInt32).toUInt32 >>> ((8 : Int32) &&& 31).toUInt32).toInt32))])) (fun t k => XS.iloadN X0.here hx rfl (hb hby d22_69) rfl  k) ?_
            refine own_via (s₁.setTop (mkF m 71 #[.val (.int ((((p0.toUInt32 >>> ((16 : Int32) &&& 31).toUInt32).toInt32).toUInt32 >>> ((8 : Int32) &&& 31).toUInt32).toInt32)), .val (.int ((((31 : Int32) + (-16 : Int32)) + (-8 : Int32)) + (-2 : Int32)))] [(.int (2 : Int32)), (.int ((((p0.toUInt32 >>> ((16 : Int32) &&& 31).toUInt32).toInt32).toUInt32 >>> ((8 : Int32) &&& 31).toUInt32).toInt32))])) (fun t k => XS.iconst X0.here hx rfl (hb hby d22_70) k) ?_
            refine own_via (s₁.setTop (mkF m 72 #[.val (.int ((((p0.toUInt32 >>> ((16 : Int32) &&& 31).toUInt32).toInt32).toUInt32 >>> ((8 : Int32) &&& 31).toUInt32).toInt32)), .val (.int ((((31 : Int32) + (-16 : Int32)) + (-8 : Int32)) + (-2 : Int32)))] [(.int ((((((p0.toUInt32 >>> ((16 : Int32) &&& 31).toUInt32).toInt32).toUInt32 >>> ((8 : Int32) &&& 31).toUInt32).toInt32).toUInt32 >>> ((2 : Int32) &&& 31).toUInt32).toInt32))])) (fun t k => XS.iushr X0.here hx rfl (hb hby d22_71) rfl k) ?_
            refine own_via (s₁.setTop (mkF m 73 #[.val (.int ((((((p0.toUInt32 >>> ((16 : Int32) &&& 31).toUInt32).toInt32).toUInt32 >>> ((8 : Int32) &&& 31).toUInt32).toInt32).toUInt32 >>> ((2 : Int32) &&& 31).toUInt32).toInt32)), .val (.int ((((31 : Int32) + (-16 : Int32)) + (-8 : Int32)) + (-2 : Int32)))] [])) (fun t k => XS.istoreN X0.here hx rfl (hb hby d22_72) rfl (l' := #[.val (.int ((((((p0.toUInt32 >>> ((16 : Int32) &&& 31).toUInt32).toInt32).toUInt32 >>> ((8 : Int32) &&& 31).toUInt32).toInt32).toUInt32 >>> ((2 : Int32) &&& 31).toUInt32).toInt32)), .val (.int ((((31 : Int32) + (-16 : Int32)) + (-8 : Int32)) + (-2 : Int32)))]) rfl k) ?_
            refine own_via (s₁.setTop (mkF m 74 #[.val (.int ((((((p0.toUInt32 >>> ((16 : Int32) &&& 31).toUInt32).toInt32).toUInt32 >>> ((8 : Int32) &&& 31).toUInt32).toInt32).toUInt32 >>> ((2 : Int32) &&& 31).toUInt32).toInt32)), .val (.int ((((31 : Int32) + (-16 : Int32)) + (-8 : Int32)) + (-2 : Int32)))] [(.int ((((31 : Int32) + (-16 : Int32)) + (-8 : Int32)) + (-2 : Int32)))])) (fun t k => XS.iloadN X0.here hx rfl (hb hby d22_73) rfl  k) ?_
            refine own_via (s₁.setTop (mkF m 75 #[.val (.int ((((((p0.toUInt32 >>> ((16 : Int32) &&& 31).toUInt32).toInt32).toUInt32 >>> ((8 : Int32) &&& 31).toUInt32).toInt32).toUInt32 >>> ((2 : Int32) &&& 31).toUInt32).toInt32)), .val (.int ((((31 : Int32) + (-16 : Int32)) + (-8 : Int32)) + (-2 : Int32)))] [(.int ((((((p0.toUInt32 >>> ((16 : Int32) &&& 31).toUInt32).toInt32).toUInt32 >>> ((8 : Int32) &&& 31).toUInt32).toInt32).toUInt32 >>> ((2 : Int32) &&& 31).toUInt32).toInt32)), (.int ((((31 : Int32) + (-16 : Int32)) + (-8 : Int32)) + (-2 : Int32)))])) (fun t k => XS.iloadN X0.here hx rfl (hb hby d22_74) rfl  k) ?_
            refine own_via (s₁.setTop (mkF m 76 #[.val (.int ((((((p0.toUInt32 >>> ((16 : Int32) &&& 31).toUInt32).toInt32).toUInt32 >>> ((8 : Int32) &&& 31).toUInt32).toInt32).toUInt32 >>> ((2 : Int32) &&& 31).toUInt32).toInt32)), .val (.int ((((31 : Int32) + (-16 : Int32)) + (-8 : Int32)) + (-2 : Int32)))] [(.int (1 : Int32)), (.int ((((((p0.toUInt32 >>> ((16 : Int32) &&& 31).toUInt32).toInt32).toUInt32 >>> ((8 : Int32) &&& 31).toUInt32).toInt32).toUInt32 >>> ((2 : Int32) &&& 31).toUInt32).toInt32)), (.int ((((31 : Int32) + (-16 : Int32)) + (-8 : Int32)) + (-2 : Int32)))])) (fun t k => XS.iconst X0.here hx rfl (hb hby d22_75) k) ?_
            refine own_via (s₁.setTop (mkF m 77 #[.val (.int ((((((p0.toUInt32 >>> ((16 : Int32) &&& 31).toUInt32).toInt32).toUInt32 >>> ((8 : Int32) &&& 31).toUInt32).toInt32).toUInt32 >>> ((2 : Int32) &&& 31).toUInt32).toInt32)), .val (.int ((((31 : Int32) + (-16 : Int32)) + (-8 : Int32)) + (-2 : Int32)))] [(.int ((((((((p0.toUInt32 >>> ((16 : Int32) &&& 31).toUInt32).toInt32).toUInt32 >>> ((8 : Int32) &&& 31).toUInt32).toInt32).toUInt32 >>> ((2 : Int32) &&& 31).toUInt32).toInt32).toUInt32 >>> ((1 : Int32) &&& 31).toUInt32).toInt32)), (.int ((((31 : Int32) + (-16 : Int32)) + (-8 : Int32)) + (-2 : Int32)))])) (fun t k => XS.iushr X0.here hx rfl (hb hby d22_76) rfl k) ?_
            refine own_via (s₁.setTop (mkF m 78 #[.val (.int ((((((p0.toUInt32 >>> ((16 : Int32) &&& 31).toUInt32).toInt32).toUInt32 >>> ((8 : Int32) &&& 31).toUInt32).toInt32).toUInt32 >>> ((2 : Int32) &&& 31).toUInt32).toInt32)), .val (.int ((((31 : Int32) + (-16 : Int32)) + (-8 : Int32)) + (-2 : Int32)))] [(.int (((((31 : Int32) + (-16 : Int32)) + (-8 : Int32)) + (-2 : Int32)) - ((((((((p0.toUInt32 >>> ((16 : Int32) &&& 31).toUInt32).toInt32).toUInt32 >>> ((8 : Int32) &&& 31).toUInt32).toInt32).toUInt32 >>> ((2 : Int32) &&& 31).toUInt32).toInt32).toUInt32 >>> ((1 : Int32) &&& 31).toUInt32).toInt32)))])) (fun t k => XS.isub X0.here hx rfl (hb hby d22_77) rfl k) ?_
            refine own_leave X0 Bd.notSynchronized (v := some (.int (((((31 : Int32) + (-16 : Int32)) + (-8 : Int32)) + (-2 : Int32)) - ((((((((p0.toUInt32 >>> ((16 : Int32) &&& 31).toUInt32).toInt32).toUInt32 >>> ((8 : Int32) &&& 31).toUInt32).toInt32).toUInt32 >>> ((2 : Int32) &&& 31).toUInt32).toInt32).toUInt32 >>> ((1 : Int32) &&& 31).toUInt32).toInt32)))) (fun h => by rw [Bd.returns] at h; cases h) (fun fs hr => retI X0 hx Bd.returns (hb hby d22_78) hr) ?_ (by decide) (by decide)
            refine ⟨?_, N0, e0⟩
            show some (Value.int _) = some (Value.int _); unfold own_f22; rw [if_pos hc1_244, if_neg hc22_245, if_neg hc37_253, if_pos hc51_257, if_neg hc63_258]
        · refine own_via (s₁.setTop (mkF m 54 #[.val (.int ((((p0.toUInt32 >>> ((16 : Int32) &&& 31).toUInt32).toInt32).toUInt32 >>> ((8 : Int32) &&& 31).toUInt32).toInt32)), .val (.int (((31 : Int32) + (-16 : Int32)) + (-8 : Int32)))] [])) (fun t k => XS.icmpNo X0.here hx rfl (hb hby d22_51) rfl (flt hc51_257).1 k) ?_
          refine own_via (s₁.setTop (mkF m 57 #[.val (.int ((((p0.toUInt32 >>> ((16 : Int32) &&& 31).toUInt32).toInt32).toUInt32 >>> ((8 : Int32) &&& 31).toUInt32).toInt32)), .val (.int ((((31 : Int32) + (-16 : Int32)) + (-8 : Int32)) + (-4 : Int32)))] [])) (fun t k => XS.iinc X0.here hx rfl (hb hby d22_54) rfl (l' := #[.val (.int ((((p0.toUInt32 >>> ((16 : Int32) &&& 31).toUInt32).toInt32).toUInt32 >>> ((8 : Int32) &&& 31).toUInt32).toInt32)), .val (.int ((((31 : Int32) + (-16 : Int32)) + (-8 : Int32)) + (-4 : Int32)))]) rfl k) ?_
          refine own_via (s₁.setTop (mkF m 58 #[.val (.int ((((p0.toUInt32 >>> ((16 : Int32) &&& 31).toUInt32).toInt32).toUInt32 >>> ((8 : Int32) &&& 31).toUInt32).toInt32)), .val (.int ((((31 : Int32) + (-16 : Int32)) + (-8 : Int32)) + (-4 : Int32)))] [(.int ((((p0.toUInt32 >>> ((16 : Int32) &&& 31).toUInt32).toInt32).toUInt32 >>> ((8 : Int32) &&& 31).toUInt32).toInt32))])) (fun t k => XS.iloadN X0.here hx rfl (hb hby d22_57) rfl  k) ?_
          refine own_via (s₁.setTop (mkF m 59 #[.val (.int ((((p0.toUInt32 >>> ((16 : Int32) &&& 31).toUInt32).toInt32).toUInt32 >>> ((8 : Int32) &&& 31).toUInt32).toInt32)), .val (.int ((((31 : Int32) + (-16 : Int32)) + (-8 : Int32)) + (-4 : Int32)))] [(.int (4 : Int32)), (.int ((((p0.toUInt32 >>> ((16 : Int32) &&& 31).toUInt32).toInt32).toUInt32 >>> ((8 : Int32) &&& 31).toUInt32).toInt32))])) (fun t k => XS.iconst X0.here hx rfl (hb hby d22_58) k) ?_
          refine own_via (s₁.setTop (mkF m 60 #[.val (.int ((((p0.toUInt32 >>> ((16 : Int32) &&& 31).toUInt32).toInt32).toUInt32 >>> ((8 : Int32) &&& 31).toUInt32).toInt32)), .val (.int ((((31 : Int32) + (-16 : Int32)) + (-8 : Int32)) + (-4 : Int32)))] [(.int ((((((p0.toUInt32 >>> ((16 : Int32) &&& 31).toUInt32).toInt32).toUInt32 >>> ((8 : Int32) &&& 31).toUInt32).toInt32).toUInt32 >>> ((4 : Int32) &&& 31).toUInt32).toInt32))])) (fun t k => XS.iushr X0.here hx rfl (hb hby d22_59) rfl k) ?_
          refine own_via (s₁.setTop (mkF m 61 #[.val (.int ((((((p0.toUInt32 >>> ((16 : Int32) &&& 31).toUInt32).toInt32).toUInt32 >>> ((8 : Int32) &&& 31).toUInt32).toInt32).toUInt32 >>> ((4 : Int32) &&& 31).toUInt32).toInt32)), .val (.int ((((31 : Int32) + (-16 : Int32)) + (-8 : Int32)) + (-4 : Int32)))] [])) (fun t k => XS.istoreN X0.here hx rfl (hb hby d22_60) rfl (l' := #[.val (.int ((((((p0.toUInt32 >>> ((16 : Int32) &&& 31).toUInt32).toInt32).toUInt32 >>> ((8 : Int32) &&& 31).toUInt32).toInt32).toUInt32 >>> ((4 : Int32) &&& 31).toUInt32).toInt32)), .val (.int ((((31 : Int32) + (-16 : Int32)) + (-8 : Int32)) + (-4 : Int32)))]) rfl k) ?_
          refine own_via (s₁.setTop (mkF m 62 #[.val (.int ((((((p0.toUInt32 >>> ((16 : Int32) &&& 31).toUInt32).toInt32).toUInt32 >>> ((8 : Int32) &&& 31).toUInt32).toInt32).toUInt32 >>> ((4 : Int32) &&& 31).toUInt32).toInt32)), .val (.int ((((31 : Int32) + (-16 : Int32)) + (-8 : Int32)) + (-4 : Int32)))] [(.int ((((((p0.toUInt32 >>> ((16 : Int32) &&& 31).toUInt32).toInt32).toUInt32 >>> ((8 : Int32) &&& 31).toUInt32).toInt32).toUInt32 >>> ((4 : Int32) &&& 31).toUInt32).toInt32))])) (fun t k => XS.iloadN X0.here hx rfl (hb hby d22_61) rfl  k) ?_
          refine own_via (s₁.setTop (mkF m 63 #[.val (.int ((((((p0.toUInt32 >>> ((16 : Int32) &&& 31).toUInt32).toInt32).toUInt32 >>> ((8 : Int32) &&& 31).toUInt32).toInt32).toUInt32 >>> ((4 : Int32) &&& 31).toUInt32).toInt32)), .val (.int ((((31 : Int32) + (-16 : Int32)) + (-8 : Int32)) + (-4 : Int32)))] [(.int (4 : Int32)), (.int ((((((p0.toUInt32 >>> ((16 : Int32) &&& 31).toUInt32).toInt32).toUInt32 >>> ((8 : Int32) &&& 31).toUInt32).toInt32).toUInt32 >>> ((4 : Int32) &&& 31).toUInt32).toInt32))])) (fun t k => XS.iconst X0.here hx rfl (hb hby d22_62) k) ?_
          by_cases hc63_259 : ((((((p0.toUInt32 >>> ((16 : Int32) &&& 31).toUInt32).toInt32).toUInt32 >>> ((8 : Int32) &&& 31).toUInt32).toInt32).toUInt32 >>> ((4 : Int32) &&& 31).toUInt32).toInt32) < (4 : Int32)
          · refine own_via (s₁.setTop (mkF m 73 #[.val (.int ((((((p0.toUInt32 >>> ((16 : Int32) &&& 31).toUInt32).toInt32).toUInt32 >>> ((8 : Int32) &&& 31).toUInt32).toInt32).toUInt32 >>> ((4 : Int32) &&& 31).toUInt32).toInt32)), .val (.int ((((31 : Int32) + (-16 : Int32)) + (-8 : Int32)) + (-4 : Int32)))] [])) (fun t k => XS.icmpYes X0.here hx rfl (pc0 := 63) (pc' := 73) rfl (hb hby d22_63) rfl (tlt hc63_259).1 (by decide) (by decide) k) ?_
            refine own_via (s₁.setTop (mkF m 74 #[.val (.int ((((((p0.toUInt32 >>> ((16 : Int32) &&& 31).toUInt32).toInt32).toUInt32 >>> ((8 : Int32) &&& 31).toUInt32).toInt32).toUInt32 >>> ((4 : Int32) &&& 31).toUInt32).toInt32)), .val (.int ((((31 : Int32) + (-16 : Int32)) + (-8 : Int32)) + (-4 : Int32)))] [(.int ((((31 : Int32) + (-16 : Int32)) + (-8 : Int32)) + (-4 : Int32)))])) (fun t k => XS.iloadN X0.here hx rfl (hb hby d22_73) rfl  k) ?_
            refine own_via (s₁.setTop (mkF m 75 #[.val (.int ((((((p0.toUInt32 >>> ((16 : Int32) &&& 31).toUInt32).toInt32).toUInt32 >>> ((8 : Int32) &&& 31).toUInt32).toInt32).toUInt32 >>> ((4 : Int32) &&& 31).toUInt32).toInt32)), .val (.int ((((31 : Int32) + (-16 : Int32)) + (-8 : Int32)) + (-4 : Int32)))] [(.int ((((((p0.toUInt32 >>> ((16 : Int32) &&& 31).toUInt32).toInt32).toUInt32 >>> ((8 : Int32) &&& 31).toUInt32).toInt32).toUInt32 >>> ((4 : Int32) &&& 31).toUInt32).toInt32)), (.int ((((31 : Int32) + (-16 : Int32)) + (-8 : Int32)) + (-4 : Int32)))])) (fun t k => XS.iloadN X0.here hx rfl (hb hby d22_74) rfl  k) ?_
            refine own_via (s₁.setTop (mkF m 76 #[.val (.int ((((((p0.toUInt32 >>> ((16 : Int32) &&& 31).toUInt32).toInt32).toUInt32 >>> ((8 : Int32) &&& 31).toUInt32).toInt32).toUInt32 >>> ((4 : Int32) &&& 31).toUInt32).toInt32)), .val (.int ((((31 : Int32) + (-16 : Int32)) + (-8 : Int32)) + (-4 : Int32)))] [(.int (1 : Int32)), (.int ((((((p0.toUInt32 >>> ((16 : Int32) &&& 31).toUInt32).toInt32).toUInt32 >>> ((8 : Int32) &&& 31).toUInt32).toInt32).toUInt32 >>> ((4 : Int32) &&& 31).toUInt32).toInt32)), (.int ((((31 : Int32) + (-16 : Int32)) + (-8 : Int32)) + (-4 : Int32)))])) (fun t k => XS.iconst X0.here hx rfl (hb hby d22_75) k) ?_
            refine own_via (s₁.setTop (mkF m 77 #[.val (.int ((((((p0.toUInt32 >>> ((16 : Int32) &&& 31).toUInt32).toInt32).toUInt32 >>> ((8 : Int32) &&& 31).toUInt32).toInt32).toUInt32 >>> ((4 : Int32) &&& 31).toUInt32).toInt32)), .val (.int ((((31 : Int32) + (-16 : Int32)) + (-8 : Int32)) + (-4 : Int32)))] [(.int ((((((((p0.toUInt32 >>> ((16 : Int32) &&& 31).toUInt32).toInt32).toUInt32 >>> ((8 : Int32) &&& 31).toUInt32).toInt32).toUInt32 >>> ((4 : Int32) &&& 31).toUInt32).toInt32).toUInt32 >>> ((1 : Int32) &&& 31).toUInt32).toInt32)), (.int ((((31 : Int32) + (-16 : Int32)) + (-8 : Int32)) + (-4 : Int32)))])) (fun t k => XS.iushr X0.here hx rfl (hb hby d22_76) rfl k) ?_
            refine own_via (s₁.setTop (mkF m 78 #[.val (.int ((((((p0.toUInt32 >>> ((16 : Int32) &&& 31).toUInt32).toInt32).toUInt32 >>> ((8 : Int32) &&& 31).toUInt32).toInt32).toUInt32 >>> ((4 : Int32) &&& 31).toUInt32).toInt32)), .val (.int ((((31 : Int32) + (-16 : Int32)) + (-8 : Int32)) + (-4 : Int32)))] [(.int (((((31 : Int32) + (-16 : Int32)) + (-8 : Int32)) + (-4 : Int32)) - ((((((((p0.toUInt32 >>> ((16 : Int32) &&& 31).toUInt32).toInt32).toUInt32 >>> ((8 : Int32) &&& 31).toUInt32).toInt32).toUInt32 >>> ((4 : Int32) &&& 31).toUInt32).toInt32).toUInt32 >>> ((1 : Int32) &&& 31).toUInt32).toInt32)))])) (fun t k => XS.isub X0.here hx rfl (hb hby d22_77) rfl k) ?_
            refine own_leave X0 Bd.notSynchronized (v := some (.int (((((31 : Int32) + (-16 : Int32)) + (-8 : Int32)) + (-4 : Int32)) - ((((((((p0.toUInt32 >>> ((16 : Int32) &&& 31).toUInt32).toInt32).toUInt32 >>> ((8 : Int32) &&& 31).toUInt32).toInt32).toUInt32 >>> ((4 : Int32) &&& 31).toUInt32).toInt32).toUInt32 >>> ((1 : Int32) &&& 31).toUInt32).toInt32)))) (fun h => by rw [Bd.returns] at h; cases h) (fun fs hr => retI X0 hx Bd.returns (hb hby d22_78) hr) ?_ (by decide) (by decide)
            refine ⟨?_, N0, e0⟩
            show some (Value.int _) = some (Value.int _); unfold own_f22; rw [if_pos hc1_244, if_neg hc22_245, if_neg hc37_253, if_neg hc51_257, if_pos hc63_259]
          · refine own_via (s₁.setTop (mkF m 66 #[.val (.int ((((((p0.toUInt32 >>> ((16 : Int32) &&& 31).toUInt32).toInt32).toUInt32 >>> ((8 : Int32) &&& 31).toUInt32).toInt32).toUInt32 >>> ((4 : Int32) &&& 31).toUInt32).toInt32)), .val (.int ((((31 : Int32) + (-16 : Int32)) + (-8 : Int32)) + (-4 : Int32)))] [])) (fun t k => XS.icmpNo X0.here hx rfl (hb hby d22_63) rfl (flt hc63_259).1 k) ?_
            refine own_via (s₁.setTop (mkF m 69 #[.val (.int ((((((p0.toUInt32 >>> ((16 : Int32) &&& 31).toUInt32).toInt32).toUInt32 >>> ((8 : Int32) &&& 31).toUInt32).toInt32).toUInt32 >>> ((4 : Int32) &&& 31).toUInt32).toInt32)), .val (.int (((((31 : Int32) + (-16 : Int32)) + (-8 : Int32)) + (-4 : Int32)) + (-2 : Int32)))] [])) (fun t k => XS.iinc X0.here hx rfl (hb hby d22_66) rfl (l' := #[.val (.int ((((((p0.toUInt32 >>> ((16 : Int32) &&& 31).toUInt32).toInt32).toUInt32 >>> ((8 : Int32) &&& 31).toUInt32).toInt32).toUInt32 >>> ((4 : Int32) &&& 31).toUInt32).toInt32)), .val (.int (((((31 : Int32) + (-16 : Int32)) + (-8 : Int32)) + (-4 : Int32)) + (-2 : Int32)))]) rfl k) ?_
            refine own_via (s₁.setTop (mkF m 70 #[.val (.int ((((((p0.toUInt32 >>> ((16 : Int32) &&& 31).toUInt32).toInt32).toUInt32 >>> ((8 : Int32) &&& 31).toUInt32).toInt32).toUInt32 >>> ((4 : Int32) &&& 31).toUInt32).toInt32)), .val (.int (((((31 : Int32) + (-16 : Int32)) + (-8 : Int32)) + (-4 : Int32)) + (-2 : Int32)))] [(.int ((((((p0.toUInt32 >>> ((16 : Int32) &&& 31).toUInt32).toInt32).toUInt32 >>> ((8 : Int32) &&& 31).toUInt32).toInt32).toUInt32 >>> ((4 : Int32) &&& 31).toUInt32).toInt32))])) (fun t k => XS.iloadN X0.here hx rfl (hb hby d22_69) rfl  k) ?_
            refine own_via (s₁.setTop (mkF m 71 #[.val (.int ((((((p0.toUInt32 >>> ((16 : Int32) &&& 31).toUInt32).toInt32).toUInt32 >>> ((8 : Int32) &&& 31).toUInt32).toInt32).toUInt32 >>> ((4 : Int32) &&& 31).toUInt32).toInt32)), .val (.int (((((31 : Int32) + (-16 : Int32)) + (-8 : Int32)) + (-4 : Int32)) + (-2 : Int32)))] [(.int (2 : Int32)), (.int ((((((p0.toUInt32 >>> ((16 : Int32) &&& 31).toUInt32).toInt32).toUInt32 >>> ((8 : Int32) &&& 31).toUInt32).toInt32).toUInt32 >>> ((4 : Int32) &&& 31).toUInt32).toInt32))])) (fun t k => XS.iconst X0.here hx rfl (hb hby d22_70) k) ?_
            refine own_via (s₁.setTop (mkF m 72 #[.val (.int ((((((p0.toUInt32 >>> ((16 : Int32) &&& 31).toUInt32).toInt32).toUInt32 >>> ((8 : Int32) &&& 31).toUInt32).toInt32).toUInt32 >>> ((4 : Int32) &&& 31).toUInt32).toInt32)), .val (.int (((((31 : Int32) + (-16 : Int32)) + (-8 : Int32)) + (-4 : Int32)) + (-2 : Int32)))] [(.int ((((((((p0.toUInt32 >>> ((16 : Int32) &&& 31).toUInt32).toInt32).toUInt32 >>> ((8 : Int32) &&& 31).toUInt32).toInt32).toUInt32 >>> ((4 : Int32) &&& 31).toUInt32).toInt32).toUInt32 >>> ((2 : Int32) &&& 31).toUInt32).toInt32))])) (fun t k => XS.iushr X0.here hx rfl (hb hby d22_71) rfl k) ?_
            refine own_via (s₁.setTop (mkF m 73 #[.val (.int ((((((((p0.toUInt32 >>> ((16 : Int32) &&& 31).toUInt32).toInt32).toUInt32 >>> ((8 : Int32) &&& 31).toUInt32).toInt32).toUInt32 >>> ((4 : Int32) &&& 31).toUInt32).toInt32).toUInt32 >>> ((2 : Int32) &&& 31).toUInt32).toInt32)), .val (.int (((((31 : Int32) + (-16 : Int32)) + (-8 : Int32)) + (-4 : Int32)) + (-2 : Int32)))] [])) (fun t k => XS.istoreN X0.here hx rfl (hb hby d22_72) rfl (l' := #[.val (.int ((((((((p0.toUInt32 >>> ((16 : Int32) &&& 31).toUInt32).toInt32).toUInt32 >>> ((8 : Int32) &&& 31).toUInt32).toInt32).toUInt32 >>> ((4 : Int32) &&& 31).toUInt32).toInt32).toUInt32 >>> ((2 : Int32) &&& 31).toUInt32).toInt32)), .val (.int (((((31 : Int32) + (-16 : Int32)) + (-8 : Int32)) + (-4 : Int32)) + (-2 : Int32)))]) rfl k) ?_
            refine own_via (s₁.setTop (mkF m 74 #[.val (.int ((((((((p0.toUInt32 >>> ((16 : Int32) &&& 31).toUInt32).toInt32).toUInt32 >>> ((8 : Int32) &&& 31).toUInt32).toInt32).toUInt32 >>> ((4 : Int32) &&& 31).toUInt32).toInt32).toUInt32 >>> ((2 : Int32) &&& 31).toUInt32).toInt32)), .val (.int (((((31 : Int32) + (-16 : Int32)) + (-8 : Int32)) + (-4 : Int32)) + (-2 : Int32)))] [(.int (((((31 : Int32) + (-16 : Int32)) + (-8 : Int32)) + (-4 : Int32)) + (-2 : Int32)))])) (fun t k => XS.iloadN X0.here hx rfl (hb hby d22_73) rfl  k) ?_
            refine own_via (s₁.setTop (mkF m 75 #[.val (.int ((((((((p0.toUInt32 >>> ((16 : Int32) &&& 31).toUInt32).toInt32).toUInt32 >>> ((8 : Int32) &&& 31).toUInt32).toInt32).toUInt32 >>> ((4 : Int32) &&& 31).toUInt32).toInt32).toUInt32 >>> ((2 : Int32) &&& 31).toUInt32).toInt32)), .val (.int (((((31 : Int32) + (-16 : Int32)) + (-8 : Int32)) + (-4 : Int32)) + (-2 : Int32)))] [(.int ((((((((p0.toUInt32 >>> ((16 : Int32) &&& 31).toUInt32).toInt32).toUInt32 >>> ((8 : Int32) &&& 31).toUInt32).toInt32).toUInt32 >>> ((4 : Int32) &&& 31).toUInt32).toInt32).toUInt32 >>> ((2 : Int32) &&& 31).toUInt32).toInt32)), (.int (((((31 : Int32) + (-16 : Int32)) + (-8 : Int32)) + (-4 : Int32)) + (-2 : Int32)))])) (fun t k => XS.iloadN X0.here hx rfl (hb hby d22_74) rfl  k) ?_
            refine own_via (s₁.setTop (mkF m 76 #[.val (.int ((((((((p0.toUInt32 >>> ((16 : Int32) &&& 31).toUInt32).toInt32).toUInt32 >>> ((8 : Int32) &&& 31).toUInt32).toInt32).toUInt32 >>> ((4 : Int32) &&& 31).toUInt32).toInt32).toUInt32 >>> ((2 : Int32) &&& 31).toUInt32).toInt32)), .val (.int (((((31 : Int32) + (-16 : Int32)) + (-8 : Int32)) + (-4 : Int32)) + (-2 : Int32)))] [(.int (1 : Int32)), (.int ((((((((p0.toUInt32 >>> ((16 : Int32) &&& 31).toUInt32).toInt32).toUInt32 >>> ((8 : Int32) &&& 31).toUInt32).toInt32).toUInt32 >>> ((4 : Int32) &&& 31).toUInt32).toInt32).toUInt32 >>> ((2 : Int32) &&& 31).toUInt32).toInt32)), (.int (((((31 : Int32) + (-16 : Int32)) + (-8 : Int32)) + (-4 : Int32)) + (-2 : Int32)))])) (fun t k => XS.iconst X0.here hx rfl (hb hby d22_75) k) ?_
            refine own_via (s₁.setTop (mkF m 77 #[.val (.int ((((((((p0.toUInt32 >>> ((16 : Int32) &&& 31).toUInt32).toInt32).toUInt32 >>> ((8 : Int32) &&& 31).toUInt32).toInt32).toUInt32 >>> ((4 : Int32) &&& 31).toUInt32).toInt32).toUInt32 >>> ((2 : Int32) &&& 31).toUInt32).toInt32)), .val (.int (((((31 : Int32) + (-16 : Int32)) + (-8 : Int32)) + (-4 : Int32)) + (-2 : Int32)))] [(.int ((((((((((p0.toUInt32 >>> ((16 : Int32) &&& 31).toUInt32).toInt32).toUInt32 >>> ((8 : Int32) &&& 31).toUInt32).toInt32).toUInt32 >>> ((4 : Int32) &&& 31).toUInt32).toInt32).toUInt32 >>> ((2 : Int32) &&& 31).toUInt32).toInt32).toUInt32 >>> ((1 : Int32) &&& 31).toUInt32).toInt32)), (.int (((((31 : Int32) + (-16 : Int32)) + (-8 : Int32)) + (-4 : Int32)) + (-2 : Int32)))])) (fun t k => XS.iushr X0.here hx rfl (hb hby d22_76) rfl k) ?_
            refine own_via (s₁.setTop (mkF m 78 #[.val (.int ((((((((p0.toUInt32 >>> ((16 : Int32) &&& 31).toUInt32).toInt32).toUInt32 >>> ((8 : Int32) &&& 31).toUInt32).toInt32).toUInt32 >>> ((4 : Int32) &&& 31).toUInt32).toInt32).toUInt32 >>> ((2 : Int32) &&& 31).toUInt32).toInt32)), .val (.int (((((31 : Int32) + (-16 : Int32)) + (-8 : Int32)) + (-4 : Int32)) + (-2 : Int32)))] [(.int ((((((31 : Int32) + (-16 : Int32)) + (-8 : Int32)) + (-4 : Int32)) + (-2 : Int32)) - ((((((((((p0.toUInt32 >>> ((16 : Int32) &&& 31).toUInt32).toInt32).toUInt32 >>> ((8 : Int32) &&& 31).toUInt32).toInt32).toUInt32 >>> ((4 : Int32) &&& 31).toUInt32).toInt32).toUInt32 >>> ((2 : Int32) &&& 31).toUInt32).toInt32).toUInt32 >>> ((1 : Int32) &&& 31).toUInt32).toInt32)))])) (fun t k => XS.isub X0.here hx rfl (hb hby d22_77) rfl k) ?_
            refine own_leave X0 Bd.notSynchronized (v := some (.int ((((((31 : Int32) + (-16 : Int32)) + (-8 : Int32)) + (-4 : Int32)) + (-2 : Int32)) - ((((((((((p0.toUInt32 >>> ((16 : Int32) &&& 31).toUInt32).toInt32).toUInt32 >>> ((8 : Int32) &&& 31).toUInt32).toInt32).toUInt32 >>> ((4 : Int32) &&& 31).toUInt32).toInt32).toUInt32 >>> ((2 : Int32) &&& 31).toUInt32).toInt32).toUInt32 >>> ((1 : Int32) &&& 31).toUInt32).toInt32)))) (fun h => by rw [Bd.returns] at h; cases h) (fun fs hr => retI X0 hx Bd.returns (hb hby d22_78) hr) ?_ (by decide) (by decide)
            refine ⟨?_, N0, e0⟩
            show some (Value.int _) = some (Value.int _); unfold own_f22; rw [if_pos hc1_244, if_neg hc22_245, if_neg hc37_253, if_neg hc51_257, if_neg hc63_259]
  · refine own_via (s₁.setTop (mkF m 4 #[.val (.int p0), .unset] [])) (fun t k => XS.ifNo X0.here hx rfl (hb hby d22_1) rfl ((if0 _ _).trans (flt hc1_244).2.2.1) k) ?_
    refine own_via (s₁.setTop (mkF m 5 #[.val (.int p0), .unset] [(.int p0)])) (fun t k => XS.iloadN X0.here hx rfl (hb hby d22_4) rfl  k) ?_
    by_cases hc5_260 : p0 = (0 : Int32)
    · refine own_via (s₁.setTop (mkF m 8 #[.val (.int p0), .unset] [])) (fun t k => XS.ifNo X0.here hx rfl (hb hby d22_5) rfl ((if0 _ _).trans (teq hc5_260).2) k) ?_
      refine own_via (s₁.setTop (mkF m 10 #[.val (.int p0), .unset] [(.int (32 : Int32))])) (fun t k => XS.bipush X0.here hx rfl (hb hby d22_8) k) ?_
      refine own_via (s₁.setTop (mkF m 14 #[.val (.int p0), .unset] [(.int (32 : Int32))])) (fun t k => XS.goto X0.here hx rfl (pc0 := 10) (pc' := 14) rfl (hb hby d22_10) (by decide) (by decide) k) ?_
      refine own_leave X0 Bd.notSynchronized (v := some (.int (32 : Int32))) (fun h => by rw [Bd.returns] at h; cases h) (fun fs hr => retI X0 hx Bd.returns (hb hby d22_14) hr) ?_ (by decide) (by decide)
      refine ⟨?_, N0, e0⟩
      show some (Value.int _) = some (Value.int _); unfold own_f22; rw [if_neg hc1_244, if_pos hc5_260]
    · refine own_via (s₁.setTop (mkF m 13 #[.val (.int p0), .unset] [])) (fun t k => XS.ifYes X0.here hx rfl (pc0 := 5) (pc' := 13) rfl (hb hby d22_5) rfl ((if0 _ _).trans (feq hc5_260).2) (by decide) (by decide) k) ?_
      refine own_via (s₁.setTop (mkF m 14 #[.val (.int p0), .unset] [(.int (0 : Int32))])) (fun t k => XS.iconst X0.here hx rfl (hb hby d22_13) k) ?_
      refine own_leave X0 Bd.notSynchronized (v := some (.int (0 : Int32))) (fun h => by rw [Bd.returns] at h; cases h) (fun fs hr => retI X0 hx Bd.returns (hb hby d22_14) hr) ?_ (by decide) (by decide)
      refine ⟨?_, N0, e0⟩
      show some (Value.int _) = some (Value.int _); unfold own_f22; rw [if_neg hc1_244, if_neg hc5_260]
def own_f21 (p0 : Int32) : Int32 := (if (((-1 : Int32).toUInt32 >>> ((own_f22 (p0 - (1 : Int32))) &&& 31).toUInt32).toInt32) < (0 : Int32) then (1 : Int32) else (if (((-1 : Int32).toUInt32 >>> ((own_f22 (p0 - (1 : Int32))) &&& 31).toUInt32).toInt32) < (1073741824 : Int32) then ((((-1 : Int32).toUInt32 >>> ((own_f22 (p0 - (1 : Int32))) &&& 31).toUInt32).toInt32) + (1 : Int32)) else (1073741824 : Int32)))
theorem d21_0 : decode jdk_69_method_4_code 0 = .ok (.iconst (-1), 1) := by decide +kernel
theorem d21_1 : decode jdk_69_method_4_code 1 = .ok (.iload_n 0, 1) := by decide +kernel
theorem d21_2 : decode jdk_69_method_4_code 2 = .ok (.iconst 1, 1) := by decide +kernel
theorem d21_3 : decode jdk_69_method_4_code 3 = .ok (.isub, 1) := by decide +kernel
theorem d21_4 : decode jdk_69_method_4_code 4 = .ok (.invokestatic 34, 3) := by decide +kernel
theorem d21_7 : decode jdk_69_method_4_code 7 = .ok (.iushr, 1) := by decide +kernel
theorem d21_8 : decode jdk_69_method_4_code 8 = .ok (.istore_n 1, 1) := by decide +kernel
theorem d21_9 : decode jdk_69_method_4_code 9 = .ok (.iload_n 1, 1) := by decide +kernel
theorem d21_10 : decode jdk_69_method_4_code 10 = .ok (.ifCond .ge 7, 3) := by decide +kernel
theorem d21_13 : decode jdk_69_method_4_code 13 = .ok (.iconst 1, 1) := by decide +kernel
theorem d21_14 : decode jdk_69_method_4_code 14 = .ok (.goto 17, 3) := by decide +kernel
theorem d21_17 : decode jdk_69_method_4_code 17 = .ok (.iload_n 1, 1) := by decide +kernel
theorem d21_18 : decode jdk_69_method_4_code 18 = .ok (.ldc 42, 2) := by decide +kernel
theorem d21_20 : decode jdk_69_method_4_code 20 = .ok (.if_icmp .lt 8, 3) := by decide +kernel
theorem d21_23 : decode jdk_69_method_4_code 23 = .ok (.ldc 42, 2) := by decide +kernel
theorem d21_25 : decode jdk_69_method_4_code 25 = .ok (.goto 6, 3) := by decide +kernel
theorem d21_28 : decode jdk_69_method_4_code 28 = .ok (.iload_n 1, 1) := by decide +kernel
theorem d21_29 : decode jdk_69_method_4_code 29 = .ok (.iconst 1, 1) := by decide +kernel
theorem d21_30 : decode jdk_69_method_4_code 30 = .ok (.iadd, 1) := by decide +kernel
theorem d21_31 : decode jdk_69_method_4_code 31 = .ok (.ireturn, 1) := by decide +kernel
theorem pd_7 : parseMethodDescriptor "(I)I" = some ⟨[.int], some .int⟩ := by decide +kernel
theorem ef_21 (m : MethodId) (p0 : Int32) : entryFrame m #[(.int p0)] 2 = mkF m 0 #[.val (.int p0), .unset] [] := by first | (simp [entryFrame, mkF, argsToLocals, Value.category]; done) | rfl
set_option maxRecDepth 65536 in
set_option maxHeartbeats 40000000 in
theorem rm21 (l : Launch) (Z : State) (a0 : Array Value) (hw : ∀ d ∈ tables_1, d.before a0 Z = true) (ws : List Jvm.Cond) (p0 : Int32) (h0 : Heap) (n0 : Nat) (Z0 : n0 ≤ h0.size)  :
    MetFree l (⟨"java/util/HashMap", "tableSizeFor", "(I)I"⟩ : MethodName) (head1 (Jvm.Cond.code (⟨"java/util/HashMap", "tableSizeFor", "(I)I"⟩ : MethodName) jdk_69_method_4_code 2 (some .int) :: ws) ({ frames := 1, cells := 0, slots := 0, locals := 14 } : Room)) (fun a U => a = #[(.int p0)] ∧ Z.Warmed39 U.vm ∧ U.heap = h0) (fun _ _ _ _ _ => True) (fun _ U o U' => ∃ v L, o = .returned v ∧ (own_Q (some (.int (own_f21 p0))) h0 n0) v U'.heap L ∧ FrameEnd U o U' L ({ frames := 1, cells := 0, slots := 0, locals := 14 } : Room).cells ({ frames := 1, cells := 0, slots := 0, locals := 14 } : Room).slots) := by
  refine MetFree.of_bodySF (plainFor_of_name pn_java_util_HashMap) hisR ?_
  intro p e s m args below meth c s₁ Bd hml0 hP hK
  obtain ⟨rfl, hZ, hh⟩ := hP
  have hx := Bd.exec
  have hby := Bd.bytes
  have hml : c.maxLocals = 2 := hml0
  have hown : s.vm.findClass "java/util/HashMap" = some m.cls := findClass_of_methodNamed Bd.named
  have hnm := (name_of_methodNamed Bd.named Bd.method).1
  have X0 : Stand p l e ({ frames := 1, cells := 0, slots := 0, locals := 14 } : Room) s m #[(.int p0)] below meth c s₁ [] 0 0 := Stand.of_body Bd
  have e0 : s₁.heap = h0 := by rw [← hh, Bd.state]; rfl
  have N0 := Fr.nil n0
  refine own_body (QQ := (own_Q (some (.int (own_f21 p0))) h0 n0)) (ef_21 m p0) ?_
  refine own_via (s₁.setTop (mkF m 1 #[.val (.int p0), .unset] [(.int (-1 : Int32))])) (fun t k => XS.iconst X0.here hx rfl (hb hby d21_0) k) ?_
  refine own_via (s₁.setTop (mkF m 2 #[.val (.int p0), .unset] [(.int p0), (.int (-1 : Int32))])) (fun t k => XS.iloadN X0.here hx rfl (hb hby d21_1) rfl  k) ?_
  refine own_via (s₁.setTop (mkF m 3 #[.val (.int p0), .unset] [(.int (1 : Int32)), (.int p0), (.int (-1 : Int32))])) (fun t k => XS.iconst X0.here hx rfl (hb hby d21_2) k) ?_
  refine own_via (s₁.setTop (mkF m 4 #[.val (.int p0), .unset] [(.int (p0 - (1 : Int32))), (.int (-1 : Int32))])) (fun t k => XS.isub X0.here hx rfl (hb hby d21_3) rfl k) ?_
  obtain ⟨_, _, ⟨T264, L264, k264, n264⟩, -, X264, ⟨Lc264, hQ264, l264, y264, z264⟩, st264⟩ := Jvm.LawKit.callS X0 hx (y := (⟨"java/lang/Integer", "numberOfLeadingZeros", "(I)I"⟩ : MethodName)) hown (mvT hZ (hw _ (List.mem_of_getElem? (i := 161) rfl))) (mvT hZ (hw _ (List.mem_of_getElem? (i := 162) rfl))) (mvT hZ (hw _ (List.mem_of_getElem? (i := 163) rfl))) (mvT hZ (hw _ (List.mem_of_getElem? (i := 164) rfl))) (by decide) (backOf (W := 1) (rm22 l Z a0 hw [] (p0 - (1 : Int32)) h0 n0 Z0) hZ (hw _ (List.mem_of_getElem? (i := 164) rfl)) (hw _ (List.mem_of_getElem? (i := 163) rfl)) (by decide) (by decide)) (g := (mkF m 4 #[.val (.int p0), .unset] [(.int (p0 - (1 : Int32))), (.int (-1 : Int32))])) rfl (by rw [hml]; rfl) (argsL := [(.int (p0 - (1 : Int32)))]) (rest := [(.int (-1 : Int32))]) (lenOf pd_7 rfl) rfl (by show 2 * 0 + _ ≤ _; exact Nat.le_of_eq rfl) (hb hby d21_4) (fun _ _ => ⟨rfl, e0, (by decide : 0 + 0 ≤ _), (by decide : 0 + 0 ≤ _)⟩)
  dsimp only [Pt.U, Pt.locs, Pt.cells, Pt.slots] at X264 l264 y264 z264 st264 hQ264
  rw [y264, z264] at X264
  have X264 : Stand _ _ _ _ _ _ _ _ _ _ T264 L264 0 0 := X264
  obtain ⟨rfl, N264q, e264⟩ := hQ264
  have N264 : Fr n0 L264 := by rw [l264]; exact Fr.app N0 N264q
  refine own_via (T264.setTop (mkF m 7 #[.val (.int p0), .unset] [(.int (own_f22 (p0 - (1 : Int32)))), (.int (-1 : Int32))])) (fun t k => st264 t k) ?_
  refine own_via (T264.setTop (mkF m 8 #[.val (.int p0), .unset] [(.int (((-1 : Int32).toUInt32 >>> ((own_f22 (p0 - (1 : Int32))) &&& 31).toUInt32).toInt32))])) (fun t k => XS.iushr X264.here hx rfl (hb hby d21_7) rfl k) ?_
  refine own_via (T264.setTop (mkF m 9 #[.val (.int p0), .val (.int (((-1 : Int32).toUInt32 >>> ((own_f22 (p0 - (1 : Int32))) &&& 31).toUInt32).toInt32))] [])) (fun t k => XS.istoreN X264.here hx rfl (hb hby d21_8) rfl (l' := #[.val (.int p0), .val (.int (((-1 : Int32).toUInt32 >>> ((own_f22 (p0 - (1 : Int32))) &&& 31).toUInt32).toInt32))]) rfl k) ?_
  refine own_via (T264.setTop (mkF m 10 #[.val (.int p0), .val (.int (((-1 : Int32).toUInt32 >>> ((own_f22 (p0 - (1 : Int32))) &&& 31).toUInt32).toInt32))] [(.int (((-1 : Int32).toUInt32 >>> ((own_f22 (p0 - (1 : Int32))) &&& 31).toUInt32).toInt32))])) (fun t k => XS.iloadN X264.here hx rfl (hb hby d21_9) rfl  k) ?_
  by_cases hc10_265 : (((-1 : Int32).toUInt32 >>> ((own_f22 (p0 - (1 : Int32))) &&& 31).toUInt32).toInt32) < (0 : Int32)
  · refine own_via (T264.setTop (mkF m 13 #[.val (.int p0), .val (.int (((-1 : Int32).toUInt32 >>> ((own_f22 (p0 - (1 : Int32))) &&& 31).toUInt32).toInt32))] [])) (fun t k => XS.ifNo X264.here hx rfl (hb hby d21_10) rfl ((if0 _ _).trans (tlt hc10_265).2.1) k) ?_
    refine own_via (T264.setTop (mkF m 14 #[.val (.int p0), .val (.int (((-1 : Int32).toUInt32 >>> ((own_f22 (p0 - (1 : Int32))) &&& 31).toUInt32).toInt32))] [(.int (1 : Int32))])) (fun t k => XS.iconst X264.here hx rfl (hb hby d21_13) k) ?_
    refine own_via (T264.setTop (mkF m 31 #[.val (.int p0), .val (.int (((-1 : Int32).toUInt32 >>> ((own_f22 (p0 - (1 : Int32))) &&& 31).toUInt32).toInt32))] [(.int (1 : Int32))])) (fun t k => XS.goto X264.here hx rfl (pc0 := 14) (pc' := 31) rfl (hb hby d21_14) (by decide) (by decide) k) ?_
    refine own_leave X264 Bd.notSynchronized (v := some (.int (1 : Int32))) (fun h => by rw [Bd.returns] at h; cases h) (fun fs hr => retI X264 hx Bd.returns (hb hby d21_31) hr) ?_ (by decide) (by decide)
    refine ⟨?_, N264, e264⟩
    show some (Value.int _) = some (Value.int _); unfold own_f21; rw [if_pos hc10_265]
  · refine own_via (T264.setTop (mkF m 17 #[.val (.int p0), .val (.int (((-1 : Int32).toUInt32 >>> ((own_f22 (p0 - (1 : Int32))) &&& 31).toUInt32).toInt32))] [])) (fun t k => XS.ifYes X264.here hx rfl (pc0 := 10) (pc' := 17) rfl (hb hby d21_10) rfl ((if0 _ _).trans (flt hc10_265).2.1) (by decide) (by decide) k) ?_
    refine own_via (T264.setTop (mkF m 18 #[.val (.int p0), .val (.int (((-1 : Int32).toUInt32 >>> ((own_f22 (p0 - (1 : Int32))) &&& 31).toUInt32).toInt32))] [(.int (((-1 : Int32).toUInt32 >>> ((own_f22 (p0 - (1 : Int32))) &&& 31).toUInt32).toInt32))])) (fun t k => XS.iloadN X264.here hx rfl (hb hby d21_17) rfl  k) ?_
    refine own_via (T264.setTop (mkF m 20 #[.val (.int p0), .val (.int (((-1 : Int32).toUInt32 >>> ((own_f22 (p0 - (1 : Int32))) &&& 31).toUInt32).toInt32))] [(.int (1073741824 : Int32)), (.int (((-1 : Int32).toUInt32 >>> ((own_f22 (p0 - (1 : Int32))) &&& 31).toUInt32).toInt32))])) (fun t k => X264.ldcInt hx hown (mvT hZ (hw _ (List.mem_of_getElem? (i := 152) rfl))) (g := (mkF m 18 #[.val (.int p0), .val (.int (((-1 : Int32).toUInt32 >>> ((own_f22 (p0 - (1 : Int32))) &&& 31).toUInt32).toInt32))] [(.int (((-1 : Int32).toUInt32 >>> ((own_f22 (p0 - (1 : Int32))) &&& 31).toUInt32).toInt32))])) rfl (hb hby d21_18) _ k) ?_
    by_cases hc20_266 : (((-1 : Int32).toUInt32 >>> ((own_f22 (p0 - (1 : Int32))) &&& 31).toUInt32).toInt32) < (1073741824 : Int32)
    · refine own_via (T264.setTop (mkF m 28 #[.val (.int p0), .val (.int (((-1 : Int32).toUInt32 >>> ((own_f22 (p0 - (1 : Int32))) &&& 31).toUInt32).toInt32))] [])) (fun t k => XS.icmpYes X264.here hx rfl (pc0 := 20) (pc' := 28) rfl (hb hby d21_20) rfl (tlt hc20_266).1 (by decide) (by decide) k) ?_
      refine own_via (T264.setTop (mkF m 29 #[.val (.int p0), .val (.int (((-1 : Int32).toUInt32 >>> ((own_f22 (p0 - (1 : Int32))) &&& 31).toUInt32).toInt32))] [(.int (((-1 : Int32).toUInt32 >>> ((own_f22 (p0 - (1 : Int32))) &&& 31).toUInt32).toInt32))])) (fun t k => XS.iloadN X264.here hx rfl (hb hby d21_28) rfl  k) ?_
      refine own_via (T264.setTop (mkF m 30 #[.val (.int p0), .val (.int (((-1 : Int32).toUInt32 >>> ((own_f22 (p0 - (1 : Int32))) &&& 31).toUInt32).toInt32))] [(.int (1 : Int32)), (.int (((-1 : Int32).toUInt32 >>> ((own_f22 (p0 - (1 : Int32))) &&& 31).toUInt32).toInt32))])) (fun t k => XS.iconst X264.here hx rfl (hb hby d21_29) k) ?_
      refine own_via (T264.setTop (mkF m 31 #[.val (.int p0), .val (.int (((-1 : Int32).toUInt32 >>> ((own_f22 (p0 - (1 : Int32))) &&& 31).toUInt32).toInt32))] [(.int ((((-1 : Int32).toUInt32 >>> ((own_f22 (p0 - (1 : Int32))) &&& 31).toUInt32).toInt32) + (1 : Int32)))])) (fun t k => XS.iadd X264.here hx rfl (hb hby d21_30) rfl k) ?_
      refine own_leave X264 Bd.notSynchronized (v := some (.int ((((-1 : Int32).toUInt32 >>> ((own_f22 (p0 - (1 : Int32))) &&& 31).toUInt32).toInt32) + (1 : Int32)))) (fun h => by rw [Bd.returns] at h; cases h) (fun fs hr => retI X264 hx Bd.returns (hb hby d21_31) hr) ?_ (by decide) (by decide)
      refine ⟨?_, N264, e264⟩
      show some (Value.int _) = some (Value.int _); unfold own_f21; rw [if_neg hc10_265, if_pos hc20_266]
    · refine own_via (T264.setTop (mkF m 23 #[.val (.int p0), .val (.int (((-1 : Int32).toUInt32 >>> ((own_f22 (p0 - (1 : Int32))) &&& 31).toUInt32).toInt32))] [])) (fun t k => XS.icmpNo X264.here hx rfl (hb hby d21_20) rfl (flt hc20_266).1 k) ?_
      refine own_via (T264.setTop (mkF m 25 #[.val (.int p0), .val (.int (((-1 : Int32).toUInt32 >>> ((own_f22 (p0 - (1 : Int32))) &&& 31).toUInt32).toInt32))] [(.int (1073741824 : Int32))])) (fun t k => X264.ldcInt hx hown (mvT hZ (hw _ (List.mem_of_getElem? (i := 152) rfl))) (g := (mkF m 23 #[.val (.int p0), .val (.int (((-1 : Int32).toUInt32 >>> ((own_f22 (p0 - (1 : Int32))) &&& 31).toUInt32).toInt32))] [])) rfl (hb hby d21_23) _ k) ?_
      refine own_via (T264.setTop (mkF m 31 #[.val (.int p0), .val (.int (((-1 : Int32).toUInt32 >>> ((own_f22 (p0 - (1 : Int32))) &&& 31).toUInt32).toInt32))] [(.int (1073741824 : Int32))])) (fun t k => XS.goto X264.here hx rfl (pc0 := 25) (pc' := 31) rfl (hb hby d21_25) (by decide) (by decide) k) ?_
      refine own_leave X264 Bd.notSynchronized (v := some (.int (1073741824 : Int32))) (fun h => by rw [Bd.returns] at h; cases h) (fun fs hr => retI X264 hx Bd.returns (hb hby d21_31) hr) ?_ (by decide) (by decide)
      refine ⟨?_, N264, e264⟩
      show some (Value.int _) = some (Value.int _); unfold own_f21; rw [if_neg hc10_265, if_neg hc20_266]
def own_Q19 (Z : State) (p0 : Addr)  (h0 : Heap) (n0 : Nat) (v : Option Value) (h : Heap) (L : List Loc) : Prop := v = none ∧ Fr n0 L ∧ Keep h0 h [p0] ∧ Exa Z h p0 "java/util/LinkedHashMap" ∧ Fld Z h p0 "java/util/HashMap" "loadFactor" "F" (.float (1061158912 : UInt32)) ∧ Fld Z h p0 "java/util/HashMap" "threshold" "I" (.int (own_f21 (16 : Int32))) ∧ Fld Z h p0 "java/util/HashMap" "size" "I" (.int (0 : Int32)) ∧ Fld Z h p0 "java/util/LinkedHashMap" "putMode" "I" (.int (0 : Int32)) ∧ Fld Z h p0 "java/util/LinkedHashMap" "accessOrder" "Z" (.int (0 : Int32))
theorem d19_0 : decode jdk_69_method_5_code 0 = .ok (.aload_n 0, 1) := by decide +kernel
theorem d19_1 : decode jdk_69_method_5_code 1 = .ok (.invokespecial 43, 3) := by decide +kernel
theorem d19_4 : decode jdk_69_method_5_code 4 = .ok (.iload_n 1, 1) := by decide +kernel
theorem d19_5 : decode jdk_69_method_5_code 5 = .ok (.ifCond .ge 30, 3) := by decide +kernel
theorem d19_35 : decode jdk_69_method_5_code 35 = .ok (.iload_n 1, 1) := by decide +kernel
theorem d19_36 : decode jdk_69_method_5_code 36 = .ok (.ldc 42, 2) := by decide +kernel
theorem d19_38 : decode jdk_69_method_5_code 38 = .ok (.if_icmp .le 6, 3) := by decide +kernel
theorem d19_44 : decode jdk_69_method_5_code 44 = .ok (.fload_n 2, 1) := by decide +kernel
theorem d19_45 : decode jdk_69_method_5_code 45 = .ok (.fconst 0, 1) := by decide +kernel
theorem d19_46 : decode jdk_69_method_5_code 46 = .ok (.fcmp .g, 1) := by decide +kernel
theorem d19_47 : decode jdk_69_method_5_code 47 = .ok (.ifCond .le 10, 3) := by decide +kernel
theorem d19_50 : decode jdk_69_method_5_code 50 = .ok (.fload_n 2, 1) := by decide +kernel
theorem d19_51 : decode jdk_69_method_5_code 51 = .ok (.invokestatic 70, 3) := by decide +kernel
theorem d19_54 : decode jdk_69_method_5_code 54 = .ok (.ifCond .eq 30, 3) := by decide +kernel
theorem d19_84 : decode jdk_69_method_5_code 84 = .ok (.aload_n 0, 1) := by decide +kernel
theorem d19_85 : decode jdk_69_method_5_code 85 = .ok (.fload_n 2, 1) := by decide +kernel
theorem d19_86 : decode jdk_69_method_5_code 86 = .ok (.putfield 81, 3) := by decide +kernel
theorem d19_89 : decode jdk_69_method_5_code 89 = .ok (.aload_n 0, 1) := by decide +kernel
theorem d19_90 : decode jdk_69_method_5_code 90 = .ok (.iload_n 1, 1) := by decide +kernel
theorem d19_91 : decode jdk_69_method_5_code 91 = .ok (.invokestatic 85, 3) := by decide +kernel
theorem d19_94 : decode jdk_69_method_5_code 94 = .ok (.putfield 88, 3) := by decide +kernel
theorem d19_97 : decode jdk_69_method_5_code 97 = .ok (.return_, 1) := by decide +kernel
theorem pd_8 : parseMethodDescriptor "(F)Z" = some ⟨[.float], some .boolean⟩ := by decide +kernel
theorem ef_19 (m : MethodId) (p0 : Addr) : entryFrame m #[(.ref p0), (.int (16 : Int32)), (.float (1061158912 : UInt32))] 3 = mkF m 0 #[.val (.ref p0), .val (.int (16 : Int32)), .val (.float (1061158912 : UInt32))] [] := by first | (simp [entryFrame, mkF, argsToLocals, Value.category]; done) | rfl
set_option maxRecDepth 65536 in
set_option maxHeartbeats 40000000 in
theorem rm19 (l : Launch) (Z : State) (a0 : Array Value) (hw : ∀ d ∈ tables_1, d.before a0 Z = true) (ws : List Jvm.Cond) (p0 : Addr) (h0 : Heap) (n0 : Nat) (Z0 : n0 ≤ h0.size) (P0 : Exa Z h0 p0 "java/util/LinkedHashMap") (P1 : Fld Z h0 p0 "java/util/HashMap" "loadFactor" "F" (.float (0 : UInt32))) (P2 : Fld Z h0 p0 "java/util/HashMap" "threshold" "I" (.int (0 : Int32))) (P3 : Fld Z h0 p0 "java/util/HashMap" "size" "I" (.int (0 : Int32))) (P4 : Fld Z h0 p0 "java/util/LinkedHashMap" "putMode" "I" (.int (0 : Int32))) (P5 : Fld Z h0 p0 "java/util/LinkedHashMap" "accessOrder" "Z" (.int (0 : Int32))) (gg_p0 : n0 ≤ p0) :
    MetFree l (⟨"java/util/HashMap", "<init>", "(IF)V"⟩ : MethodName) (head1 (Jvm.Cond.code (⟨"java/util/HashMap", "<init>", "(IF)V"⟩ : MethodName) jdk_69_method_5_code 3 none :: ws) ({ frames := 2, cells := 0, slots := 0, locals := 28 } : Room)) (fun a U => a = #[(.ref p0), (.int (16 : Int32)), (.float (1061158912 : UInt32))] ∧ Z.Warmed39 U.vm ∧ U.heap = h0) (fun _ _ _ _ _ => True) (fun _ U o U' => ∃ v L, o = .returned v ∧ (own_Q19 Z p0  h0 n0) v U'.heap L ∧ FrameEnd U o U' L ({ frames := 2, cells := 0, slots := 0, locals := 28 } : Room).cells ({ frames := 2, cells := 0, slots := 0, locals := 28 } : Room).slots) := by
  refine MetFree.of_bodySF (plainFor_of_name pn_java_util_HashMap) hisR ?_
  intro p e s m args below meth c s₁ Bd hml0 hP hK
  obtain ⟨rfl, hZ, hh⟩ := hP
  have hx := Bd.exec
  have hby := Bd.bytes
  have hml : c.maxLocals = 3 := hml0
  have hown : s.vm.findClass "java/util/HashMap" = some m.cls := findClass_of_methodNamed Bd.named
  have hnm := (name_of_methodNamed Bd.named Bd.method).1
  have X0 : Stand p l e ({ frames := 2, cells := 0, slots := 0, locals := 28 } : Room) s m #[(.ref p0), (.int (16 : Int32)), (.float (1061158912 : UInt32))] below meth c s₁ [] 0 0 := Stand.of_body Bd
  have e0 : s₁.heap = h0 := by rw [← hh, Bd.state]; rfl
  have N0 := Fr.nil n0
  refine own_body (QQ := (own_Q19 Z p0  h0 n0)) (ef_19 m p0) ?_
  refine own_via (s₁.setTop (mkF m 1 #[.val (.ref p0), .val (.int (16 : Int32)), .val (.float (1061158912 : UInt32))] [(.ref p0)])) (fun t k => XS.aloadN X0.here hx rfl (hb hby d19_0) rfl rfl k) ?_
  obtain ⟨_, _, ⟨T267, L267, k267, n267⟩, -, X267, ⟨Lc267, hQ267, l267, y267, z267⟩, st267⟩ := X0.specialBack hx (y := (⟨"java/util/AbstractMap", "<init>", "()V"⟩ : MethodName)) rfl hown (mvT hZ (hw _ (List.mem_of_getElem? (i := 57) rfl))) (mvT hZ (hw _ (List.mem_of_getElem? (i := 58) rfl))) (mvT hZ (hw _ (List.mem_of_getElem? (i := 62) rfl))) (by decide) (backOf (W := 0) (rm9 l Z a0 hw [] p0 h0 n0 (Nat.le_trans Z0 (Keep.refl h0 [p0]).1)) hZ (hw _ (List.mem_of_getElem? (i := 62) rfl)) (hw _ (List.mem_of_getElem? (i := 61) rfl)) (by decide) (by decide)) (g := (mkF m 1 #[.val (.ref p0), .val (.int (16 : Int32)), .val (.float (1061158912 : UInt32))] [(.ref p0)])) rfl (by rw [hml]; rfl) (Steps.refl _) (a := p0) (argsL := []) (rest := []) (lenOf pd_0 rfl) rfl (by show 2 * 0 + _ ≤ _; exact Nat.le_of_eq rfl) (hb hby d19_1) (fun _ _ => ⟨rfl, e0, (by decide : 0 + 0 ≤ _), (by decide : 0 + 0 ≤ _)⟩)
  dsimp only [Pt.U, Pt.locs, Pt.cells, Pt.slots] at X267 l267 y267 z267 st267 hQ267
  rw [y267, z267] at X267
  have X267 : Stand _ _ _ _ _ _ _ _ _ _ T267 L267 0 0 := X267
  obtain ⟨rfl, N267q, e267⟩ := hQ267
  have N267 : Fr n0 L267 := by rw [l267]; exact Fr.app N0 N267q
  refine own_via (T267.setTop (mkF m 4 #[.val (.ref p0), .val (.int (16 : Int32)), .val (.float (1061158912 : UInt32))] [])) (fun t k => st267.trans k) ?_
  refine own_via (T267.setTop (mkF m 5 #[.val (.ref p0), .val (.int (16 : Int32)), .val (.float (1061158912 : UInt32))] [(.int (16 : Int32))])) (fun t k => XS.iloadN X267.here hx rfl (hb hby d19_4) rfl  k) ?_
  refine own_via (T267.setTop (mkF m 35 #[.val (.ref p0), .val (.int (16 : Int32)), .val (.float (1061158912 : UInt32))] [])) (fun t k => XS.ifYes X267.here hx rfl (pc0 := 5) (pc' := 35) rfl (hb hby d19_5) rfl ((if0 _ _).trans (flt (by decide)).2.1) (by decide) (by decide) k) ?_
  refine own_via (T267.setTop (mkF m 36 #[.val (.ref p0), .val (.int (16 : Int32)), .val (.float (1061158912 : UInt32))] [(.int (16 : Int32))])) (fun t k => XS.iloadN X267.here hx rfl (hb hby d19_35) rfl  k) ?_
  refine own_via (T267.setTop (mkF m 38 #[.val (.ref p0), .val (.int (16 : Int32)), .val (.float (1061158912 : UInt32))] [(.int (1073741824 : Int32)), (.int (16 : Int32))])) (fun t k => X267.ldcInt hx hown (mvT hZ (hw _ (List.mem_of_getElem? (i := 152) rfl))) (g := (mkF m 36 #[.val (.ref p0), .val (.int (16 : Int32)), .val (.float (1061158912 : UInt32))] [(.int (16 : Int32))])) rfl (hb hby d19_36) _ k) ?_
  refine own_via (T267.setTop (mkF m 44 #[.val (.ref p0), .val (.int (16 : Int32)), .val (.float (1061158912 : UInt32))] [])) (fun t k => XS.icmpYes X267.here hx rfl (pc0 := 38) (pc' := 44) rfl (hb hby d19_38) rfl (flt (by decide)).2.2.2 (by decide) (by decide) k) ?_
  refine own_via (T267.setTop (mkF m 45 #[.val (.ref p0), .val (.int (16 : Int32)), .val (.float (1061158912 : UInt32))] [(.float (1061158912 : UInt32))])) (fun t k => own_floadN X267.here hx rfl (hb hby d19_44) rfl k) ?_
  refine own_via (T267.setTop (mkF m 46 #[.val (.ref p0), .val (.int (16 : Int32)), .val (.float (1061158912 : UInt32))] [(.float (0 : UInt32)), (.float (1061158912 : UInt32))])) (fun t k => own_fconst0 X267.here hx rfl (hb hby d19_45) k) ?_
  refine own_via (T267.setTop (mkF m 47 #[.val (.ref p0), .val (.int (16 : Int32)), .val (.float (1061158912 : UInt32))] [(.int (1 : Int32))])) (fun t k => own_fcmp X267.here hx rfl (z := (1 : Int32)) (hb hby d19_46) rfl (by decide +kernel) k) ?_
  refine own_via (T267.setTop (mkF m 50 #[.val (.ref p0), .val (.int (16 : Int32)), .val (.float (1061158912 : UInt32))] [])) (fun t k => XS.ifNo X267.here hx rfl (hb hby d19_47) rfl ((if0 _ _).trans (tlt (by decide)).2.2.2) k) ?_
  refine own_via (T267.setTop (mkF m 51 #[.val (.ref p0), .val (.int (16 : Int32)), .val (.float (1061158912 : UInt32))] [(.float (1061158912 : UInt32))])) (fun t k => own_floadN X267.here hx rfl (hb hby d19_50) rfl k) ?_
  obtain ⟨_, _, ⟨T268, L268, k268, n268⟩, -, X268, ⟨Lc268, hQ268, l268, y268, z268⟩, st268⟩ := Jvm.LawKit.callS X267 hx (y := (⟨"java/lang/Float", "isNaN", "(F)Z"⟩ : MethodName)) hown (mvT hZ (hw _ (List.mem_of_getElem? (i := 153) rfl))) (mvT hZ (hw _ (List.mem_of_getElem? (i := 154) rfl))) (mvT hZ (hw _ (List.mem_of_getElem? (i := 155) rfl))) (mvT hZ (hw _ (List.mem_of_getElem? (i := 156) rfl))) (by decide) (backOf (W := 0) (rm20 l Z a0 hw []  h0 n0 (Nat.le_trans Z0 (Keep.refl h0 [p0]).1) ) hZ (hw _ (List.mem_of_getElem? (i := 156) rfl)) (hw _ (List.mem_of_getElem? (i := 155) rfl)) (by decide) (by decide)) (g := (mkF m 51 #[.val (.ref p0), .val (.int (16 : Int32)), .val (.float (1061158912 : UInt32))] [(.float (1061158912 : UInt32))])) rfl (by rw [hml]; rfl) (argsL := [(.float (1061158912 : UInt32))]) (rest := []) (lenOf pd_8 rfl) rfl (by show 2 * 0 + _ ≤ _; exact Nat.le_of_eq rfl) (hb hby d19_51) (fun _ _ => ⟨rfl, e267, (by decide : 0 + 0 ≤ _), (by decide : 0 + 0 ≤ _)⟩)
  dsimp only [Pt.U, Pt.locs, Pt.cells, Pt.slots] at X268 l268 y268 z268 st268 hQ268
  rw [y268, z268] at X268
  have X268 : Stand _ _ _ _ _ _ _ _ _ _ T268 L268 0 0 := X268
  obtain ⟨rfl, N268q, e268⟩ := hQ268
  have N268 : Fr n0 L268 := by rw [l268]; exact Fr.app N267 N268q
  refine own_via (T268.setTop (mkF m 54 #[.val (.ref p0), .val (.int (16 : Int32)), .val (.float (1061158912 : UInt32))] [(.int (0 : Int32))])) (fun t k => st268 t k) ?_
  refine own_via (T268.setTop (mkF m 84 #[.val (.ref p0), .val (.int (16 : Int32)), .val (.float (1061158912 : UInt32))] [])) (fun t k => XS.ifYes X268.here hx rfl (pc0 := 54) (pc' := 84) rfl (hb hby d19_54) rfl ((if0 _ _).trans (teq (by decide)).1) (by decide) (by decide) k) ?_
  refine own_via (T268.setTop (mkF m 85 #[.val (.ref p0), .val (.int (16 : Int32)), .val (.float (1061158912 : UInt32))] [(.ref p0)])) (fun t k => XS.aloadN X268.here hx rfl (hb hby d19_84) rfl rfl k) ?_
  refine own_via (T268.setTop (mkF m 86 #[.val (.ref p0), .val (.int (16 : Int32)), .val (.float (1061158912 : UInt32))] [(.float (1061158912 : UInt32)), (.ref p0)])) (fun t k => own_floadN X268.here hx rfl (hb hby d19_85) rfl k) ?_
  obtain ⟨T269, h269, X269, e269, W269, st269⟩ := putF X268 hx hZ hown (host := "") (Or.inl (hw _ (List.mem_of_getElem? (i := 65) rfl))) Via.refl e268 P1 P0 (Or.inr ⟨(hw _ (List.mem_of_getElem? (i := 157) rfl)), rfl, hnm⟩) (hw _ (List.mem_of_getElem? (i := 140) rfl)) (ty := .float) (by decide) rfl rfl (g := (mkF m 86 #[.val (.ref p0), .val (.int (16 : Int32)), .val (.float (1061158912 : UInt32))] [(.float (1061158912 : UInt32)), (.ref p0)])) rfl rfl (hb hby d19_86)
  have Fw269 := P1.same W269
  have N269 := Fr.snoc X269 N268 gg_p0
  have K270 : Keep h0 h269 [p0] := (Keep.refl h0 [p0]).wr W269 (Or.inl (List.mem_of_getElem? (i := 0) rfl))
  refine own_via (T269.setTop (mkF m 89 #[.val (.ref p0), .val (.int (16 : Int32)), .val (.float (1061158912 : UInt32))] [])) (fun t k => st269 t k) ?_
  refine own_via (T269.setTop (mkF m 90 #[.val (.ref p0), .val (.int (16 : Int32)), .val (.float (1061158912 : UInt32))] [(.ref p0)])) (fun t k => XS.aloadN X269.here hx rfl (hb hby d19_89) rfl rfl k) ?_
  refine own_via (T269.setTop (mkF m 91 #[.val (.ref p0), .val (.int (16 : Int32)), .val (.float (1061158912 : UInt32))] [(.int (16 : Int32)), (.ref p0)])) (fun t k => XS.iloadN X269.here hx rfl (hb hby d19_90) rfl  k) ?_
  obtain ⟨_, _, ⟨T271, L271, k271, n271⟩, -, X271, ⟨Lc271, hQ271, l271, y271, z271⟩, st271⟩ := Jvm.LawKit.callS X269 hx (y := (⟨"java/util/HashMap", "tableSizeFor", "(I)I"⟩ : MethodName)) hown (mvT hZ (hw _ (List.mem_of_getElem? (i := 158) rfl))) (mvT hZ (hw _ (List.mem_of_getElem? (i := 159) rfl))) (mvT hZ (hw _ (List.mem_of_getElem? (i := 53) rfl))) (mvT hZ (hw _ (List.mem_of_getElem? (i := 160) rfl))) (by decide) (backOf (W := 1) (rm21 l Z a0 hw [] (16 : Int32) h269 n0 (Nat.le_trans Z0 K270.1)) hZ (hw _ (List.mem_of_getElem? (i := 160) rfl)) (hw _ (List.mem_of_getElem? (i := 53) rfl)) (by decide) (by decide)) (g := (mkF m 91 #[.val (.ref p0), .val (.int (16 : Int32)), .val (.float (1061158912 : UInt32))] [(.int (16 : Int32)), (.ref p0)])) rfl (by rw [hml]; rfl) (argsL := [(.int (16 : Int32))]) (rest := [(.ref p0)]) (lenOf pd_7 rfl) rfl (by show 2 * 0 + _ ≤ _; exact Nat.le_of_eq rfl) (hb hby d19_91) (fun _ _ => ⟨rfl, e269, (by decide : 0 + 0 ≤ _), (by decide : 0 + 0 ≤ _)⟩)
  dsimp only [Pt.U, Pt.locs, Pt.cells, Pt.slots] at X271 l271 y271 z271 st271 hQ271
  rw [y271, z271] at X271
  have X271 : Stand _ _ _ _ _ _ _ _ _ _ T271 L271 0 0 := X271
  obtain ⟨rfl, N271q, e271⟩ := hQ271
  have N271 : Fr n0 L271 := by rw [l271]; exact Fr.app N269 N271q
  refine own_via (T271.setTop (mkF m 94 #[.val (.ref p0), .val (.int (16 : Int32)), .val (.float (1061158912 : UInt32))] [(.int (own_f21 (16 : Int32))), (.ref p0)])) (fun t k => st271 t k) ?_
  have F273 := (P2.other W269 (Or.inr (slot_ne (Or.inl (hw _ (List.mem_of_getElem? (i := 167) rfl))) (Or.inr (hw _ (List.mem_of_getElem? (i := 157) rfl))) (by decide) (t := .int) (t' := .float) (by decide) (by decide))))
  have F274 := (P0.wr W269)
  obtain ⟨T272, h272, X272, e272, W272, st272⟩ := putF X271 hx hZ hown (host := "") (Or.inl (hw _ (List.mem_of_getElem? (i := 166) rfl))) Via.refl e271 F273 F274 (Or.inl (hw _ (List.mem_of_getElem? (i := 167) rfl))) (hw _ (List.mem_of_getElem? (i := 140) rfl)) (ty := .int) (by decide) rfl rfl (g := (mkF m 94 #[.val (.ref p0), .val (.int (16 : Int32)), .val (.float (1061158912 : UInt32))] [(.int (own_f21 (16 : Int32))), (.ref p0)])) rfl rfl (hb hby d19_94)
  have Fw272 := F273.same W272
  have N272 := Fr.snoc X272 N271 gg_p0
  have K275 : Keep h0 h272 [p0] := K270.wr W272 (Or.inl (List.mem_of_getElem? (i := 0) rfl))
  refine own_via (T272.setTop (mkF m 97 #[.val (.ref p0), .val (.int (16 : Int32)), .val (.float (1061158912 : UInt32))] [])) (fun t k => st272 t k) ?_
  refine own_leave X272 Bd.notSynchronized (v := none) (fun _ => rfl) (fun fs hr => X272.returnOut hx Bd.returns (hb hby d19_97) hr) ?_ (by decide) (by decide)
  have F276 := (F274.wr W272)
  have F277 := (Fw269.other W272 (Or.inr (slot_ne (Or.inr (hw _ (List.mem_of_getElem? (i := 157) rfl))) (Or.inl (hw _ (List.mem_of_getElem? (i := 167) rfl))) (by decide) (t := .float) (t' := .int) (by decide) (by decide))))
  have F278 := ((P3.other W269 (Or.inr (slot_ne (Or.inl (hw _ (List.mem_of_getElem? (i := 191) rfl))) (Or.inr (hw _ (List.mem_of_getElem? (i := 157) rfl))) (by decide) (t := .int) (t' := .float) (by decide) (by decide)))).other W272 (Or.inr (slot_ne (Or.inl (hw _ (List.mem_of_getElem? (i := 191) rfl))) (Or.inl (hw _ (List.mem_of_getElem? (i := 167) rfl))) (by decide) (t := .int) (t' := .int) (by decide) (by decide))))
  have F279 := ((P4.other W269 (Or.inr (slot_ne (Or.inl (hw _ (List.mem_of_getElem? (i := 169) rfl))) (Or.inr (hw _ (List.mem_of_getElem? (i := 157) rfl))) (by decide) (t := .int) (t' := .float) (by decide) (by decide)))).other W272 (Or.inr (slot_ne (Or.inl (hw _ (List.mem_of_getElem? (i := 169) rfl))) (Or.inl (hw _ (List.mem_of_getElem? (i := 167) rfl))) (by decide) (t := .int) (t' := .int) (by decide) (by decide))))
  have F280 := ((P5.other W269 (Or.inr (slot_ne (Or.inr (hw _ (List.mem_of_getElem? (i := 171) rfl))) (Or.inr (hw _ (List.mem_of_getElem? (i := 157) rfl))) (by decide) (t := .boolean) (t' := .float) (by decide) (by decide)))).other W272 (Or.inr (slot_ne (Or.inr (hw _ (List.mem_of_getElem? (i := 171) rfl))) (Or.inl (hw _ (List.mem_of_getElem? (i := 167) rfl))) (by decide) (t := .boolean) (t' := .int) (by decide) (by decide))))
  show (own_Q19 Z p0  h0 n0) _ T272.heap _
  rw [e272]
  exact ⟨rfl, N272, K275, F276, F277, Fw272, F278, F279, F280⟩
def own_Q18 (Z : State) (p0 : Addr)  (h0 : Heap) (n0 : Nat) (v : Option Value) (h : Heap) (L : List Loc) : Prop := v = none ∧ Fr n0 L ∧ Keep h0 h [p0] ∧ Exa Z h p0 "java/util/LinkedHashMap" ∧ Fld Z h p0 "java/util/HashMap" "loadFactor" "F" (.float (1061158912 : UInt32)) ∧ Fld Z h p0 "java/util/HashMap" "threshold" "I" (.int (own_f21 (16 : Int32))) ∧ Fld Z h p0 "java/util/HashMap" "size" "I" (.int (0 : Int32)) ∧ Fld Z h p0 "java/util/LinkedHashMap" "putMode" "I" (.int (0 : Int32)) ∧ Fld Z h p0 "java/util/LinkedHashMap" "accessOrder" "Z" (.int (0 : Int32))
theorem d18_0 : decode jdk_94_method_14_code 0 = .ok (.aload_n 0, 1) := by decide +kernel
theorem d18_1 : decode jdk_94_method_14_code 1 = .ok (.iload_n 1, 1) := by decide +kernel
theorem d18_2 : decode jdk_94_method_14_code 2 = .ok (.fload_n 2, 1) := by decide +kernel
theorem d18_3 : decode jdk_94_method_14_code 3 = .ok (.invokespecial 81, 3) := by decide +kernel
theorem d18_6 : decode jdk_94_method_14_code 6 = .ok (.aload_n 0, 1) := by decide +kernel
theorem d18_7 : decode jdk_94_method_14_code 7 = .ok (.iconst 0, 1) := by decide +kernel
theorem d18_8 : decode jdk_94_method_14_code 8 = .ok (.putfield 1, 3) := by decide +kernel
theorem d18_11 : decode jdk_94_method_14_code 11 = .ok (.aload_n 0, 1) := by decide +kernel
theorem d18_12 : decode jdk_94_method_14_code 12 = .ok (.iconst 0, 1) := by decide +kernel
theorem d18_13 : decode jdk_94_method_14_code 13 = .ok (.putfield 64, 3) := by decide +kernel
theorem d18_16 : decode jdk_94_method_14_code 16 = .ok (.return_, 1) := by decide +kernel
theorem pd_9 : parseMethodDescriptor "(IF)V" = some ⟨[.int, .float], none⟩ := by decide +kernel
theorem pn_java_util_LinkedHashMap : plainName "java/util/LinkedHashMap" = true := by first | (simp [plainName, overriddenIn]; done) | decide +kernel
theorem ef_18 (m : MethodId) (p0 : Addr) : entryFrame m #[(.ref p0), (.int (16 : Int32)), (.float (1061158912 : UInt32))] 3 = mkF m 0 #[.val (.ref p0), .val (.int (16 : Int32)), .val (.float (1061158912 : UInt32))] [] := by first | (simp [entryFrame, mkF, argsToLocals, Value.category]; done) | rfl
set_option maxRecDepth 65536 in
set_option maxHeartbeats 40000000 in
theorem rm18 (l : Launch) (Z : State) (a0 : Array Value) (hw : ∀ d ∈ tables_1, d.before a0 Z = true) (ws : List Jvm.Cond) (p0 : Addr) (h0 : Heap) (n0 : Nat) (Z0 : n0 ≤ h0.size) (P0 : Exa Z h0 p0 "java/util/LinkedHashMap") (P1 : Fld Z h0 p0 "java/util/HashMap" "loadFactor" "F" (.float (0 : UInt32))) (P2 : Fld Z h0 p0 "java/util/HashMap" "threshold" "I" (.int (0 : Int32))) (P3 : Fld Z h0 p0 "java/util/HashMap" "size" "I" (.int (0 : Int32))) (P4 : Fld Z h0 p0 "java/util/LinkedHashMap" "putMode" "I" (.int (0 : Int32))) (P5 : Fld Z h0 p0 "java/util/LinkedHashMap" "accessOrder" "Z" (.int (0 : Int32))) (gg_p0 : n0 ≤ p0) :
    MetFree l (⟨"java/util/LinkedHashMap", "<init>", "(IF)V"⟩ : MethodName) (head1 (Jvm.Cond.code (⟨"java/util/LinkedHashMap", "<init>", "(IF)V"⟩ : MethodName) jdk_94_method_14_code 3 none :: ws) ({ frames := 3, cells := 0, slots := 0, locals := 42 } : Room)) (fun a U => a = #[(.ref p0), (.int (16 : Int32)), (.float (1061158912 : UInt32))] ∧ Z.Warmed39 U.vm ∧ U.heap = h0) (fun _ _ _ _ _ => True) (fun _ U o U' => ∃ v L, o = .returned v ∧ (own_Q18 Z p0  h0 n0) v U'.heap L ∧ FrameEnd U o U' L ({ frames := 3, cells := 0, slots := 0, locals := 42 } : Room).cells ({ frames := 3, cells := 0, slots := 0, locals := 42 } : Room).slots) := by
  refine MetFree.of_bodySF (plainFor_of_name pn_java_util_LinkedHashMap) hisR ?_
  intro p e s m args below meth c s₁ Bd hml0 hP hK
  obtain ⟨rfl, hZ, hh⟩ := hP
  have hx := Bd.exec
  have hby := Bd.bytes
  have hml : c.maxLocals = 3 := hml0
  have hown : s.vm.findClass "java/util/LinkedHashMap" = some m.cls := findClass_of_methodNamed Bd.named
  have hnm := (name_of_methodNamed Bd.named Bd.method).1
  have X0 : Stand p l e ({ frames := 3, cells := 0, slots := 0, locals := 42 } : Room) s m #[(.ref p0), (.int (16 : Int32)), (.float (1061158912 : UInt32))] below meth c s₁ [] 0 0 := Stand.of_body Bd
  have e0 : s₁.heap = h0 := by rw [← hh, Bd.state]; rfl
  have N0 := Fr.nil n0
  refine own_body (QQ := (own_Q18 Z p0  h0 n0)) (ef_18 m p0) ?_
  refine own_via (s₁.setTop (mkF m 1 #[.val (.ref p0), .val (.int (16 : Int32)), .val (.float (1061158912 : UInt32))] [(.ref p0)])) (fun t k => XS.aloadN X0.here hx rfl (hb hby d18_0) rfl rfl k) ?_
  refine own_via (s₁.setTop (mkF m 2 #[.val (.ref p0), .val (.int (16 : Int32)), .val (.float (1061158912 : UInt32))] [(.int (16 : Int32)), (.ref p0)])) (fun t k => XS.iloadN X0.here hx rfl (hb hby d18_1) rfl  k) ?_
  refine own_via (s₁.setTop (mkF m 3 #[.val (.ref p0), .val (.int (16 : Int32)), .val (.float (1061158912 : UInt32))] [(.float (1061158912 : UInt32)), (.int (16 : Int32)), (.ref p0)])) (fun t k => own_floadN X0.here hx rfl (hb hby d18_2) rfl k) ?_
  obtain ⟨_, _, ⟨T281, L281, k281, n281⟩, -, X281, ⟨Lc281, hQ281, l281, y281, z281⟩, st281⟩ := X0.specialBack hx (y := (⟨"java/util/HashMap", "<init>", "(IF)V"⟩ : MethodName)) rfl hown (mvT hZ (hw _ (List.mem_of_getElem? (i := 146) rfl))) (mvT hZ (hw _ (List.mem_of_getElem? (i := 147) rfl))) (mvT hZ (hw _ (List.mem_of_getElem? (i := 150) rfl))) (by decide) (backOf (W := 0) (rm19 l Z a0 hw [] p0 h0 n0 (Nat.le_trans Z0 (Keep.refl h0 [p0]).1) P0 P1 P2 P3 P4 P5 gg_p0) hZ (hw _ (List.mem_of_getElem? (i := 150) rfl)) (hw _ (List.mem_of_getElem? (i := 53) rfl)) (by decide) (by decide)) (g := (mkF m 3 #[.val (.ref p0), .val (.int (16 : Int32)), .val (.float (1061158912 : UInt32))] [(.float (1061158912 : UInt32)), (.int (16 : Int32)), (.ref p0)])) rfl (by rw [hml]; rfl) (Steps.refl _) (a := p0) (argsL := [(.int (16 : Int32)), (.float (1061158912 : UInt32))]) (rest := []) (lenOf pd_9 rfl) rfl (by show 2 * 0 + _ ≤ _; exact Nat.le_of_eq rfl) (hb hby d18_3) (fun _ _ => ⟨rfl, e0, (by decide : 0 + 0 ≤ _), (by decide : 0 + 0 ≤ _)⟩)
  dsimp only [Pt.U, Pt.locs, Pt.cells, Pt.slots] at X281 l281 y281 z281 st281 hQ281
  rw [y281, z281] at X281
  have X281 : Stand _ _ _ _ _ _ _ _ _ _ T281 L281 0 0 := X281
  obtain ⟨h281, e281⟩ : ∃ h, T281.heap = h := ⟨_, rfl⟩
  rw [e281] at hQ281
  obtain ⟨rfl, N281q, K281q, G281_0, G281_1, G281_2, G281_3, G281_4, G281_5⟩ := hQ281
  have N281 : Fr n0 L281 := by rw [l281]; exact Fr.app N0 N281q
  have K282 : Keep h0 h281 [p0] := (Keep.refl h0 [p0]).trans K281q (fun x hx => (List.mem_cons.mp hx).elim (fun e => e ▸ Or.inl (List.mem_of_getElem? (i := 0) rfl)) (fun hx => nomatch hx))
  refine own_via (T281.setTop (mkF m 6 #[.val (.ref p0), .val (.int (16 : Int32)), .val (.float (1061158912 : UInt32))] [])) (fun t k => st281.trans k) ?_
  refine own_via (T281.setTop (mkF m 7 #[.val (.ref p0), .val (.int (16 : Int32)), .val (.float (1061158912 : UInt32))] [(.ref p0)])) (fun t k => XS.aloadN X281.here hx rfl (hb hby d18_6) rfl rfl k) ?_
  refine own_via (T281.setTop (mkF m 8 #[.val (.ref p0), .val (.int (16 : Int32)), .val (.float (1061158912 : UInt32))] [(.int (0 : Int32)), (.ref p0)])) (fun t k => XS.iconst X281.here hx rfl (hb hby d18_7) k) ?_
  obtain ⟨T283, h283, X283, e283, W283, st283⟩ := putF X281 hx hZ hown (host := "") (Or.inl (hw _ (List.mem_of_getElem? (i := 168) rfl))) Via.refl e281 G281_4 G281_0 (Or.inl (hw _ (List.mem_of_getElem? (i := 169) rfl))) (hw _ (List.mem_of_getElem? (i := 140) rfl)) (ty := .int) (by decide) rfl rfl (g := (mkF m 8 #[.val (.ref p0), .val (.int (16 : Int32)), .val (.float (1061158912 : UInt32))] [(.int (0 : Int32)), (.ref p0)])) rfl rfl (hb hby d18_8)
  have Fw283 := G281_4.same W283
  have N283 := Fr.snoc X283 N281 gg_p0
  have K284 : Keep h0 h283 [p0] := K282.wr W283 (Or.inl (List.mem_of_getElem? (i := 0) rfl))
  refine own_via (T283.setTop (mkF m 11 #[.val (.ref p0), .val (.int (16 : Int32)), .val (.float (1061158912 : UInt32))] [])) (fun t k => st283 t k) ?_
  refine own_via (T283.setTop (mkF m 12 #[.val (.ref p0), .val (.int (16 : Int32)), .val (.float (1061158912 : UInt32))] [(.ref p0)])) (fun t k => XS.aloadN X283.here hx rfl (hb hby d18_11) rfl rfl k) ?_
  refine own_via (T283.setTop (mkF m 13 #[.val (.ref p0), .val (.int (16 : Int32)), .val (.float (1061158912 : UInt32))] [(.int (0 : Int32)), (.ref p0)])) (fun t k => XS.iconst X283.here hx rfl (hb hby d18_12) k) ?_
  have F286 := (G281_5.other W283 (Or.inr (slot_ne (Or.inr (hw _ (List.mem_of_getElem? (i := 171) rfl))) (Or.inl (hw _ (List.mem_of_getElem? (i := 169) rfl))) (by decide) (t := .boolean) (t' := .int) (by decide) (by decide))))
  have F287 := (G281_0.wr W283)
  obtain ⟨T285, h285, X285, e285, W285, st285⟩ := putF X283 hx hZ hown (host := "") (Or.inl (hw _ (List.mem_of_getElem? (i := 170) rfl))) Via.refl e283 F286 F287 (Or.inr ⟨(hw _ (List.mem_of_getElem? (i := 171) rfl)), rfl, hnm⟩) (hw _ (List.mem_of_getElem? (i := 140) rfl)) (ty := .boolean) (by decide) rfl rfl (g := (mkF m 13 #[.val (.ref p0), .val (.int (16 : Int32)), .val (.float (1061158912 : UInt32))] [(.int (0 : Int32)), (.ref p0)])) rfl rfl (hb hby d18_13)
  have Fw285 := F286.same W285
  have N285 := Fr.snoc X285 N283 gg_p0
  have K288 : Keep h0 h285 [p0] := K284.wr W285 (Or.inl (List.mem_of_getElem? (i := 0) rfl))
  refine own_via (T285.setTop (mkF m 16 #[.val (.ref p0), .val (.int (16 : Int32)), .val (.float (1061158912 : UInt32))] [])) (fun t k => st285 t k) ?_
  refine own_leave X285 Bd.notSynchronized (v := none) (fun _ => rfl) (fun fs hr => X285.returnOut hx Bd.returns (hb hby d18_16) hr) ?_ (by decide) (by decide)
  have F289 := (F287.wr W285)
  have F290 := ((G281_1.other W283 (Or.inr (slot_ne (Or.inr (hw _ (List.mem_of_getElem? (i := 157) rfl))) (Or.inl (hw _ (List.mem_of_getElem? (i := 169) rfl))) (by decide) (t := .float) (t' := .int) (by decide) (by decide)))).other W285 (Or.inr (slot_ne (Or.inr (hw _ (List.mem_of_getElem? (i := 157) rfl))) (Or.inr (hw _ (List.mem_of_getElem? (i := 171) rfl))) (by decide) (t := .float) (t' := .boolean) (by decide) (by decide))))
  have F291 := ((G281_2.other W283 (Or.inr (slot_ne (Or.inl (hw _ (List.mem_of_getElem? (i := 167) rfl))) (Or.inl (hw _ (List.mem_of_getElem? (i := 169) rfl))) (by decide) (t := .int) (t' := .int) (by decide) (by decide)))).other W285 (Or.inr (slot_ne (Or.inl (hw _ (List.mem_of_getElem? (i := 167) rfl))) (Or.inr (hw _ (List.mem_of_getElem? (i := 171) rfl))) (by decide) (t := .int) (t' := .boolean) (by decide) (by decide))))
  have F292 := ((G281_3.other W283 (Or.inr (slot_ne (Or.inl (hw _ (List.mem_of_getElem? (i := 191) rfl))) (Or.inl (hw _ (List.mem_of_getElem? (i := 169) rfl))) (by decide) (t := .int) (t' := .int) (by decide) (by decide)))).other W285 (Or.inr (slot_ne (Or.inl (hw _ (List.mem_of_getElem? (i := 191) rfl))) (Or.inr (hw _ (List.mem_of_getElem? (i := 171) rfl))) (by decide) (t := .int) (t' := .boolean) (by decide) (by decide))))
  have F293 := (Fw283.other W285 (Or.inr (slot_ne (Or.inl (hw _ (List.mem_of_getElem? (i := 169) rfl))) (Or.inr (hw _ (List.mem_of_getElem? (i := 171) rfl))) (by decide) (t := .int) (t' := .boolean) (by decide) (by decide))))
  show (own_Q18 Z p0  h0 n0) _ T285.heap _
  rw [e285]
  exact ⟨rfl, N285, K288, F289, F290, F291, F292, F293, Fw285⟩
def own_Q16 (Z : State) (p0 : Addr)  (h0 : Heap) (n0 : Nat) (v : Option Value) (h : Heap) (L : List Loc) : Prop := ∃ (r : Addr), v = none ∧ Fr n0 L ∧ Keep h0 h [p0] ∧ n0 ≤ r ∧ h0.size ≤ r ∧ Exa Z h p0 "java/util/LinkedHashSet" ∧ Fld Z h p0 "java/util/HashSet" "map" "Ljava/util/HashMap;" (.ref r) ∧ Exa Z h r "java/util/LinkedHashMap" ∧ Fld Z h r "java/util/HashMap" "size" "I" (.int (0 : Int32))
theorem d16_0 : decode jdk_93_method_5_code 0 = .ok (.aload_n 0, 1) := by decide +kernel
theorem d16_1 : decode jdk_93_method_5_code 1 = .ok (.invokespecial 1, 3) := by decide +kernel
theorem d16_4 : decode jdk_93_method_5_code 4 = .ok (.aload_n 0, 1) := by decide +kernel
theorem d16_5 : decode jdk_93_method_5_code 5 = .ok (.new 42, 3) := by decide +kernel
theorem d16_8 : decode jdk_93_method_5_code 8 = .ok (.dup, 1) := by decide +kernel
theorem d16_9 : decode jdk_93_method_5_code 9 = .ok (.iload_n 1, 1) := by decide +kernel
theorem d16_10 : decode jdk_93_method_5_code 10 = .ok (.fload_n 2, 1) := by decide +kernel
theorem d16_11 : decode jdk_93_method_5_code 11 = .ok (.invokespecial 44, 3) := by decide +kernel
theorem d16_14 : decode jdk_93_method_5_code 14 = .ok (.putfield 10, 3) := by decide +kernel
theorem d16_17 : decode jdk_93_method_5_code 17 = .ok (.return_, 1) := by decide +kernel
theorem pn_java_util_HashSet : plainName "java/util/HashSet" = true := by first | (simp [plainName, overriddenIn]; done) | decide +kernel
theorem ef_16 (m : MethodId) (p0 : Addr) : entryFrame m #[(.ref p0), (.int (16 : Int32)), (.float (1061158912 : UInt32)), (.int (1 : Int32))] 4 = mkF m 0 #[.val (.ref p0), .val (.int (16 : Int32)), .val (.float (1061158912 : UInt32)), .val (.int (1 : Int32))] [] := by first | (simp [entryFrame, mkF, argsToLocals, Value.category]; done) | rfl
set_option maxRecDepth 65536 in
set_option maxHeartbeats 40000000 in
theorem rm16 (l : Launch) (Z : State) (a0 : Array Value) (hw : ∀ d ∈ tables_1, d.before a0 Z = true) (ws : List Jvm.Cond) (p0 : Addr) (h0 : Heap) (n0 : Nat) (Z0 : n0 ≤ h0.size) (P0 : Exa Z h0 p0 "java/util/LinkedHashSet") (P1 : Fld Z h0 p0 "java/util/HashSet" "map" "Ljava/util/HashMap;" .null) (gg_p0 : n0 ≤ p0) :
    MetFree l (⟨"java/util/HashSet", "<init>", "(IFZ)V"⟩ : MethodName) (head1 (Jvm.Cond.code (⟨"java/util/HashSet", "<init>", "(IFZ)V"⟩ : MethodName) jdk_93_method_5_code 4 none :: ws) ({ frames := 4, cells := 1, slots := 12, locals := 58 } : Room)) (fun a U => a = #[(.ref p0), (.int (16 : Int32)), (.float (1061158912 : UInt32)), (.int (1 : Int32))] ∧ Z.Warmed39 U.vm ∧ U.heap = h0) (fun _ _ _ _ _ => True) (fun _ U o U' => ∃ v L, o = .returned v ∧ (own_Q16 Z p0  h0 n0) v U'.heap L ∧ FrameEnd U o U' L ({ frames := 4, cells := 1, slots := 12, locals := 58 } : Room).cells ({ frames := 4, cells := 1, slots := 12, locals := 58 } : Room).slots) := by
  refine MetFree.of_bodySF (plainFor_of_name pn_java_util_HashSet) hisR ?_
  intro p e s m args below meth c s₁ Bd hml0 hP hK
  obtain ⟨rfl, hZ, hh⟩ := hP
  have hx := Bd.exec
  have hby := Bd.bytes
  have hml : c.maxLocals = 4 := hml0
  have hown : s.vm.findClass "java/util/HashSet" = some m.cls := findClass_of_methodNamed Bd.named
  have hnm := (name_of_methodNamed Bd.named Bd.method).1
  have X0 : Stand p l e ({ frames := 4, cells := 1, slots := 12, locals := 58 } : Room) s m #[(.ref p0), (.int (16 : Int32)), (.float (1061158912 : UInt32)), (.int (1 : Int32))] below meth c s₁ [] 0 0 := Stand.of_body Bd
  have e0 : s₁.heap = h0 := by rw [← hh, Bd.state]; rfl
  have N0 := Fr.nil n0
  refine own_body (QQ := (own_Q16 Z p0  h0 n0)) (ef_16 m p0) ?_
  refine own_via (s₁.setTop (mkF m 1 #[.val (.ref p0), .val (.int (16 : Int32)), .val (.float (1061158912 : UInt32)), .val (.int (1 : Int32))] [(.ref p0)])) (fun t k => XS.aloadN X0.here hx rfl (hb hby d16_0) rfl rfl k) ?_
  obtain ⟨_, _, ⟨T294, L294, k294, n294⟩, -, X294, ⟨Lc294, hQ294, l294, y294, z294⟩, st294⟩ := X0.specialBack hx (y := (⟨"java/util/AbstractSet", "<init>", "()V"⟩ : MethodName)) rfl hown (mvT hZ (hw _ (List.mem_of_getElem? (i := 131) rfl))) (mvT hZ (hw _ (List.mem_of_getElem? (i := 132) rfl))) (mvT hZ (hw _ (List.mem_of_getElem? (i := 136) rfl))) (by decide) (backOf (W := 0) (rm17 l Z a0 hw [] p0 h0 n0 (Nat.le_trans Z0 (Keep.refl h0 [p0]).1)) hZ (hw _ (List.mem_of_getElem? (i := 136) rfl)) (hw _ (List.mem_of_getElem? (i := 135) rfl)) (by decide) (by decide)) (g := (mkF m 1 #[.val (.ref p0), .val (.int (16 : Int32)), .val (.float (1061158912 : UInt32)), .val (.int (1 : Int32))] [(.ref p0)])) rfl (by rw [hml]; rfl) (Steps.refl _) (a := p0) (argsL := []) (rest := []) (lenOf pd_0 rfl) rfl (by show 2 * 0 + _ ≤ _; exact Nat.le_of_eq rfl) (hb hby d16_1) (fun _ _ => ⟨rfl, e0, (by decide : 0 + 0 ≤ _), (by decide : 0 + 0 ≤ _)⟩)
  dsimp only [Pt.U, Pt.locs, Pt.cells, Pt.slots] at X294 l294 y294 z294 st294 hQ294
  rw [y294, z294] at X294
  have X294 : Stand _ _ _ _ _ _ _ _ _ _ T294 L294 0 0 := X294
  obtain ⟨rfl, N294q, e294⟩ := hQ294
  have N294 : Fr n0 L294 := by rw [l294]; exact Fr.app N0 N294q
  refine own_via (T294.setTop (mkF m 4 #[.val (.ref p0), .val (.int (16 : Int32)), .val (.float (1061158912 : UInt32)), .val (.int (1 : Int32))] [])) (fun t k => st294.trans k) ?_
  refine own_via (T294.setTop (mkF m 5 #[.val (.ref p0), .val (.int (16 : Int32)), .val (.float (1061158912 : UInt32)), .val (.int (1 : Int32))] [(.ref p0)])) (fun t k => XS.aloadN X294.here hx rfl (hb hby d16_4) rfl rfl k) ?_
  obtain ⟨T295, h295, X295, e295, E295, A295, D295, -, st295⟩ := newO X294 hx hZ hown (hw _ (List.mem_of_getElem? (i := 139) rfl)) (hw _ (List.mem_of_getElem? (i := 140) rfl)) (hw _ (List.mem_of_getElem? (i := 141) rfl)) e294 (g := (mkF m 5 #[.val (.ref p0), .val (.int (16 : Int32)), .val (.float (1061158912 : UInt32)), .val (.int (1 : Int32))] [(.ref p0)])) rfl (hb hby d16_5) (by decide) (by decide)
  obtain ⟨b295, g295⟩ : ∃ z, z = h0.size := ⟨_, rfl⟩
  rw [← g295] at A295 D295 st295
  have gg_b295 : n0 ≤ b295 := Nat.le_trans (Nat.le_trans Z0 (Keep.refl h0 [p0]).1) (Nat.le_of_eq g295.symm)
  have sz_b295 : h0.size ≤ b295 := Nat.le_trans (Keep.refl h0 [p0]).1 (Nat.le_of_eq g295.symm)
  have ne_p0_b295 : p0 ≠ b295 := Nat.ne_of_lt (Nat.lt_of_lt_of_le P0.lt (Nat.le_of_eq g295.symm))
  have F_loadFactor_b295 : Fld Z h295 b295 "java/util/HashMap" "loadFactor" "F" (.float (0 : UInt32)) := D295 (Or.inr (hw _ (List.mem_of_getElem? (i := 157) rfl))) (ty := .float) (by decide)
  have F_threshold_b295 : Fld Z h295 b295 "java/util/HashMap" "threshold" "I" (.int (0 : Int32)) := D295 (Or.inl (hw _ (List.mem_of_getElem? (i := 167) rfl))) (ty := .int) (by decide)
  have F_putMode_b295 : Fld Z h295 b295 "java/util/LinkedHashMap" "putMode" "I" (.int (0 : Int32)) := D295 (Or.inl (hw _ (List.mem_of_getElem? (i := 169) rfl))) (ty := .int) (by decide)
  have F_accessOrder_b295 : Fld Z h295 b295 "java/util/LinkedHashMap" "accessOrder" "Z" (.int (0 : Int32)) := D295 (Or.inr (hw _ (List.mem_of_getElem? (i := 171) rfl))) (ty := .boolean) (by decide)
  have F_size_b295 : Fld Z h295 b295 "java/util/HashMap" "size" "I" (.int (0 : Int32)) := D295 (Or.inl (hw _ (List.mem_of_getElem? (i := 191) rfl))) (ty := .int) (by decide)
  have K296 : Keep h0 h295 [p0] := (Keep.refl h0 [p0]).ext E295
  refine own_via (T295.setTop (mkF m 8 #[.val (.ref p0), .val (.int (16 : Int32)), .val (.float (1061158912 : UInt32)), .val (.int (1 : Int32))] [(.ref b295), (.ref p0)])) (fun t k => st295 t k) ?_
  refine own_via (T295.setTop (mkF m 9 #[.val (.ref p0), .val (.int (16 : Int32)), .val (.float (1061158912 : UInt32)), .val (.int (1 : Int32))] [(.ref b295), (.ref b295), (.ref p0)])) (fun t k => XS.dup X295.here hx rfl (hb hby d16_8) rfl rfl k) ?_
  refine own_via (T295.setTop (mkF m 10 #[.val (.ref p0), .val (.int (16 : Int32)), .val (.float (1061158912 : UInt32)), .val (.int (1 : Int32))] [(.int (16 : Int32)), (.ref b295), (.ref b295), (.ref p0)])) (fun t k => XS.iloadN X295.here hx rfl (hb hby d16_9) rfl  k) ?_
  refine own_via (T295.setTop (mkF m 11 #[.val (.ref p0), .val (.int (16 : Int32)), .val (.float (1061158912 : UInt32)), .val (.int (1 : Int32))] [(.float (1061158912 : UInt32)), (.int (16 : Int32)), (.ref b295), (.ref b295), (.ref p0)])) (fun t k => own_floadN X295.here hx rfl (hb hby d16_10) rfl k) ?_
  obtain ⟨_, _, ⟨T297, L297, k297, n297⟩, -, X297, ⟨Lc297, hQ297, l297, y297, z297⟩, st297⟩ := X295.specialBack hx (y := (⟨"java/util/LinkedHashMap", "<init>", "(IF)V"⟩ : MethodName)) rfl hown (mvT hZ (hw _ (List.mem_of_getElem? (i := 142) rfl))) (mvT hZ (hw _ (List.mem_of_getElem? (i := 143) rfl))) (mvT hZ (hw _ (List.mem_of_getElem? (i := 145) rfl))) (by decide) (backOf (W := 2) (rm18 l Z a0 hw [] b295 h295 n0 (Nat.le_trans Z0 K296.1) A295 F_loadFactor_b295 F_threshold_b295 F_size_b295 F_putMode_b295 F_accessOrder_b295 gg_b295) hZ (hw _ (List.mem_of_getElem? (i := 145) rfl)) (hw _ (List.mem_of_getElem? (i := 141) rfl)) (by decide) (by decide)) (g := (mkF m 11 #[.val (.ref p0), .val (.int (16 : Int32)), .val (.float (1061158912 : UInt32)), .val (.int (1 : Int32))] [(.float (1061158912 : UInt32)), (.int (16 : Int32)), (.ref b295), (.ref b295), (.ref p0)])) rfl (by rw [hml]; rfl) (Steps.refl _) (a := b295) (argsL := [(.int (16 : Int32)), (.float (1061158912 : UInt32))]) (rest := [(.ref b295), (.ref p0)]) (lenOf pd_9 rfl) rfl (by show 2 * 0 + _ ≤ _; exact Nat.le_of_eq rfl) (hb hby d16_11) (fun _ _ => ⟨rfl, e295, (by decide : 1 + 0 ≤ _), (by decide : 12 + 0 ≤ _)⟩)
  dsimp only [Pt.U, Pt.locs, Pt.cells, Pt.slots] at X297 l297 y297 z297 st297 hQ297
  rw [y297, z297] at X297
  have X297 : Stand _ _ _ _ _ _ _ _ _ _ T297 L297 1 12 := X297
  obtain ⟨h297, e297⟩ : ∃ h, T297.heap = h := ⟨_, rfl⟩
  rw [e297] at hQ297
  obtain ⟨rfl, N297q, K297q, G297_0, G297_1, G297_2, G297_3, G297_4, G297_5⟩ := hQ297
  have N297 : Fr n0 L297 := by rw [l297]; exact Fr.app N294 N297q
  have K298 : Keep h0 h297 [p0] := K296.trans K297q (fun x hx => (List.mem_cons.mp hx).elim (fun e => e ▸ Or.inr sz_b295) (fun hx => nomatch hx))
  refine own_via (T297.setTop (mkF m 14 #[.val (.ref p0), .val (.int (16 : Int32)), .val (.float (1061158912 : UInt32)), .val (.int (1 : Int32))] [(.ref b295), (.ref p0)])) (fun t k => st297.trans k) ?_
  have F300 := ((P1.ext E295).keep K297q (fun q => ne_p0_b295 (List.mem_singleton.mp q)))
  have F301 := ((P0.ext E295).keep K297q)
  obtain ⟨T299, h299, X299, e299, W299, st299⟩ := putF X297 hx hZ hown (host := "") (Or.inl (hw _ (List.mem_of_getElem? (i := 172) rfl))) Via.refl e297 F300 F301 (Or.inl (hw _ (List.mem_of_getElem? (i := 173) rfl))) (hw _ (List.mem_of_getElem? (i := 119) rfl)) (ty := (.object "java/util/HashMap")) (by decide) rfl rfl (g := (mkF m 14 #[.val (.ref p0), .val (.int (16 : Int32)), .val (.float (1061158912 : UInt32)), .val (.int (1 : Int32))] [(.ref b295), (.ref p0)])) rfl rfl (hb hby d16_14)
  have Fw299 := F300.same W299
  have N299 := Fr.snoc X299 N297 gg_p0
  have K302 : Keep h0 h299 [p0] := K298.wr W299 (Or.inl (List.mem_of_getElem? (i := 0) rfl))
  refine own_via (T299.setTop (mkF m 17 #[.val (.ref p0), .val (.int (16 : Int32)), .val (.float (1061158912 : UInt32)), .val (.int (1 : Int32))] [])) (fun t k => st299 t k) ?_
  refine own_leave X299 Bd.notSynchronized (v := none) (fun _ => rfl) (fun fs hr => X299.returnOut hx Bd.returns (hb hby d16_17) hr) ?_ (by decide) (by decide)
  have F303 := (F301.wr W299)
  have F304 := (G297_0.wr W299)
  have F305 := (G297_3.other W299 (Or.inl (Ne.symm ne_p0_b295)))
  show (own_Q16 Z p0  h0 n0) _ T299.heap _
  rw [e299]
  exact ⟨b295, rfl, N299, K302, gg_b295, sz_b295, F303, Fw299, F304, F305⟩
def own_Q15 (Z : State) (p0 : Addr)  (h0 : Heap) (n0 : Nat) (v : Option Value) (h : Heap) (L : List Loc) : Prop := ∃ (r : Addr), v = none ∧ Fr n0 L ∧ Keep h0 h [p0] ∧ n0 ≤ r ∧ h0.size ≤ r ∧ Exa Z h p0 "java/util/LinkedHashSet" ∧ Fld Z h p0 "java/util/HashSet" "map" "Ljava/util/HashMap;" (.ref r) ∧ Exa Z h r "java/util/LinkedHashMap" ∧ Fld Z h r "java/util/HashMap" "size" "I" (.int (0 : Int32))
theorem d15_0 : decode jdk_2620_method_3_code 0 = .ok (.aload_n 0, 1) := by decide +kernel
theorem d15_1 : decode jdk_2620_method_3_code 1 = .ok (.bipush 16, 2) := by decide +kernel
theorem d15_3 : decode jdk_2620_method_3_code 3 = .ok (.ldc 7, 2) := by decide +kernel
theorem d15_5 : decode jdk_2620_method_3_code 5 = .ok (.iconst 1, 1) := by decide +kernel
theorem d15_6 : decode jdk_2620_method_3_code 6 = .ok (.invokespecial 1, 3) := by decide +kernel
theorem d15_9 : decode jdk_2620_method_3_code 9 = .ok (.return_, 1) := by decide +kernel
theorem pd_10 : parseMethodDescriptor "(IFZ)V" = some ⟨[.int, .float, .boolean], none⟩ := by decide +kernel
theorem pn_java_util_LinkedHashSet : plainName "java/util/LinkedHashSet" = true := by first | (simp [plainName, overriddenIn]; done) | decide +kernel
theorem ef_15 (m : MethodId) (p0 : Addr) : entryFrame m #[(.ref p0)] 1 = mkF m 0 #[.val (.ref p0)] [] := by first | (simp [entryFrame, mkF, argsToLocals, Value.category]; done) | rfl
set_option maxRecDepth 65536 in
set_option maxHeartbeats 40000000 in
theorem rm15 (l : Launch) (Z : State) (a0 : Array Value) (hw : ∀ d ∈ tables_1, d.before a0 Z = true) (ws : List Jvm.Cond) (p0 : Addr) (h0 : Heap) (n0 : Nat) (Z0 : n0 ≤ h0.size) (P0 : Exa Z h0 p0 "java/util/LinkedHashSet") (P1 : Fld Z h0 p0 "java/util/HashSet" "map" "Ljava/util/HashMap;" .null) (gg_p0 : n0 ≤ p0) :
    MetFree l (⟨"java/util/LinkedHashSet", "<init>", "()V"⟩ : MethodName) (head1 (Jvm.Cond.code (⟨"java/util/LinkedHashSet", "<init>", "()V"⟩ : MethodName) jdk_2620_method_3_code 1 none :: ws) ({ frames := 5, cells := 1, slots := 12, locals := 73 } : Room)) (fun a U => a = #[(.ref p0)] ∧ Z.Warmed39 U.vm ∧ U.heap = h0) (fun _ _ _ _ _ => True) (fun _ U o U' => ∃ v L, o = .returned v ∧ (own_Q15 Z p0  h0 n0) v U'.heap L ∧ FrameEnd U o U' L ({ frames := 5, cells := 1, slots := 12, locals := 73 } : Room).cells ({ frames := 5, cells := 1, slots := 12, locals := 73 } : Room).slots) := by
  refine MetFree.of_bodySF (plainFor_of_name pn_java_util_LinkedHashSet) hisR ?_
  intro p e s m args below meth c s₁ Bd hml0 hP hK
  obtain ⟨rfl, hZ, hh⟩ := hP
  have hx := Bd.exec
  have hby := Bd.bytes
  have hml : c.maxLocals = 1 := hml0
  have hown : s.vm.findClass "java/util/LinkedHashSet" = some m.cls := findClass_of_methodNamed Bd.named
  have hnm := (name_of_methodNamed Bd.named Bd.method).1
  have X0 : Stand p l e ({ frames := 5, cells := 1, slots := 12, locals := 73 } : Room) s m #[(.ref p0)] below meth c s₁ [] 0 0 := Stand.of_body Bd
  have e0 : s₁.heap = h0 := by rw [← hh, Bd.state]; rfl
  have N0 := Fr.nil n0
  refine own_body (QQ := (own_Q15 Z p0  h0 n0)) (ef_15 m p0) ?_
  refine own_via (s₁.setTop (mkF m 1 #[.val (.ref p0)] [(.ref p0)])) (fun t k => XS.aloadN X0.here hx rfl (hb hby d15_0) rfl rfl k) ?_
  refine own_via (s₁.setTop (mkF m 3 #[.val (.ref p0)] [(.int (16 : Int32)), (.ref p0)])) (fun t k => XS.bipush X0.here hx rfl (hb hby d15_1) k) ?_
  refine own_via (s₁.setTop (mkF m 5 #[.val (.ref p0)] [(.float (1061158912 : UInt32)), (.int (16 : Int32)), (.ref p0)])) (fun t k => X0.ldcFloatC hx hown (mvT hZ (hw _ (List.mem_of_getElem? (i := 124) rfl))) (g := (mkF m 3 #[.val (.ref p0)] [(.int (16 : Int32)), (.ref p0)])) rfl (hb hby d15_3) _ k) ?_
  refine own_via (s₁.setTop (mkF m 6 #[.val (.ref p0)] [(.int (1 : Int32)), (.float (1061158912 : UInt32)), (.int (16 : Int32)), (.ref p0)])) (fun t k => XS.iconst X0.here hx rfl (hb hby d15_5) k) ?_
  obtain ⟨_, _, ⟨T306, L306, k306, n306⟩, -, X306, ⟨Lc306, hQ306, l306, y306, z306⟩, st306⟩ := X0.specialBack hx (y := (⟨"java/util/HashSet", "<init>", "(IFZ)V"⟩ : MethodName)) rfl hown (mvT hZ (hw _ (List.mem_of_getElem? (i := 125) rfl))) (mvT hZ (hw _ (List.mem_of_getElem? (i := 126) rfl))) (mvT hZ (hw _ (List.mem_of_getElem? (i := 130) rfl))) (by decide) (backOf (W := 0) (rm16 l Z a0 hw [] p0 h0 n0 (Nat.le_trans Z0 (Keep.refl h0 [p0]).1) P0 P1 gg_p0) hZ (hw _ (List.mem_of_getElem? (i := 130) rfl)) (hw _ (List.mem_of_getElem? (i := 129) rfl)) (by decide) (by decide)) (g := (mkF m 6 #[.val (.ref p0)] [(.int (1 : Int32)), (.float (1061158912 : UInt32)), (.int (16 : Int32)), (.ref p0)])) rfl (by rw [hml]; rfl) (Steps.refl _) (a := p0) (argsL := [(.int (16 : Int32)), (.float (1061158912 : UInt32)), (.int (1 : Int32))]) (rest := []) (lenOf pd_10 rfl) rfl (by show 2 * 0 + _ ≤ _; exact Nat.le_of_eq rfl) (hb hby d15_6) (fun _ _ => ⟨rfl, e0, (by decide : 0 + 1 ≤ _), (by decide : 0 + 12 ≤ _)⟩)
  dsimp only [Pt.U, Pt.locs, Pt.cells, Pt.slots] at X306 l306 y306 z306 st306 hQ306
  rw [y306, z306] at X306
  have X306 : Stand _ _ _ _ _ _ _ _ _ _ T306 L306 1 12 := X306
  obtain ⟨h306, e306⟩ : ∃ h, T306.heap = h := ⟨_, rfl⟩
  rw [e306] at hQ306
  obtain ⟨r_306, rfl, N306q, K306q, gg_r_306, sq_r_306, G306_0, G306_1, G306_2, G306_3⟩ := hQ306
  have N306 : Fr n0 L306 := by rw [l306]; exact Fr.app N0 N306q
  have sz_r_306 : h0.size ≤ r_306 := Nat.le_trans (Keep.refl h0 [p0]).1 sq_r_306
  have ne_p0_r_306 : p0 ≠ r_306 := Nat.ne_of_lt (Nat.lt_of_lt_of_le P0.lt sq_r_306)
  have K307 : Keep h0 h306 [p0] := (Keep.refl h0 [p0]).trans K306q (fun x hx => (List.mem_cons.mp hx).elim (fun e => e ▸ Or.inl (List.mem_of_getElem? (i := 0) rfl)) (fun hx => nomatch hx))
  refine own_via (T306.setTop (mkF m 9 #[.val (.ref p0)] [])) (fun t k => st306.trans k) ?_
  refine own_leave X306 Bd.notSynchronized (v := none) (fun _ => rfl) (fun fs hr => X306.returnOut hx Bd.returns (hb hby d15_9) hr) ?_ (by decide) (by decide)
  show (own_Q15 Z p0  h0 n0) _ T306.heap _
  rw [e306]
  exact ⟨r_306, rfl, N306, K307, gg_r_306, sz_r_306, G306_0, G306_1, G306_2, G306_3⟩
def own_Q24 (Z : State) (p0 : Addr)  (h0 : Heap) (n0 : Nat) (v : Option Value) (h : Heap) (L : List Loc) : Prop := v = some (.int (1 : Int32)) ∧ Fr n0 L ∧ h = h0
theorem d24_0 : decode jdk_69_method_11_code 0 = .ok (.aload_n 0, 1) := by decide +kernel
theorem d24_1 : decode jdk_69_method_11_code 1 = .ok (.getfield 156, 3) := by decide +kernel
theorem d24_4 : decode jdk_69_method_11_code 4 = .ok (.ifCond .ne 7, 3) := by decide +kernel
theorem d24_7 : decode jdk_69_method_11_code 7 = .ok (.iconst 1, 1) := by decide +kernel
theorem d24_8 : decode jdk_69_method_11_code 8 = .ok (.goto 4, 3) := by decide +kernel
theorem d24_12 : decode jdk_69_method_11_code 12 = .ok (.ireturn, 1) := by decide +kernel
theorem ef_24 (m : MethodId) (p0 : Addr) : entryFrame m #[(.ref p0)] 1 = mkF m 0 #[.val (.ref p0)] [] := by first | (simp [entryFrame, mkF, argsToLocals, Value.category]; done) | rfl
set_option maxRecDepth 65536 in
set_option maxHeartbeats 40000000 in
theorem rm24 (l : Launch) (Z : State) (a0 : Array Value) (hw : ∀ d ∈ tables_1, d.before a0 Z = true) (ws : List Jvm.Cond) (p0 : Addr) (h0 : Heap) (n0 : Nat) (Z0 : n0 ≤ h0.size) (P0 : Fld Z h0 p0 "java/util/HashMap" "size" "I" (.int (0 : Int32))) :
    MetFree l (⟨"java/util/HashMap", "isEmpty", "()Z"⟩ : MethodName) (head1 (Jvm.Cond.code (⟨"java/util/HashMap", "isEmpty", "()Z"⟩ : MethodName) jdk_69_method_11_code 1 (some .boolean) :: ws) ({ frames := 0, cells := 0, slots := 0, locals := 0 } : Room)) (fun a U => a = #[(.ref p0)] ∧ Z.Warmed39 U.vm ∧ U.heap = h0) (fun _ _ _ _ _ => True) (fun _ U o U' => ∃ v L, o = .returned v ∧ (own_Q24 Z p0  h0 n0) v U'.heap L ∧ FrameEnd U o U' L ({ frames := 0, cells := 0, slots := 0, locals := 0 } : Room).cells ({ frames := 0, cells := 0, slots := 0, locals := 0 } : Room).slots) := by
  refine MetFree.of_bodySF (plainFor_of_name pn_java_util_HashMap) hisR ?_
  intro p e s m args below meth c s₁ Bd hml0 hP hK
  obtain ⟨rfl, hZ, hh⟩ := hP
  have hx := Bd.exec
  have hby := Bd.bytes
  have hml : c.maxLocals = 1 := hml0
  have hown : s.vm.findClass "java/util/HashMap" = some m.cls := findClass_of_methodNamed Bd.named
  have hnm := (name_of_methodNamed Bd.named Bd.method).1
  have X0 : Stand p l e ({ frames := 0, cells := 0, slots := 0, locals := 0 } : Room) s m #[(.ref p0)] below meth c s₁ [] 0 0 := Stand.of_body Bd
  have e0 : s₁.heap = h0 := by rw [← hh, Bd.state]; rfl
  have N0 := Fr.nil n0
  refine own_body (QQ := (own_Q24 Z p0  h0 n0)) (ef_24 m p0) ?_
  refine own_via (s₁.setTop (mkF m 1 #[.val (.ref p0)] [(.ref p0)])) (fun t k => XS.aloadN X0.here hx rfl (hb hby d24_0) rfl rfl k) ?_
  obtain ⟨T308, X308, e308, st308⟩ := getF X0 hx hZ hown (host := "") (Or.inl (hw _ (List.mem_of_getElem? (i := 190) rfl))) Via.refl e0 P0 (g := (mkF m 1 #[.val (.ref p0)] [(.ref p0)])) rfl rfl (hb hby d24_1)
  refine own_via (T308.setTop (mkF m 4 #[.val (.ref p0)] [(.int (0 : Int32))])) (fun t k => st308 t k) ?_
  refine own_via (T308.setTop (mkF m 7 #[.val (.ref p0)] [])) (fun t k => XS.ifNo X308.here hx rfl (hb hby d24_4) rfl ((if0 _ _).trans (teq (by decide)).2) k) ?_
  refine own_via (T308.setTop (mkF m 8 #[.val (.ref p0)] [(.int (1 : Int32))])) (fun t k => XS.iconst X308.here hx rfl (hb hby d24_7) k) ?_
  refine own_via (T308.setTop (mkF m 12 #[.val (.ref p0)] [(.int (1 : Int32))])) (fun t k => XS.goto X308.here hx rfl (pc0 := 8) (pc' := 12) rfl (hb hby d24_8) (by decide) (by decide) k) ?_
  refine own_leave X308 Bd.notSynchronized (v := some (.int (1 : Int32))) (fun h => by rw [Bd.returns] at h; cases h) (fun fs hr => retN X308 hx (t := .boolean) Bd.returns (by simp) (hb hby d24_12) hr) ?_ (by decide) (by decide)
  exact ⟨rfl, N0, e308⟩
def own_Q23 (Z : State) (p0 : Addr) (q : Addr) (h0 : Heap) (n0 : Nat) (v : Option Value) (h : Heap) (L : List Loc) : Prop := v = some (.int (1 : Int32)) ∧ Fr n0 L ∧ h = h0
theorem d23_0 : decode jdk_93_method_8_code 0 = .ok (.aload_n 0, 1) := by decide +kernel
theorem d23_1 : decode jdk_93_method_8_code 1 = .ok (.getfield 10, 3) := by decide +kernel
theorem d23_4 : decode jdk_93_method_8_code 4 = .ok (.invokevirtual 56, 3) := by decide +kernel
theorem d23_7 : decode jdk_93_method_8_code 7 = .ok (.ireturn, 1) := by decide +kernel
theorem pd_11 : parseMethodDescriptor "()Z" = some ⟨[], some .boolean⟩ := by decide +kernel
theorem ef_23 (m : MethodId) (p0 : Addr) : entryFrame m #[(.ref p0)] 1 = mkF m 0 #[.val (.ref p0)] [] := by first | (simp [entryFrame, mkF, argsToLocals, Value.category]; done) | rfl
set_option maxRecDepth 65536 in
set_option maxHeartbeats 40000000 in
theorem rm23 (l : Launch) (Z : State) (a0 : Array Value) (hw : ∀ d ∈ tables_1, d.before a0 Z = true) (ws : List Jvm.Cond) (p0 : Addr) (h0 : Heap) (n0 : Nat) (Z0 : n0 ≤ h0.size) (q : Addr) (P0 : Fld Z h0 p0 "java/util/HashSet" "map" "Ljava/util/HashMap;" (.ref q)) (P1 : Fld Z h0 q "java/util/HashMap" "size" "I" (.int (0 : Int32))) (P2 : Exa Z h0 q "java/util/LinkedHashMap") :
    MetFree l (⟨"java/util/HashSet", "isEmpty", "()Z"⟩ : MethodName) (head1 (Jvm.Cond.code (⟨"java/util/HashSet", "isEmpty", "()Z"⟩ : MethodName) jdk_93_method_8_code 1 (some .boolean) :: ws) ({ frames := 1, cells := 0, slots := 0, locals := 12 } : Room)) (fun a U => a = #[(.ref p0)] ∧ Z.Warmed39 U.vm ∧ U.heap = h0) (fun _ _ _ _ _ => True) (fun _ U o U' => ∃ v L, o = .returned v ∧ (own_Q23 Z p0 q h0 n0) v U'.heap L ∧ FrameEnd U o U' L ({ frames := 1, cells := 0, slots := 0, locals := 12 } : Room).cells ({ frames := 1, cells := 0, slots := 0, locals := 12 } : Room).slots) := by
  refine MetFree.of_bodySF (plainFor_of_name pn_java_util_HashSet) hisR ?_
  intro p e s m args below meth c s₁ Bd hml0 hP hK
  obtain ⟨rfl, hZ, hh⟩ := hP
  have hx := Bd.exec
  have hby := Bd.bytes
  have hml : c.maxLocals = 1 := hml0
  have hown : s.vm.findClass "java/util/HashSet" = some m.cls := findClass_of_methodNamed Bd.named
  have hnm := (name_of_methodNamed Bd.named Bd.method).1
  have X0 : Stand p l e ({ frames := 1, cells := 0, slots := 0, locals := 12 } : Room) s m #[(.ref p0)] below meth c s₁ [] 0 0 := Stand.of_body Bd
  have e0 : s₁.heap = h0 := by rw [← hh, Bd.state]; rfl
  have N0 := Fr.nil n0
  refine own_body (QQ := (own_Q23 Z p0 q h0 n0)) (ef_23 m p0) ?_
  refine own_via (s₁.setTop (mkF m 1 #[.val (.ref p0)] [(.ref p0)])) (fun t k => XS.aloadN X0.here hx rfl (hb hby d23_0) rfl rfl k) ?_
  obtain ⟨T309, X309, e309, st309⟩ := getF X0 hx hZ hown (host := "") (Or.inl (hw _ (List.mem_of_getElem? (i := 172) rfl))) Via.refl e0 P0 (g := (mkF m 1 #[.val (.ref p0)] [(.ref p0)])) rfl rfl (hb hby d23_1)
  refine own_via (T309.setTop (mkF m 4 #[.val (.ref p0)] [(.ref q)])) (fun t k => st309 t k) ?_
  obtain ⟨cq310, kq310, q310a, q310b, q310c⟩ := isOf hZ e309 P2
  obtain ⟨_, _, ⟨T310, L310, k310, n310⟩, -, X310, ⟨Lc310, hQ310, l310, y310, z310⟩, st310⟩ := X309.virtualBack hx (y := (⟨"java/util/HashMap", "isEmpty", "()Z"⟩ : MethodName)) (z := (⟨"java/util/HashMap", "isEmpty", "()Z"⟩ : MethodName)) hown (mvT hZ (hw _ (List.mem_of_getElem? (i := 185) rfl))) (mvT hZ (hw _ (List.mem_of_getElem? (i := 186) rfl))) (notFace_of_selects (args := #[]) (mvT hZ (hw _ (List.mem_of_getElem? (i := 188) rfl)))) (mvT hZ (hw _ (List.mem_of_getElem? (i := 188) rfl))) (mvT hZ (hw _ (List.mem_of_getElem? (i := 187) rfl))) (by decide) (backOf (W := 0) (rm24 l Z a0 hw [] q h0 n0 (Nat.le_trans Z0 (Keep.refl h0 []).1) P1) hZ (hw _ (List.mem_of_getElem? (i := 189) rfl)) (hw _ (List.mem_of_getElem? (i := 53) rfl)) (by decide) (by decide)) q310a q310c (g := (mkF m 4 #[.val (.ref p0)] [(.ref q)])) rfl (by rw [hml]; rfl) (Steps.refl _) (argsL := []) (rest := []) (lenOf pd_11 rfl) rfl (by show 2 * 0 + _ ≤ _; exact Nat.le_of_eq rfl) (hb hby d23_4) (fun _ _ => ⟨rfl, e309, (by decide : 0 + 0 ≤ _), (by decide : 0 + 0 ≤ _)⟩)
  dsimp only [Pt.U, Pt.locs, Pt.cells, Pt.slots] at X310 l310 y310 z310 st310 hQ310
  rw [y310, z310] at X310
  have X310 : Stand _ _ _ _ _ _ _ _ _ _ T310 L310 0 0 := X310
  obtain ⟨rfl, N310q, e310⟩ := hQ310
  have N310 : Fr n0 L310 := by rw [l310]; exact Fr.app N0 N310q
  refine own_via (T310.setTop (mkF m 7 #[.val (.ref p0)] [(.int (1 : Int32))])) (fun t k => st310.trans k) ?_
  refine own_leave X310 Bd.notSynchronized (v := some (.int (1 : Int32))) (fun h => by rw [Bd.returns] at h; cases h) (fun fs hr => retN X310 hx (t := .boolean) Bd.returns (by simp) (hb hby d23_7) hr) ?_ (by decide) (by decide)
  exact ⟨rfl, N310, e310⟩
def own_Q14 (Z : State) (p1 : Addr) (mc : Int32) (el : Addr) (tA : Addr) (fA : Addr) (h0 : Heap) (n0 : Nat) (v : Option Value) (h : Heap) (L : List Loc) : Prop := v = some (.ref tA) ∧ Fr n0 L ∧ Keep h0 h [] ∧ Exa Z h p1 "java/util/ArrayList"
theorem d14_0 : decode prog_23_method_17_code 0 = .ok (.iload_n 0, 1) := by decide +kernel
theorem d14_1 : decode prog_23_method_17_code 1 = .ok (.ifCond .eq 9, 3) := by decide +kernel
theorem d14_4 : decode prog_23_method_17_code 4 = .ok (.getstatic 110, 3) := by decide +kernel
theorem d14_7 : decode prog_23_method_17_code 7 = .ok (.goto 6, 3) := by decide +kernel
theorem d14_13 : decode prog_23_method_17_code 13 = .ok (.astore_n 2, 1) := by decide +kernel
theorem d14_14 : decode prog_23_method_17_code 14 = .ok (.iload_n 0, 1) := by decide +kernel
theorem d14_15 : decode prog_23_method_17_code 15 = .ok (.ifCond .eq 9, 3) := by decide +kernel
theorem d14_18 : decode prog_23_method_17_code 18 = .ok (.getstatic 57, 3) := by decide +kernel
theorem d14_21 : decode prog_23_method_17_code 21 = .ok (.goto 6, 3) := by decide +kernel
theorem d14_27 : decode prog_23_method_17_code 27 = .ok (.astore_n 3, 1) := by decide +kernel
theorem d14_28 : decode prog_23_method_17_code 28 = .ok (.new 7, 3) := by decide +kernel
theorem d14_31 : decode prog_23_method_17_code 31 = .ok (.dup, 1) := by decide +kernel
theorem d14_32 : decode prog_23_method_17_code 32 = .ok (.invokespecial 9, 3) := by decide +kernel
theorem d14_35 : decode prog_23_method_17_code 35 = .ok (.astore 4, 2) := by decide +kernel
theorem d14_37 : decode prog_23_method_17_code 37 = .ok (.aload_n 1, 1) := by decide +kernel
theorem d14_38 : decode prog_23_method_17_code 38 = .ok (.invokeinterface 26 1, 5) := by decide +kernel
theorem d14_43 : decode prog_23_method_17_code 43 = .ok (.astore 5, 2) := by decide +kernel
theorem d14_45 : decode prog_23_method_17_code 45 = .ok (.aload 5, 2) := by decide +kernel
theorem d14_47 : decode prog_23_method_17_code 47 = .ok (.invokeinterface 32 1, 5) := by decide +kernel
theorem d14_52 : decode prog_23_method_17_code 52 = .ok (.ifCond .eq 82, 3) := by decide +kernel
theorem d14_134 : decode prog_23_method_17_code 134 = .ok (.aload 4, 2) := by decide +kernel
theorem d14_136 : decode prog_23_method_17_code 136 = .ok (.invokeinterface 123 1, 5) := by decide +kernel
theorem d14_141 : decode prog_23_method_17_code 141 = .ok (.ifCond .eq 5, 3) := by decide +kernel
theorem d14_144 : decode prog_23_method_17_code 144 = .ok (.aload_n 2, 1) := by decide +kernel
theorem d14_145 : decode prog_23_method_17_code 145 = .ok (.areturn, 1) := by decide +kernel
theorem pd_12 : parseMethodDescriptor "()Ljava/util/Iterator;" = some ⟨[], some (.object "java/util/Iterator")⟩ := by decide +kernel
theorem pn_com_example_unweave_unweave_arith_Formula : plainName "com/example/unweave/unweave/arith/Formula" = true := by first | (simp [plainName, overriddenIn]; done) | decide +kernel
theorem ef_14 (m : MethodId) (p1 : Addr) : entryFrame m #[(.int (1 : Int32)), (.ref p1)] 8 = mkF m 0 #[.val (.int (1 : Int32)), .val (.ref p1), .unset, .unset, .unset, .unset, .unset, .unset] [] := by first | (simp [entryFrame, mkF, argsToLocals, Value.category]; done) | rfl
set_option maxRecDepth 65536 in
set_option maxHeartbeats 40000000 in
theorem rm14 (l : Launch) (Z : State) (a0 : Array Value) (hw : ∀ d ∈ tables_1, d.before a0 Z = true) (ws : List Jvm.Cond) (p1 : Addr) (h0 : Heap) (n0 : Nat) (Z0 : n0 ≤ h0.size) (mc : Int32) (el : Addr) (tA : Addr) (fA : Addr) (P0 : Exa Z h0 p1 "java/util/ArrayList") (P1 : Fld Z h0 p1 "java/util/AbstractList" "modCount" "I" (.int mc)) (P2 : Fld Z h0 p1 "java/util/ArrayList" "elementData" "[Ljava/lang/Object;" (.ref el)) (P3 : Fld Z h0 p1 "java/util/ArrayList" "size" "I" (.int (0 : Int32))) (P4 : Sta Z h0 "com/example/unweave/unweave/arith/Formula" "TRUE" "Lcom/example/unweave/unweave/arith/Formula;" (.ref tA)) (P5 : Sta Z h0 "com/example/unweave/unweave/arith/Formula" "FALSE" "Lcom/example/unweave/unweave/arith/Formula;" (.ref fA)) :
    MetFree l (⟨"com/example/unweave/unweave/arith/Formula", "_join", "(ZLjava/util/List;)Lcom/example/unweave/unweave/arith/Formula;"⟩ : MethodName) (head1 (Jvm.Cond.code (⟨"com/example/unweave/unweave/arith/Formula", "_join", "(ZLjava/util/List;)Lcom/example/unweave/unweave/arith/Formula;"⟩ : MethodName) prog_23_method_17_code 8 (some (.object "com/example/unweave/unweave/arith/Formula")) :: ws) ({ frames := 6, cells := 3, slots := 17, locals := 86 } : Room)) (fun a U => a = #[(.int (1 : Int32)), (.ref p1)] ∧ Z.Warmed39 U.vm ∧ U.heap = h0) (fun _ _ _ _ _ => True) (fun _ U o U' => ∃ v L, o = .returned v ∧ (own_Q14 Z p1 mc el tA fA h0 n0) v U'.heap L ∧ FrameEnd U o U' L ({ frames := 6, cells := 3, slots := 17, locals := 86 } : Room).cells ({ frames := 6, cells := 3, slots := 17, locals := 86 } : Room).slots) := by
  refine MetFree.of_bodySF (plainFor_of_name pn_com_example_unweave_unweave_arith_Formula) hisR ?_
  intro p e s m args below meth c s₁ Bd hml0 hP hK
  obtain ⟨rfl, hZ, hh⟩ := hP
  have hx := Bd.exec
  have hby := Bd.bytes
  have hml : c.maxLocals = 8 := hml0
  have hown : s.vm.findClass "com/example/unweave/unweave/arith/Formula" = some m.cls := findClass_of_methodNamed Bd.named
  have hnm := (name_of_methodNamed Bd.named Bd.method).1
  have X0 : Stand p l e ({ frames := 6, cells := 3, slots := 17, locals := 86 } : Room) s m #[(.int (1 : Int32)), (.ref p1)] below meth c s₁ [] 0 0 := Stand.of_body Bd
  have e0 : s₁.heap = h0 := by rw [← hh, Bd.state]; rfl
  have N0 := Fr.nil n0
  refine own_body (QQ := (own_Q14 Z p1 mc el tA fA h0 n0)) (ef_14 m p1) ?_
  refine own_via (s₁.setTop (mkF m 1 #[.val (.int (1 : Int32)), .val (.ref p1), .unset, .unset, .unset, .unset, .unset, .unset] [(.int (1 : Int32))])) (fun t k => XS.iloadN X0.here hx rfl (hb hby d14_0) rfl  k) ?_
  refine own_via (s₁.setTop (mkF m 4 #[.val (.int (1 : Int32)), .val (.ref p1), .unset, .unset, .unset, .unset, .unset, .unset] [])) (fun t k => XS.ifNo X0.here hx rfl (hb hby d14_1) rfl ((if0 _ _).trans (feq (by decide)).1) k) ?_
  obtain ⟨T311, X311, e311, st311⟩ := getS2 X0 hx hZ hown (host := "") (Or.inl (hw _ (List.mem_of_getElem? (i := 114) rfl))) Via.refl e0 P4 (g := (mkF m 4 #[.val (.int (1 : Int32)), .val (.ref p1), .unset, .unset, .unset, .unset, .unset, .unset] [])) rfl (hb hby d14_4)
  refine own_via (T311.setTop (mkF m 7 #[.val (.int (1 : Int32)), .val (.ref p1), .unset, .unset, .unset, .unset, .unset, .unset] [(.ref tA)])) (fun t k => st311 t k) ?_
  refine own_via (T311.setTop (mkF m 13 #[.val (.int (1 : Int32)), .val (.ref p1), .unset, .unset, .unset, .unset, .unset, .unset] [(.ref tA)])) (fun t k => XS.goto X311.here hx rfl (pc0 := 7) (pc' := 13) rfl (hb hby d14_7) (by decide) (by decide) k) ?_
  refine own_via (T311.setTop (mkF m 14 #[.val (.int (1 : Int32)), .val (.ref p1), .val (.ref tA), .unset, .unset, .unset, .unset, .unset] [])) (fun t k => XS.astoreN X311.here hx rfl (hb hby d14_13) rfl rfl (l' := #[.val (.int (1 : Int32)), .val (.ref p1), .val (.ref tA), .unset, .unset, .unset, .unset, .unset]) rfl k) ?_
  refine own_via (T311.setTop (mkF m 15 #[.val (.int (1 : Int32)), .val (.ref p1), .val (.ref tA), .unset, .unset, .unset, .unset, .unset] [(.int (1 : Int32))])) (fun t k => XS.iloadN X311.here hx rfl (hb hby d14_14) rfl  k) ?_
  refine own_via (T311.setTop (mkF m 18 #[.val (.int (1 : Int32)), .val (.ref p1), .val (.ref tA), .unset, .unset, .unset, .unset, .unset] [])) (fun t k => XS.ifNo X311.here hx rfl (hb hby d14_15) rfl ((if0 _ _).trans (feq (by decide)).1) k) ?_
  obtain ⟨T312, X312, e312, st312⟩ := getS2 X311 hx hZ hown (host := "") (Or.inl (hw _ (List.mem_of_getElem? (i := 116) rfl))) Via.refl e311 P5 (g := (mkF m 18 #[.val (.int (1 : Int32)), .val (.ref p1), .val (.ref tA), .unset, .unset, .unset, .unset, .unset] [])) rfl (hb hby d14_18)
  refine own_via (T312.setTop (mkF m 21 #[.val (.int (1 : Int32)), .val (.ref p1), .val (.ref tA), .unset, .unset, .unset, .unset, .unset] [(.ref fA)])) (fun t k => st312 t k) ?_
  refine own_via (T312.setTop (mkF m 27 #[.val (.int (1 : Int32)), .val (.ref p1), .val (.ref tA), .unset, .unset, .unset, .unset, .unset] [(.ref fA)])) (fun t k => XS.goto X312.here hx rfl (pc0 := 21) (pc' := 27) rfl (hb hby d14_21) (by decide) (by decide) k) ?_
  refine own_via (T312.setTop (mkF m 28 #[.val (.int (1 : Int32)), .val (.ref p1), .val (.ref tA), .val (.ref fA), .unset, .unset, .unset, .unset] [])) (fun t k => XS.astoreN X312.here hx rfl (hb hby d14_27) rfl rfl (l' := #[.val (.int (1 : Int32)), .val (.ref p1), .val (.ref tA), .val (.ref fA), .unset, .unset, .unset, .unset]) rfl k) ?_
  obtain ⟨T313, h313, X313, e313, E313, A313, D313, -, st313⟩ := newO X312 hx hZ hown (hw _ (List.mem_of_getElem? (i := 118) rfl)) (hw _ (List.mem_of_getElem? (i := 119) rfl)) (hw _ (List.mem_of_getElem? (i := 120) rfl)) e312 (g := (mkF m 28 #[.val (.int (1 : Int32)), .val (.ref p1), .val (.ref tA), .val (.ref fA), .unset, .unset, .unset, .unset] [])) rfl (hb hby d14_28) (by decide) (by decide)
  obtain ⟨b313, g313⟩ : ∃ z, z = h0.size := ⟨_, rfl⟩
  rw [← g313] at A313 D313 st313
  have gg_b313 : n0 ≤ b313 := Nat.le_trans (Nat.le_trans Z0 (Keep.refl h0 []).1) (Nat.le_of_eq g313.symm)
  have sz_b313 : h0.size ≤ b313 := Nat.le_trans (Keep.refl h0 []).1 (Nat.le_of_eq g313.symm)
  have ne_p1_b313 : p1 ≠ b313 := Nat.ne_of_lt (Nat.lt_of_lt_of_le P0.lt (Nat.le_of_eq g313.symm))
  have F_map_b313 : Fld Z h313 b313 "java/util/HashSet" "map" "Ljava/util/HashMap;" .null := D313 (Or.inl (hw _ (List.mem_of_getElem? (i := 173) rfl))) (ty := (.object "java/util/HashMap")) (by decide)
  have K314 : Keep h0 h313 [] := (Keep.refl h0 []).ext E313
  refine own_via (T313.setTop (mkF m 31 #[.val (.int (1 : Int32)), .val (.ref p1), .val (.ref tA), .val (.ref fA), .unset, .unset, .unset, .unset] [(.ref b313)])) (fun t k => st313 t k) ?_
  refine own_via (T313.setTop (mkF m 32 #[.val (.int (1 : Int32)), .val (.ref p1), .val (.ref tA), .val (.ref fA), .unset, .unset, .unset, .unset] [(.ref b313), (.ref b313)])) (fun t k => XS.dup X313.here hx rfl (hb hby d14_31) rfl rfl k) ?_
  obtain ⟨_, _, ⟨T315, L315, k315, n315⟩, -, X315, ⟨Lc315, hQ315, l315, y315, z315⟩, st315⟩ := X313.specialBack hx (y := (⟨"java/util/LinkedHashSet", "<init>", "()V"⟩ : MethodName)) rfl hown (mvT hZ (hw _ (List.mem_of_getElem? (i := 121) rfl))) (mvT hZ (hw _ (List.mem_of_getElem? (i := 122) rfl))) (mvT hZ (hw _ (List.mem_of_getElem? (i := 123) rfl))) (by decide) (backOf (W := 1) (rm15 l Z a0 hw [] b313 h313 n0 (Nat.le_trans Z0 K314.1) A313 F_map_b313 gg_b313) hZ (hw _ (List.mem_of_getElem? (i := 123) rfl)) (hw _ (List.mem_of_getElem? (i := 120) rfl)) (by decide) (by decide)) (g := (mkF m 32 #[.val (.int (1 : Int32)), .val (.ref p1), .val (.ref tA), .val (.ref fA), .unset, .unset, .unset, .unset] [(.ref b313), (.ref b313)])) rfl (by rw [hml]; rfl) (Steps.refl _) (a := b313) (argsL := []) (rest := [(.ref b313)]) (lenOf pd_0 rfl) rfl (by show 2 * 0 + _ ≤ _; exact Nat.le_of_eq rfl) (hb hby d14_32) (fun _ _ => ⟨rfl, e313, (by decide : 1 + 1 ≤ _), (by decide : 1 + 12 ≤ _)⟩)
  dsimp only [Pt.U, Pt.locs, Pt.cells, Pt.slots] at X315 l315 y315 z315 st315 hQ315
  rw [y315, z315] at X315
  have X315 : Stand _ _ _ _ _ _ _ _ _ _ T315 L315 2 13 := X315
  obtain ⟨h315, e315⟩ : ∃ h, T315.heap = h := ⟨_, rfl⟩
  rw [e315] at hQ315
  obtain ⟨r_315, rfl, N315q, K315q, gg_r_315, sq_r_315, G315_0, G315_1, G315_2, G315_3⟩ := hQ315
  have N315 : Fr n0 L315 := by rw [l315]; exact Fr.app N0 N315q
  have sz_r_315 : h0.size ≤ r_315 := Nat.le_trans K314.1 sq_r_315
  have ne_p1_r_315 : p1 ≠ r_315 := Nat.ne_of_lt (Nat.lt_of_lt_of_le (P0.ext E313).lt sq_r_315)
  have ne_b313_r_315 : b313 ≠ r_315 := Nat.ne_of_lt (Nat.lt_of_lt_of_le A313.lt sq_r_315)
  have K316 : Keep h0 h315 [] := K314.trans K315q (fun x hx => (List.mem_cons.mp hx).elim (fun e => e ▸ Or.inr sz_b313) (fun hx => nomatch hx))
  refine own_via (T315.setTop (mkF m 35 #[.val (.int (1 : Int32)), .val (.ref p1), .val (.ref tA), .val (.ref fA), .unset, .unset, .unset, .unset] [(.ref b313)])) (fun t k => st315.trans k) ?_
  refine own_via (T315.setTop (mkF m 37 #[.val (.int (1 : Int32)), .val (.ref p1), .val (.ref tA), .val (.ref fA), .val (.ref b313), .unset, .unset, .unset] [])) (fun t k => XS.astore X315.here hx rfl (hb hby d14_35) rfl rfl (l' := #[.val (.int (1 : Int32)), .val (.ref p1), .val (.ref tA), .val (.ref fA), .val (.ref b313), .unset, .unset, .unset]) rfl k) ?_
  refine own_via (T315.setTop (mkF m 38 #[.val (.int (1 : Int32)), .val (.ref p1), .val (.ref tA), .val (.ref fA), .val (.ref b313), .unset, .unset, .unset] [(.ref p1)])) (fun t k => XS.aloadN X315.here hx rfl (hb hby d14_37) rfl rfl k) ?_
  have F318 := ((P1.ext E313).keep K315q (fun q => ne_p1_b313 (List.mem_singleton.mp q)))
  have F319 := ((P0.ext E313).keep K315q)
  obtain ⟨cq317, kq317, q317a, q317b, q317c⟩ := isOf hZ e315 F319
  obtain ⟨_, _, ⟨T317, L317, k317, n317⟩, -, X317, ⟨Lc317, hQ317, l317, y317, z317⟩, st317⟩ := X315.interfaceBack hx (xi := (⟨"java/util/List", "iterator", "()Ljava/util/Iterator;"⟩ : MethodName)) (y := (⟨"java/util/ArrayList", "iterator", "()Ljava/util/Iterator;"⟩ : MethodName)) hown (mvT hZ (hw _ (List.mem_of_getElem? (i := 174) rfl))) (mvT hZ (hw _ (List.mem_of_getElem? (i := 70) rfl))) (mvT hZ (hw _ (List.mem_of_getElem? (i := 71) rfl))) (mvT hZ (hw _ (List.mem_of_getElem? (i := 72) rfl))) (mvT hZ (hw _ (List.mem_of_getElem? (i := 73) rfl))) (mvT hZ (hw _ (List.mem_of_getElem? (i := 74) rfl))) (mvT hZ (hw _ (List.mem_of_getElem? (i := 75) rfl))) (mvT hZ (hw _ (List.mem_of_getElem? (i := 76) rfl))) (by decide) (backOf (W := 0) (rm10 l Z a0 hw [] p1 h315 n0 (Nat.le_trans Z0 K316.1) mc F318) hZ (hw _ (List.mem_of_getElem? (i := 77) rfl)) (hw _ (List.mem_of_getElem? (i := 24) rfl)) (by decide) (by decide)) q317a q317b q317c (g := (mkF m 38 #[.val (.int (1 : Int32)), .val (.ref p1), .val (.ref tA), .val (.ref fA), .val (.ref b313), .unset, .unset, .unset] [(.ref p1)])) rfl (by rw [hml]; rfl) (Steps.refl _) (argsL := []) (rest := []) (lenOf pd_12 rfl) rfl (by show 2 * 0 + _ ≤ _; exact Nat.le_of_eq rfl) (hb hby d14_38) (fun _ _ => ⟨rfl, e315, (by decide : 2 + 1 ≤ _), (by decide : 13 + 4 ≤ _)⟩)
  dsimp only [Pt.U, Pt.locs, Pt.cells, Pt.slots] at X317 l317 y317 z317 st317 hQ317
  rw [y317, z317] at X317
  have X317 : Stand _ _ _ _ _ _ _ _ _ _ T317 L317 3 17 := X317
  obtain ⟨h317, e317⟩ : ∃ h, T317.heap = h := ⟨_, rfl⟩
  rw [e317] at hQ317
  obtain ⟨r_317, rfl, N317q, K317q, gg_r_317, sq_r_317, G317_0, G317_1, G317_2, G317_3, G317_4⟩ := hQ317
  have N317 : Fr n0 L317 := by rw [l317]; exact Fr.app N315 N317q
  have sz_r_317 : h0.size ≤ r_317 := Nat.le_trans K316.1 sq_r_317
  have ne_p1_r_317 : p1 ≠ r_317 := Nat.ne_of_lt (Nat.lt_of_lt_of_le F319.lt sq_r_317)
  have ne_b313_r_317 : b313 ≠ r_317 := Nat.ne_of_lt (Nat.lt_of_lt_of_le G315_0.lt sq_r_317)
  have ne_r_315_r_317 : r_315 ≠ r_317 := Nat.ne_of_lt (Nat.lt_of_lt_of_le G315_2.lt sq_r_317)
  have K320 : Keep h0 h317 [] := K316.trans K317q (fun x hx => nomatch hx)
  refine own_via (T317.setTop (mkF m 43 #[.val (.int (1 : Int32)), .val (.ref p1), .val (.ref tA), .val (.ref fA), .val (.ref b313), .unset, .unset, .unset] [(.ref r_317)])) (fun t k => st317.trans k) ?_
  refine own_via (T317.setTop (mkF m 45 #[.val (.int (1 : Int32)), .val (.ref p1), .val (.ref tA), .val (.ref fA), .val (.ref b313), .val (.ref r_317), .unset, .unset] [])) (fun t k => XS.astore X317.here hx rfl (hb hby d14_43) rfl rfl (l' := #[.val (.int (1 : Int32)), .val (.ref p1), .val (.ref tA), .val (.ref fA), .val (.ref b313), .val (.ref r_317), .unset, .unset]) rfl k) ?_
  refine own_via (T317.setTop (mkF m 47 #[.val (.int (1 : Int32)), .val (.ref p1), .val (.ref tA), .val (.ref fA), .val (.ref b313), .val (.ref r_317), .unset, .unset] [(.ref r_317)])) (fun t k => XS.aload X317.here hx rfl (hb hby d14_45) rfl rfl k) ?_
  have F322 := (((P3.ext E313).keep K315q (fun q => ne_p1_b313 (List.mem_singleton.mp q))).keep K317q (by simp))
  obtain ⟨cq321, kq321, q321a, q321b, q321c⟩ := isOf hZ e317 G317_0
  obtain ⟨_, _, ⟨T321, L321, k321, n321⟩, -, X321, ⟨Lc321, hQ321, l321, y321, z321⟩, st321⟩ := X317.interfaceBack hx (xi := (⟨"java/util/Iterator", "hasNext", "()Z"⟩ : MethodName)) (y := (⟨"java/util/ArrayList$Itr", "hasNext", "()Z"⟩ : MethodName)) hown (mvT hZ (hw _ (List.mem_of_getElem? (i := 175) rfl))) (mvT hZ (hw _ (List.mem_of_getElem? (i := 95) rfl))) (mvT hZ (hw _ (List.mem_of_getElem? (i := 96) rfl))) (mvT hZ (hw _ (List.mem_of_getElem? (i := 97) rfl))) (mvT hZ (hw _ (List.mem_of_getElem? (i := 98) rfl))) (mvT hZ (hw _ (List.mem_of_getElem? (i := 99) rfl))) (mvT hZ (hw _ (List.mem_of_getElem? (i := 100) rfl))) (mvT hZ (hw _ (List.mem_of_getElem? (i := 101) rfl))) (by decide) (backOf (W := 0) (rm12c00 l Z a0 hw [] r_317 h317 n0 (Nat.le_trans Z0 K320.1) p1 G317_2 G317_1 F322) hZ (hw _ (List.mem_of_getElem? (i := 102) rfl)) (hw _ (List.mem_of_getElem? (i := 80) rfl)) (by decide) (by decide)) q321a q321b q321c (g := (mkF m 47 #[.val (.int (1 : Int32)), .val (.ref p1), .val (.ref tA), .val (.ref fA), .val (.ref b313), .val (.ref r_317), .unset, .unset] [(.ref r_317)])) rfl (by rw [hml]; rfl) (Steps.refl _) (argsL := []) (rest := []) (lenOf pd_11 rfl) rfl (by show 2 * 0 + _ ≤ _; exact Nat.le_of_eq rfl) (hb hby d14_47) (fun _ _ => ⟨rfl, e317, (by decide : 3 + 0 ≤ _), (by decide : 17 + 0 ≤ _)⟩)
  dsimp only [Pt.U, Pt.locs, Pt.cells, Pt.slots] at X321 l321 y321 z321 st321 hQ321
  rw [y321, z321] at X321
  have X321 : Stand _ _ _ _ _ _ _ _ _ _ T321 L321 3 17 := X321
  obtain ⟨rfl, N321q, e321⟩ := hQ321
  have N321 : Fr n0 L321 := by rw [l321]; exact Fr.app N317 N321q
  refine own_via (T321.setTop (mkF m 52 #[.val (.int (1 : Int32)), .val (.ref p1), .val (.ref tA), .val (.ref fA), .val (.ref b313), .val (.ref r_317), .unset, .unset] [(.int (0 : Int32))])) (fun t k => st321.trans k) ?_
  refine own_via (T321.setTop (mkF m 134 #[.val (.int (1 : Int32)), .val (.ref p1), .val (.ref tA), .val (.ref fA), .val (.ref b313), .val (.ref r_317), .unset, .unset] [])) (fun t k => XS.ifYes X321.here hx rfl (pc0 := 52) (pc' := 134) rfl (hb hby d14_52) rfl ((if0 _ _).trans (teq (by decide)).1) (by decide) (by decide) k) ?_
  refine own_via (T321.setTop (mkF m 136 #[.val (.int (1 : Int32)), .val (.ref p1), .val (.ref tA), .val (.ref fA), .val (.ref b313), .val (.ref r_317), .unset, .unset] [(.ref b313)])) (fun t k => XS.aload X321.here hx rfl (hb hby d14_134) rfl rfl k) ?_
  have F324 := (G315_1.keep K317q (by simp))
  have F325 := (G315_3.keep K317q (by simp))
  have F326 := (G315_2.keep K317q)
  have F327 := (G315_0.keep K317q)
  obtain ⟨cq323, kq323, q323a, q323b, q323c⟩ := isOf hZ e321 F327
  obtain ⟨_, _, ⟨T323, L323, k323, n323⟩, -, X323, ⟨Lc323, hQ323, l323, y323, z323⟩, st323⟩ := X321.interfaceBack hx (xi := (⟨"java/util/Set", "isEmpty", "()Z"⟩ : MethodName)) (y := (⟨"java/util/HashSet", "isEmpty", "()Z"⟩ : MethodName)) hown (mvT hZ (hw _ (List.mem_of_getElem? (i := 176) rfl))) (mvT hZ (hw _ (List.mem_of_getElem? (i := 177) rfl))) (mvT hZ (hw _ (List.mem_of_getElem? (i := 178) rfl))) (mvT hZ (hw _ (List.mem_of_getElem? (i := 179) rfl))) (mvT hZ (hw _ (List.mem_of_getElem? (i := 180) rfl))) (mvT hZ (hw _ (List.mem_of_getElem? (i := 181) rfl))) (mvT hZ (hw _ (List.mem_of_getElem? (i := 182) rfl))) (mvT hZ (hw _ (List.mem_of_getElem? (i := 183) rfl))) (by decide) (backOf (W := 0) (rm23 l Z a0 hw [] b313 h317 n0 (Nat.le_trans Z0 K320.1) r_315 F324 F325 F326) hZ (hw _ (List.mem_of_getElem? (i := 184) rfl)) (hw _ (List.mem_of_getElem? (i := 129) rfl)) (by decide) (by decide)) q323a q323b q323c (g := (mkF m 136 #[.val (.int (1 : Int32)), .val (.ref p1), .val (.ref tA), .val (.ref fA), .val (.ref b313), .val (.ref r_317), .unset, .unset] [(.ref b313)])) rfl (by rw [hml]; rfl) (Steps.refl _) (argsL := []) (rest := []) (lenOf pd_11 rfl) rfl (by show 2 * 0 + _ ≤ _; exact Nat.le_of_eq rfl) (hb hby d14_136) (fun _ _ => ⟨rfl, e321, (by decide : 3 + 0 ≤ _), (by decide : 17 + 0 ≤ _)⟩)
  dsimp only [Pt.U, Pt.locs, Pt.cells, Pt.slots] at X323 l323 y323 z323 st323 hQ323
  rw [y323, z323] at X323
  have X323 : Stand _ _ _ _ _ _ _ _ _ _ T323 L323 3 17 := X323
  obtain ⟨rfl, N323q, e323⟩ := hQ323
  have N323 : Fr n0 L323 := by rw [l323]; exact Fr.app N321 N323q
  refine own_via (T323.setTop (mkF m 141 #[.val (.int (1 : Int32)), .val (.ref p1), .val (.ref tA), .val (.ref fA), .val (.ref b313), .val (.ref r_317), .unset, .unset] [(.int (1 : Int32))])) (fun t k => st323.trans k) ?_
  refine own_via (T323.setTop (mkF m 144 #[.val (.int (1 : Int32)), .val (.ref p1), .val (.ref tA), .val (.ref fA), .val (.ref b313), .val (.ref r_317), .unset, .unset] [])) (fun t k => XS.ifNo X323.here hx rfl (hb hby d14_141) rfl ((if0 _ _).trans (feq (by decide)).1) k) ?_
  refine own_via (T323.setTop (mkF m 145 #[.val (.int (1 : Int32)), .val (.ref p1), .val (.ref tA), .val (.ref fA), .val (.ref b313), .val (.ref r_317), .unset, .unset] [(.ref tA)])) (fun t k => XS.aloadN X323.here hx rfl (hb hby d14_144) rfl rfl k) ?_
  refine own_leave X323 Bd.notSynchronized (v := some (.ref tA)) (fun h => by rw [Bd.returns] at h; cases h) (fun fs hr => retOut X323 hx Bd.returns rfl (Or.inr (Or.inr (Or.inr (Or.inr ⟨rfl, rfl, rfl⟩)))) (hb hby d14_145) hr) ?_ (by decide) (by decide)
  have F328 := (F319.keep K317q)
  show (own_Q14 Z p1 mc el tA fA h0 n0) _ T323.heap _
  rw [e323]
  exact ⟨rfl, N323, K320, F328⟩
def own_Q13 (Z : State) (p0 : Addr) (mc : Int32) (el : Addr) (tA : Addr) (fA : Addr) (h0 : Heap) (n0 : Nat) (v : Option Value) (h : Heap) (L : List Loc) : Prop := v = some (.ref tA) ∧ Fr n0 L ∧ Keep h0 h [] ∧ Exa Z h p0 "java/util/ArrayList"
theorem d13_0 : decode prog_23_method_13_code 0 = .ok (.iconst 1, 1) := by decide +kernel
theorem d13_1 : decode prog_23_method_13_code 1 = .ok (.aload_n 0, 1) := by decide +kernel
theorem d13_2 : decode prog_23_method_13_code 2 = .ok (.invokestatic 96, 3) := by decide +kernel
theorem d13_5 : decode prog_23_method_13_code 5 = .ok (.areturn, 1) := by decide +kernel
theorem pd_13 : parseMethodDescriptor "(ZLjava/util/List;)Lcom/example/unweave/unweave/arith/Formula;" = some ⟨[.boolean, (.object "java/util/List")], some (.object "com/example/unweave/unweave/arith/Formula")⟩ := by decide +kernel
theorem ef_13 (m : MethodId) (p0 : Addr) : entryFrame m #[(.ref p0)] 1 = mkF m 0 #[.val (.ref p0)] [] := by first | (simp [entryFrame, mkF, argsToLocals, Value.category]; done) | rfl
set_option maxRecDepth 65536 in
set_option maxHeartbeats 40000000 in
theorem rm13 (l : Launch) (Z : State) (a0 : Array Value) (hw : ∀ d ∈ tables_1, d.before a0 Z = true) (ws : List Jvm.Cond) (p0 : Addr) (h0 : Heap) (n0 : Nat) (Z0 : n0 ≤ h0.size) (mc : Int32) (el : Addr) (tA : Addr) (fA : Addr) (P0 : Exa Z h0 p0 "java/util/ArrayList") (P1 : Fld Z h0 p0 "java/util/AbstractList" "modCount" "I" (.int mc)) (P2 : Fld Z h0 p0 "java/util/ArrayList" "elementData" "[Ljava/lang/Object;" (.ref el)) (P3 : Fld Z h0 p0 "java/util/ArrayList" "size" "I" (.int (0 : Int32))) (P4 : Sta Z h0 "com/example/unweave/unweave/arith/Formula" "TRUE" "Lcom/example/unweave/unweave/arith/Formula;" (.ref tA)) (P5 : Sta Z h0 "com/example/unweave/unweave/arith/Formula" "FALSE" "Lcom/example/unweave/unweave/arith/Formula;" (.ref fA)) :
    MetFree l (⟨"com/example/unweave/unweave/arith/Formula", "and", "(Ljava/util/List;)Lcom/example/unweave/unweave/arith/Formula;"⟩ : MethodName) (head1 (Jvm.Cond.code (⟨"com/example/unweave/unweave/arith/Formula", "and", "(Ljava/util/List;)Lcom/example/unweave/unweave/arith/Formula;"⟩ : MethodName) prog_23_method_13_code 1 (some (.object "com/example/unweave/unweave/arith/Formula")) :: ws) ({ frames := 7, cells := 3, slots := 17, locals := 105 } : Room)) (fun a U => a = #[(.ref p0)] ∧ Z.Warmed39 U.vm ∧ U.heap = h0) (fun _ _ _ _ _ => True) (fun _ U o U' => ∃ v L, o = .returned v ∧ (own_Q13 Z p0 mc el tA fA h0 n0) v U'.heap L ∧ FrameEnd U o U' L ({ frames := 7, cells := 3, slots := 17, locals := 105 } : Room).cells ({ frames := 7, cells := 3, slots := 17, locals := 105 } : Room).slots) := by
  refine MetFree.of_bodySF (plainFor_of_name pn_com_example_unweave_unweave_arith_Formula) hisR ?_
  intro p e s m args below meth c s₁ Bd hml0 hP hK
  obtain ⟨rfl, hZ, hh⟩ := hP
  have hx := Bd.exec
  have hby := Bd.bytes
  have hml : c.maxLocals = 1 := hml0
  have hown : s.vm.findClass "com/example/unweave/unweave/arith/Formula" = some m.cls := findClass_of_methodNamed Bd.named
  have hnm := (name_of_methodNamed Bd.named Bd.method).1
  have X0 : Stand p l e ({ frames := 7, cells := 3, slots := 17, locals := 105 } : Room) s m #[(.ref p0)] below meth c s₁ [] 0 0 := Stand.of_body Bd
  have e0 : s₁.heap = h0 := by rw [← hh, Bd.state]; rfl
  have N0 := Fr.nil n0
  refine own_body (QQ := (own_Q13 Z p0 mc el tA fA h0 n0)) (ef_13 m p0) ?_
  refine own_via (s₁.setTop (mkF m 1 #[.val (.ref p0)] [(.int (1 : Int32))])) (fun t k => XS.iconst X0.here hx rfl (hb hby d13_0) k) ?_
  refine own_via (s₁.setTop (mkF m 2 #[.val (.ref p0)] [(.ref p0), (.int (1 : Int32))])) (fun t k => XS.aloadN X0.here hx rfl (hb hby d13_1) rfl rfl k) ?_
  obtain ⟨_, _, ⟨T329, L329, k329, n329⟩, -, X329, ⟨Lc329, hQ329, l329, y329, z329⟩, st329⟩ := Jvm.LawKit.callS X0 hx (y := (⟨"com/example/unweave/unweave/arith/Formula", "_join", "(ZLjava/util/List;)Lcom/example/unweave/unweave/arith/Formula;"⟩ : MethodName)) hown (mvT hZ (hw _ (List.mem_of_getElem? (i := 111) rfl))) (mvT hZ (hw _ (List.mem_of_getElem? (i := 112) rfl))) (mvT hZ (hw _ (List.mem_of_getElem? (i := 109) rfl))) (mvT hZ (hw _ (List.mem_of_getElem? (i := 113) rfl))) (by decide) (backOf (W := 0) (rm14 l Z a0 hw [] p0 h0 n0 (Nat.le_trans Z0 (Keep.refl h0 []).1) mc el tA fA P0 P1 P2 P3 P4 P5) hZ (hw _ (List.mem_of_getElem? (i := 113) rfl)) (hw _ (List.mem_of_getElem? (i := 109) rfl)) (by decide) (by decide)) (g := (mkF m 2 #[.val (.ref p0)] [(.ref p0), (.int (1 : Int32))])) rfl (by rw [hml]; rfl) (argsL := [(.int (1 : Int32)), (.ref p0)]) (rest := []) (lenOf pd_13 rfl) rfl (by show 2 * 0 + _ ≤ _; exact Nat.le_of_eq rfl) (hb hby d13_2) (fun _ _ => ⟨rfl, e0, (by decide : 0 + 3 ≤ _), (by decide : 0 + 17 ≤ _)⟩)
  dsimp only [Pt.U, Pt.locs, Pt.cells, Pt.slots] at X329 l329 y329 z329 st329 hQ329
  rw [y329, z329] at X329
  have X329 : Stand _ _ _ _ _ _ _ _ _ _ T329 L329 3 17 := X329
  obtain ⟨h329, e329⟩ : ∃ h, T329.heap = h := ⟨_, rfl⟩
  rw [e329] at hQ329
  obtain ⟨rfl, N329q, K329q, G329_0⟩ := hQ329
  have N329 : Fr n0 L329 := by rw [l329]; exact Fr.app N0 N329q
  have K330 : Keep h0 h329 [] := (Keep.refl h0 []).trans K329q (fun x hx => nomatch hx)
  refine own_via (T329.setTop (mkF m 5 #[.val (.ref p0)] [(.ref tA)])) (fun t k => st329 t k) ?_
  refine own_leave X329 Bd.notSynchronized (v := some (.ref tA)) (fun h => by rw [Bd.returns] at h; cases h) (fun fs hr => retOut X329 hx Bd.returns rfl (Or.inr (Or.inr (Or.inr (Or.inr ⟨rfl, rfl, rfl⟩)))) (hb hby d13_5) hr) ?_ (by decide) (by decide)
  show (own_Q13 Z p0 mc el tA fA h0 n0) _ T329.heap _
  rw [e329]
  exact ⟨rfl, N329, K330, G329_0⟩
def own_Q1 (Z : State) (p0 : Addr) (p1 : Int32)  (h0 : Heap) (n0 : Nat) (v : Option Value) (h : Heap) (L : List Loc) : Prop := ∃ (r : Addr), v = none ∧ Fr n0 L ∧ Keep h0 h [p0] ∧ n0 ≤ r ∧ h0.size ≤ r ∧ Exa Z h p0 "com/example/unweave/unweave/abstraction/PathEncoding" ∧ Fld Z h p0 "com/example/unweave/unweave/abstraction/PathEncoding" "m_aCurrent" "[I" (.ref r) ∧ Fld Z h p0 "com/example/unweave/unweave/abstraction/PathEncoding" "m_nNext" "I" (.int p1) ∧ own_A Z h r .int p1.toNatClampNeg own_id
theorem d1_0 : decode prog_17_method_1_code 0 = .ok (.aload_n 0, 1) := by decide +kernel
theorem d1_1 : decode prog_17_method_1_code 1 = .ok (.invokespecial 1, 3) := by decide +kernel
theorem d1_4 : decode prog_17_method_1_code 4 = .ok (.aload_n 0, 1) := by decide +kernel
theorem d1_5 : decode prog_17_method_1_code 5 = .ok (.iload_n 1, 1) := by decide +kernel
theorem d1_6 : decode prog_17_method_1_code 6 = .ok (.putfield 7, 3) := by decide +kernel
theorem d1_9 : decode prog_17_method_1_code 9 = .ok (.aload_n 0, 1) := by decide +kernel
theorem d1_10 : decode prog_17_method_1_code 10 = .ok (.iload_n 1, 1) := by decide +kernel
theorem d1_11 : decode prog_17_method_1_code 11 = .ok (.newarray .int, 2) := by decide +kernel
theorem d1_13 : decode prog_17_method_1_code 13 = .ok (.putfield 13, 3) := by decide +kernel
theorem d1_16 : decode prog_17_method_1_code 16 = .ok (.iconst 0, 1) := by decide +kernel
theorem d1_17 : decode prog_17_method_1_code 17 = .ok (.istore_n 2, 1) := by decide +kernel
theorem d1_18 : decode prog_17_method_1_code 18 = .ok (.iload_n 2, 1) := by decide +kernel
theorem d1_19 : decode prog_17_method_1_code 19 = .ok (.iload_n 1, 1) := by decide +kernel
theorem d1_20 : decode prog_17_method_1_code 20 = .ok (.if_icmp .ge 16, 3) := by decide +kernel
theorem d1_23 : decode prog_17_method_1_code 23 = .ok (.aload_n 0, 1) := by decide +kernel
theorem d1_24 : decode prog_17_method_1_code 24 = .ok (.getfield 13, 3) := by decide +kernel
theorem d1_27 : decode prog_17_method_1_code 27 = .ok (.iload_n 2, 1) := by decide +kernel
theorem d1_28 : decode prog_17_method_1_code 28 = .ok (.iload_n 2, 1) := by decide +kernel
theorem d1_29 : decode prog_17_method_1_code 29 = .ok (.iastore, 1) := by decide +kernel
theorem d1_30 : decode prog_17_method_1_code 30 = .ok (.iinc 2 1, 3) := by decide +kernel
theorem d1_33 : decode prog_17_method_1_code 33 = .ok (.goto (-15), 3) := by decide +kernel
theorem d1_36 : decode prog_17_method_1_code 36 = .ok (.aload_n 0, 1) := by decide +kernel
theorem d1_37 : decode prog_17_method_1_code 37 = .ok (.iload_n 1, 1) := by decide +kernel
theorem d1_38 : decode prog_17_method_1_code 38 = .ok (.putfield 17, 3) := by decide +kernel
theorem d1_41 : decode prog_17_method_1_code 41 = .ok (.return_, 1) := by decide +kernel
theorem pn_com_example_unweave_unweave_abstraction_PathEncoding : plainName "com/example/unweave/unweave/abstraction/PathEncoding" = true := by first | (simp [plainName, overriddenIn]; done) | decide +kernel
theorem ef_1 (m : MethodId) (p0 : Addr) (p1 : Int32) : entryFrame m #[(.ref p0), (.int p1)] 3 = mkF m 0 #[.val (.ref p0), .val (.int p1), .unset] [] := by first | (simp [entryFrame, mkF, argsToLocals, Value.category]; done) | rfl
set_option maxRecDepth 65536 in
set_option maxHeartbeats 40000000 in
theorem rm1 (l : Launch) (Z : State) (a0 : Array Value) (hw : ∀ d ∈ tables_1, d.before a0 Z = true) (ws : List Jvm.Cond) (p0 : Addr) (p1 : Int32) (h0 : Heap) (n0 : Nat) (Z0 : n0 ≤ h0.size) (P0 : Exa Z h0 p0 "com/example/unweave/unweave/abstraction/PathEncoding") (P1 : Fld Z h0 p0 "com/example/unweave/unweave/abstraction/PathEncoding" "m_aCurrent" "[I" .null) (P2 : Fld Z h0 p0 "com/example/unweave/unweave/abstraction/PathEncoding" "m_nNext" "I" (.int (0 : Int32))) (P3 : Fld Z h0 p0 "com/example/unweave/unweave/abstraction/PathEncoding" "m_nVariables" "I" (.int (0 : Int32))) (gg_p0 : n0 ≤ p0) (h1 : 1 ≤ p1.toInt) (h4 : p1.toInt ≤ 4) :
    MetFree l (⟨"com/example/unweave/unweave/abstraction/PathEncoding", "<init>", "(I)V"⟩ : MethodName) (head1 (Jvm.Cond.code (⟨"com/example/unweave/unweave/abstraction/PathEncoding", "<init>", "(I)V"⟩ : MethodName) prog_17_method_1_code 3 none :: ws) ({ frames := 1, cells := 1, slots := 4, locals := 12 } : Room)) (fun a U => a = #[(.ref p0), (.int p1)] ∧ Z.Warmed39 U.vm ∧ U.heap = h0) (fun _ _ _ _ _ => True) (fun _ U o U' => ∃ v L, o = .returned v ∧ (own_Q1 Z p0 p1  h0 n0) v U'.heap L ∧ FrameEnd U o U' L ({ frames := 1, cells := 1, slots := 4, locals := 12 } : Room).cells ({ frames := 1, cells := 1, slots := 4, locals := 12 } : Room).slots) := by
  refine MetFree.of_bodySF (plainFor_of_name pn_com_example_unweave_unweave_abstraction_PathEncoding) hisR ?_
  intro p e s m args below meth c s₁ Bd hml0 hP hK
  obtain ⟨rfl, hZ, hh⟩ := hP
  have hx := Bd.exec
  have hby := Bd.bytes
  have hml : c.maxLocals = 3 := hml0
  have hown : s.vm.findClass "com/example/unweave/unweave/abstraction/PathEncoding" = some m.cls := findClass_of_methodNamed Bd.named
  have hnm := (name_of_methodNamed Bd.named Bd.method).1
  have X0 : Stand p l e ({ frames := 1, cells := 1, slots := 4, locals := 12 } : Room) s m #[(.ref p0), (.int p1)] below meth c s₁ [] 0 0 := Stand.of_body Bd
  have e0 : s₁.heap = h0 := by rw [← hh, Bd.state]; rfl
  have N0 := Fr.nil n0
  refine own_body (QQ := (own_Q1 Z p0 p1  h0 n0)) (ef_1 m p0 p1) ?_
  refine own_via (s₁.setTop (mkF m 1 #[.val (.ref p0), .val (.int p1), .unset] [(.ref p0)])) (fun t k => XS.aloadN X0.here hx rfl (hb hby d1_0) rfl rfl k) ?_
  obtain ⟨T331, X331, e331, st331⟩ := initO X0 hx hZ hown (hw _ (List.mem_of_getElem? (i := 7) rfl)) (hw _ (List.mem_of_getElem? (i := 8) rfl)) (hw _ (List.mem_of_getElem? (i := 9) rfl)) e0 (g := (mkF m 1 #[.val (.ref p0), .val (.int p1), .unset] [(.ref p0)])) rfl (by rw [hml]; rfl) rfl (hb hby d1_1) (by decide) (W := 0) (by show 2 * 0 + _ ≤ _; exact Nat.le_of_eq rfl) (by decide)
  refine own_via (T331.setTop (mkF m 4 #[.val (.ref p0), .val (.int p1), .unset] [])) (fun t k => st331 t k) ?_
  refine own_via (T331.setTop (mkF m 5 #[.val (.ref p0), .val (.int p1), .unset] [(.ref p0)])) (fun t k => XS.aloadN X331.here hx rfl (hb hby d1_4) rfl rfl k) ?_
  refine own_via (T331.setTop (mkF m 6 #[.val (.ref p0), .val (.int p1), .unset] [(.int p1), (.ref p0)])) (fun t k => XS.iloadN X331.here hx rfl (hb hby d1_5) rfl  k) ?_
  obtain ⟨T332, h332, X332, e332, W332, st332⟩ := putF X331 hx hZ hown (host := "") (Or.inl (hw _ (List.mem_of_getElem? (i := 10) rfl))) Via.refl e331 P3 P0 (Or.inr ⟨(hw _ (List.mem_of_getElem? (i := 11) rfl)), rfl, hnm⟩) (hw _ (List.mem_of_getElem? (i := 2) rfl)) (ty := .int) (by decide) rfl rfl (g := (mkF m 6 #[.val (.ref p0), .val (.int p1), .unset] [(.int p1), (.ref p0)])) rfl rfl (hb hby d1_6)
  have Fw332 := P3.same W332
  have N332 := Fr.snoc X332 N0 gg_p0
  have K333 : Keep h0 h332 [p0] := (Keep.refl h0 [p0]).wr W332 (Or.inl (List.mem_of_getElem? (i := 0) rfl))
  refine own_via (T332.setTop (mkF m 9 #[.val (.ref p0), .val (.int p1), .unset] [])) (fun t k => st332 t k) ?_
  refine own_via (T332.setTop (mkF m 10 #[.val (.ref p0), .val (.int p1), .unset] [(.ref p0)])) (fun t k => XS.aloadN X332.here hx rfl (hb hby d1_9) rfl rfl k) ?_
  refine own_via (T332.setTop (mkF m 11 #[.val (.ref p0), .val (.int p1), .unset] [(.int p1), (.ref p0)])) (fun t k => XS.iloadN X332.here hx rfl (hb hby d1_10) rfl  k) ?_
  obtain ⟨T334, h334, k334, X334, e334, E334, A334, st334⟩ := newP X332 hx hZ (hw _ (List.mem_of_getElem? (i := 12) rfl)) e332 (g := (mkF m 11 #[.val (.ref p0), .val (.int p1), .unset] [(.int p1), (.ref p0)])) rfl (hb hby d1_11) rfl (own_nn h1) (cap := 4) (own_c4 h4) (by decide) (by decide) (by decide)
  obtain ⟨b334, g334⟩ : ∃ z, z = h332.size := ⟨_, rfl⟩
  rw [← g334] at A334 st334
  have gg_b334 : n0 ≤ b334 := Nat.le_trans (Nat.le_trans Z0 K333.1) (Nat.le_of_eq g334.symm)
  have sz_b334 : h0.size ≤ b334 := Nat.le_trans K333.1 (Nat.le_of_eq g334.symm)
  have ne_p0_b334 : p0 ≠ b334 := Nat.ne_of_lt (Nat.lt_of_lt_of_le (P0.wr W332).lt (Nat.le_of_eq g334.symm))
  have V334 : Arv Z h334 b334 k334 .int p1 [] (.int (0 : Int32)) := (Arv.new A334 (own_nn h1))
  have K335 : Keep h0 h334 [p0] := K333.ext E334
  have U334 : own_A Z h334 b334 .int p1.toNatClampNeg (fun _ => (0 : Int32)) := own_A.of (f := fun _ => (0 : Int32)) V334 (fun i hi => by simp)
  refine own_via (T334.setTop (mkF m 13 #[.val (.ref p0), .val (.int p1), .unset] [(.ref b334), (.ref p0)])) (fun t k => st334 t k) ?_
  have F337 := ((P1.other W332 (Or.inr (slot_ne (Or.inr (hw _ (List.mem_of_getElem? (i := 14) rfl))) (Or.inr (hw _ (List.mem_of_getElem? (i := 11) rfl))) (by decide) (t := (.array .int)) (t' := .int) (by decide) (by decide)))).ext E334)
  have F338 := ((P0.wr W332).ext E334)
  obtain ⟨T336, h336, X336, e336, W336, st336⟩ := putF X334 hx hZ hown (host := "") (Or.inl (hw _ (List.mem_of_getElem? (i := 13) rfl))) Via.refl e334 F337 F338 (Or.inr ⟨(hw _ (List.mem_of_getElem? (i := 14) rfl)), rfl, hnm⟩) (hw _ (List.mem_of_getElem? (i := 2) rfl)) (ty := (.array .int)) (by decide) rfl rfl (g := (mkF m 13 #[.val (.ref p0), .val (.int p1), .unset] [(.ref b334), (.ref p0)])) rfl rfl (hb hby d1_13)
  have Fw336 := F337.same W336
  have N336 := Fr.snoc X336 N332 gg_p0
  have K339 : Keep h0 h336 [p0] := K335.wr W336 (Or.inl (List.mem_of_getElem? (i := 0) rfl))
  refine own_via (T336.setTop (mkF m 16 #[.val (.ref p0), .val (.int p1), .unset] [])) (fun t k => st336 t k) ?_
  refine own_via (T336.setTop (mkF m 17 #[.val (.ref p0), .val (.int p1), .unset] [(.int (0 : Int32))])) (fun t k => XS.iconst X336.here hx rfl (hb hby d1_16) k) ?_
  refine own_via (T336.setTop (mkF m 18 #[.val (.ref p0), .val (.int p1), .val (.int (0 : Int32))] [])) (fun t k => XS.istoreN X336.here hx rfl (hb hby d1_17) rfl (l' := #[.val (.ref p0), .val (.int p1), .val (.int (0 : Int32))]) rfl k) ?_
  refine own_via (T336.setTop (mkF m 19 #[.val (.ref p0), .val (.int p1), .val (.int (0 : Int32))] [(.int (0 : Int32))])) (fun t k => XS.iloadN X336.here hx rfl (hb hby d1_18) rfl  k) ?_
  refine own_via (T336.setTop (mkF m 20 #[.val (.ref p0), .val (.int p1), .val (.int (0 : Int32))] [(.int p1), (.int (0 : Int32))])) (fun t k => XS.iloadN X336.here hx rfl (hb hby d1_19) rfl  k) ?_
  refine own_via (T336.setTop (mkF m 23 #[.val (.ref p0), .val (.int p1), .val (.int (0 : Int32))] [])) (fun t k => XS.icmpNo X336.here hx rfl (hb hby d1_20) rfl (tlt (own_lt0 h1)).2.1 k) ?_
  refine own_via (T336.setTop (mkF m 24 #[.val (.ref p0), .val (.int p1), .val (.int (0 : Int32))] [(.ref p0)])) (fun t k => XS.aloadN X336.here hx rfl (hb hby d1_23) rfl rfl k) ?_
  obtain ⟨T340, X340, e340, st340⟩ := getF X336 hx hZ hown (host := "") (Or.inl (hw _ (List.mem_of_getElem? (i := 13) rfl))) Via.refl e336 Fw336 (g := (mkF m 24 #[.val (.ref p0), .val (.int p1), .val (.int (0 : Int32))] [(.ref p0)])) rfl rfl (hb hby d1_24)
  refine own_via (T340.setTop (mkF m 27 #[.val (.ref p0), .val (.int p1), .val (.int (0 : Int32))] [(.ref b334)])) (fun t k => st340 t k) ?_
  refine own_via (T340.setTop (mkF m 28 #[.val (.ref p0), .val (.int p1), .val (.int (0 : Int32))] [(.int (0 : Int32)), (.ref b334)])) (fun t k => XS.iloadN X340.here hx rfl (hb hby d1_27) rfl  k) ?_
  refine own_via (T340.setTop (mkF m 29 #[.val (.ref p0), .val (.int p1), .val (.int (0 : Int32))] [(.int (0 : Int32)), (.int (0 : Int32)), (.ref b334)])) (fun t k => XS.iloadN X340.here hx rfl (hb hby d1_28) rfl  k) ?_
  have F342 := (U334.other W336 (Ne.symm ne_p0_b334))
  obtain ⟨cl343, Ar343, S343, H343⟩ := id F342
  obtain ⟨T341, h341, X341, e341, W341, st341⟩ := stI X340 hx hZ e340 Ar343 (j := (0 : Int32)) (own_in S343 (own_ib (own_lt0 h1) (by decide))) (g := (mkF m 29 #[.val (.ref p0), .val (.int p1), .val (.int (0 : Int32))] [(.int (0 : Int32)), (.int (0 : Int32)), (.ref b334)])) rfl rfl (hb hby d1_29)
  have V341 : own_A Z h341 b334 .int p1.toNatClampNeg (own_up (fun _ => (0 : Int32)) 0 (0 : Int32)) := own_A.set F342 W341
  obtain ⟨f341, hf341⟩ : ∃ g : Nat → Int32, g = (own_up (fun _ => (0 : Int32)) 0 (0 : Int32)) := ⟨_, rfl⟩
  rw [← hf341] at V341
  have N341 := Fr.snoc X341 N336 gg_b334
  have K344 : Keep h0 h341 [p0] := K339.wr W341 (Or.inr sz_b334)
  refine own_via (T341.setTop (mkF m 30 #[.val (.ref p0), .val (.int p1), .val (.int (0 : Int32))] [])) (fun t k => st341 t k) ?_
  refine own_via (T341.setTop (mkF m 33 #[.val (.ref p0), .val (.int p1), .val (.int (1 : Int32))] [])) (fun t k => XS.iinc X341.here hx rfl (hb hby d1_30) rfl (l' := #[.val (.ref p0), .val (.int p1), .val (.int (1 : Int32))]) rfl k) ?_
  refine own_via (T341.setTop (mkF m 18 #[.val (.ref p0), .val (.int p1), .val (.int (1 : Int32))] [])) (fun t k => XS.goto X341.here hx rfl (pc0 := 33) (pc' := 18) rfl (hb hby d1_33) (by decide) (by decide) k) ?_
  refine own_via (T341.setTop (mkF m 19 #[.val (.ref p0), .val (.int p1), .val (.int (1 : Int32))] [(.int (1 : Int32))])) (fun t k => XS.iloadN X341.here hx rfl (hb hby d1_18) rfl  k) ?_
  refine own_via (T341.setTop (mkF m 20 #[.val (.ref p0), .val (.int p1), .val (.int (1 : Int32))] [(.int p1), (.int (1 : Int32))])) (fun t k => XS.iloadN X341.here hx rfl (hb hby d1_19) rfl  k) ?_
  by_cases hc20_345 : (1 : Int32) < p1
  · refine own_via (T341.setTop (mkF m 23 #[.val (.ref p0), .val (.int p1), .val (.int (1 : Int32))] [])) (fun t k => XS.icmpNo X341.here hx rfl (hb hby d1_20) rfl (tlt hc20_345).2.1 k) ?_
    refine own_via (T341.setTop (mkF m 24 #[.val (.ref p0), .val (.int p1), .val (.int (1 : Int32))] [(.ref p0)])) (fun t k => XS.aloadN X341.here hx rfl (hb hby d1_23) rfl rfl k) ?_
    have F347 := (Fw336.other W341 (Or.inl ne_p0_b334))
    obtain ⟨T346, X346, e346, st346⟩ := getF X341 hx hZ hown (host := "") (Or.inl (hw _ (List.mem_of_getElem? (i := 13) rfl))) Via.refl e341 F347 (g := (mkF m 24 #[.val (.ref p0), .val (.int p1), .val (.int (1 : Int32))] [(.ref p0)])) rfl rfl (hb hby d1_24)
    refine own_via (T346.setTop (mkF m 27 #[.val (.ref p0), .val (.int p1), .val (.int (1 : Int32))] [(.ref b334)])) (fun t k => st346 t k) ?_
    refine own_via (T346.setTop (mkF m 28 #[.val (.ref p0), .val (.int p1), .val (.int (1 : Int32))] [(.int (1 : Int32)), (.ref b334)])) (fun t k => XS.iloadN X346.here hx rfl (hb hby d1_27) rfl  k) ?_
    refine own_via (T346.setTop (mkF m 29 #[.val (.ref p0), .val (.int p1), .val (.int (1 : Int32))] [(.int (1 : Int32)), (.int (1 : Int32)), (.ref b334)])) (fun t k => XS.iloadN X346.here hx rfl (hb hby d1_28) rfl  k) ?_
    obtain ⟨cl349, Ar349, S349, H349⟩ := id V341
    obtain ⟨T348, h348, X348, e348, W348, st348⟩ := stI X346 hx hZ e346 Ar349 (j := (1 : Int32)) (own_in S349 (own_ib hc20_345 (by decide))) (g := (mkF m 29 #[.val (.ref p0), .val (.int p1), .val (.int (1 : Int32))] [(.int (1 : Int32)), (.int (1 : Int32)), (.ref b334)])) rfl rfl (hb hby d1_29)
    have V348 : own_A Z h348 b334 .int p1.toNatClampNeg (own_up f341 1 (1 : Int32)) := own_A.set V341 W348
    obtain ⟨f348, hf348⟩ : ∃ g : Nat → Int32, g = (own_up f341 1 (1 : Int32)) := ⟨_, rfl⟩
    rw [← hf348] at V348
    have N348 := Fr.snoc X348 N341 gg_b334
    have K350 : Keep h0 h348 [p0] := K344.wr W348 (Or.inr sz_b334)
    refine own_via (T348.setTop (mkF m 30 #[.val (.ref p0), .val (.int p1), .val (.int (1 : Int32))] [])) (fun t k => st348 t k) ?_
    refine own_via (T348.setTop (mkF m 33 #[.val (.ref p0), .val (.int p1), .val (.int (2 : Int32))] [])) (fun t k => XS.iinc X348.here hx rfl (hb hby d1_30) rfl (l' := #[.val (.ref p0), .val (.int p1), .val (.int (2 : Int32))]) rfl k) ?_
    refine own_via (T348.setTop (mkF m 18 #[.val (.ref p0), .val (.int p1), .val (.int (2 : Int32))] [])) (fun t k => XS.goto X348.here hx rfl (pc0 := 33) (pc' := 18) rfl (hb hby d1_33) (by decide) (by decide) k) ?_
    refine own_via (T348.setTop (mkF m 19 #[.val (.ref p0), .val (.int p1), .val (.int (2 : Int32))] [(.int (2 : Int32))])) (fun t k => XS.iloadN X348.here hx rfl (hb hby d1_18) rfl  k) ?_
    refine own_via (T348.setTop (mkF m 20 #[.val (.ref p0), .val (.int p1), .val (.int (2 : Int32))] [(.int p1), (.int (2 : Int32))])) (fun t k => XS.iloadN X348.here hx rfl (hb hby d1_19) rfl  k) ?_
    by_cases hc20_351 : (2 : Int32) < p1
    · refine own_via (T348.setTop (mkF m 23 #[.val (.ref p0), .val (.int p1), .val (.int (2 : Int32))] [])) (fun t k => XS.icmpNo X348.here hx rfl (hb hby d1_20) rfl (tlt hc20_351).2.1 k) ?_
      refine own_via (T348.setTop (mkF m 24 #[.val (.ref p0), .val (.int p1), .val (.int (2 : Int32))] [(.ref p0)])) (fun t k => XS.aloadN X348.here hx rfl (hb hby d1_23) rfl rfl k) ?_
      have F353 := (F347.other W348 (Or.inl ne_p0_b334))
      obtain ⟨T352, X352, e352, st352⟩ := getF X348 hx hZ hown (host := "") (Or.inl (hw _ (List.mem_of_getElem? (i := 13) rfl))) Via.refl e348 F353 (g := (mkF m 24 #[.val (.ref p0), .val (.int p1), .val (.int (2 : Int32))] [(.ref p0)])) rfl rfl (hb hby d1_24)
      refine own_via (T352.setTop (mkF m 27 #[.val (.ref p0), .val (.int p1), .val (.int (2 : Int32))] [(.ref b334)])) (fun t k => st352 t k) ?_
      refine own_via (T352.setTop (mkF m 28 #[.val (.ref p0), .val (.int p1), .val (.int (2 : Int32))] [(.int (2 : Int32)), (.ref b334)])) (fun t k => XS.iloadN X352.here hx rfl (hb hby d1_27) rfl  k) ?_
      refine own_via (T352.setTop (mkF m 29 #[.val (.ref p0), .val (.int p1), .val (.int (2 : Int32))] [(.int (2 : Int32)), (.int (2 : Int32)), (.ref b334)])) (fun t k => XS.iloadN X352.here hx rfl (hb hby d1_28) rfl  k) ?_
      obtain ⟨cl355, Ar355, S355, H355⟩ := id V348
      obtain ⟨T354, h354, X354, e354, W354, st354⟩ := stI X352 hx hZ e352 Ar355 (j := (2 : Int32)) (own_in S355 (own_ib hc20_351 (by decide))) (g := (mkF m 29 #[.val (.ref p0), .val (.int p1), .val (.int (2 : Int32))] [(.int (2 : Int32)), (.int (2 : Int32)), (.ref b334)])) rfl rfl (hb hby d1_29)
      have V354 : own_A Z h354 b334 .int p1.toNatClampNeg (own_up f348 2 (2 : Int32)) := own_A.set V348 W354
      obtain ⟨f354, hf354⟩ : ∃ g : Nat → Int32, g = (own_up f348 2 (2 : Int32)) := ⟨_, rfl⟩
      rw [← hf354] at V354
      have N354 := Fr.snoc X354 N348 gg_b334
      have K356 : Keep h0 h354 [p0] := K350.wr W354 (Or.inr sz_b334)
      refine own_via (T354.setTop (mkF m 30 #[.val (.ref p0), .val (.int p1), .val (.int (2 : Int32))] [])) (fun t k => st354 t k) ?_
      refine own_via (T354.setTop (mkF m 33 #[.val (.ref p0), .val (.int p1), .val (.int (3 : Int32))] [])) (fun t k => XS.iinc X354.here hx rfl (hb hby d1_30) rfl (l' := #[.val (.ref p0), .val (.int p1), .val (.int (3 : Int32))]) rfl k) ?_
      refine own_via (T354.setTop (mkF m 18 #[.val (.ref p0), .val (.int p1), .val (.int (3 : Int32))] [])) (fun t k => XS.goto X354.here hx rfl (pc0 := 33) (pc' := 18) rfl (hb hby d1_33) (by decide) (by decide) k) ?_
      refine own_via (T354.setTop (mkF m 19 #[.val (.ref p0), .val (.int p1), .val (.int (3 : Int32))] [(.int (3 : Int32))])) (fun t k => XS.iloadN X354.here hx rfl (hb hby d1_18) rfl  k) ?_
      refine own_via (T354.setTop (mkF m 20 #[.val (.ref p0), .val (.int p1), .val (.int (3 : Int32))] [(.int p1), (.int (3 : Int32))])) (fun t k => XS.iloadN X354.here hx rfl (hb hby d1_19) rfl  k) ?_
      by_cases hc20_357 : (3 : Int32) < p1
      · refine own_via (T354.setTop (mkF m 23 #[.val (.ref p0), .val (.int p1), .val (.int (3 : Int32))] [])) (fun t k => XS.icmpNo X354.here hx rfl (hb hby d1_20) rfl (tlt hc20_357).2.1 k) ?_
        refine own_via (T354.setTop (mkF m 24 #[.val (.ref p0), .val (.int p1), .val (.int (3 : Int32))] [(.ref p0)])) (fun t k => XS.aloadN X354.here hx rfl (hb hby d1_23) rfl rfl k) ?_
        have F359 := (F353.other W354 (Or.inl ne_p0_b334))
        obtain ⟨T358, X358, e358, st358⟩ := getF X354 hx hZ hown (host := "") (Or.inl (hw _ (List.mem_of_getElem? (i := 13) rfl))) Via.refl e354 F359 (g := (mkF m 24 #[.val (.ref p0), .val (.int p1), .val (.int (3 : Int32))] [(.ref p0)])) rfl rfl (hb hby d1_24)
        refine own_via (T358.setTop (mkF m 27 #[.val (.ref p0), .val (.int p1), .val (.int (3 : Int32))] [(.ref b334)])) (fun t k => st358 t k) ?_
        refine own_via (T358.setTop (mkF m 28 #[.val (.ref p0), .val (.int p1), .val (.int (3 : Int32))] [(.int (3 : Int32)), (.ref b334)])) (fun t k => XS.iloadN X358.here hx rfl (hb hby d1_27) rfl  k) ?_
        refine own_via (T358.setTop (mkF m 29 #[.val (.ref p0), .val (.int p1), .val (.int (3 : Int32))] [(.int (3 : Int32)), (.int (3 : Int32)), (.ref b334)])) (fun t k => XS.iloadN X358.here hx rfl (hb hby d1_28) rfl  k) ?_
        obtain ⟨cl361, Ar361, S361, H361⟩ := id V354
        obtain ⟨T360, h360, X360, e360, W360, st360⟩ := stI X358 hx hZ e358 Ar361 (j := (3 : Int32)) (own_in S361 (own_ib hc20_357 (by decide))) (g := (mkF m 29 #[.val (.ref p0), .val (.int p1), .val (.int (3 : Int32))] [(.int (3 : Int32)), (.int (3 : Int32)), (.ref b334)])) rfl rfl (hb hby d1_29)
        have V360 : own_A Z h360 b334 .int p1.toNatClampNeg (own_up f354 3 (3 : Int32)) := own_A.set V354 W360
        obtain ⟨f360, hf360⟩ : ∃ g : Nat → Int32, g = (own_up f354 3 (3 : Int32)) := ⟨_, rfl⟩
        rw [← hf360] at V360
        have N360 := Fr.snoc X360 N354 gg_b334
        have K362 : Keep h0 h360 [p0] := K356.wr W360 (Or.inr sz_b334)
        refine own_via (T360.setTop (mkF m 30 #[.val (.ref p0), .val (.int p1), .val (.int (3 : Int32))] [])) (fun t k => st360 t k) ?_
        refine own_via (T360.setTop (mkF m 33 #[.val (.ref p0), .val (.int p1), .val (.int (4 : Int32))] [])) (fun t k => XS.iinc X360.here hx rfl (hb hby d1_30) rfl (l' := #[.val (.ref p0), .val (.int p1), .val (.int (4 : Int32))]) rfl k) ?_
        refine own_via (T360.setTop (mkF m 18 #[.val (.ref p0), .val (.int p1), .val (.int (4 : Int32))] [])) (fun t k => XS.goto X360.here hx rfl (pc0 := 33) (pc' := 18) rfl (hb hby d1_33) (by decide) (by decide) k) ?_
        refine own_via (T360.setTop (mkF m 19 #[.val (.ref p0), .val (.int p1), .val (.int (4 : Int32))] [(.int (4 : Int32))])) (fun t k => XS.iloadN X360.here hx rfl (hb hby d1_18) rfl  k) ?_
        refine own_via (T360.setTop (mkF m 20 #[.val (.ref p0), .val (.int p1), .val (.int (4 : Int32))] [(.int p1), (.int (4 : Int32))])) (fun t k => XS.iloadN X360.here hx rfl (hb hby d1_19) rfl  k) ?_
        refine own_via (T360.setTop (mkF m 36 #[.val (.ref p0), .val (.int p1), .val (.int (4 : Int32))] [])) (fun t k => XS.icmpYes X360.here hx rfl (pc0 := 20) (pc' := 36) rfl (hb hby d1_20) rfl (flt (own_nlt4 h4)).2.1 (by decide) (by decide) k) ?_
        have UU363 : own_A Z h360 b334 .int p1.toNatClampNeg own_id := own_A.cast V360 rfl (fun i hi => by
          have hk : p1.toNatClampNeg ≤ 4 := own_ex (own_nlt4 h4)
          rw [hf360, hf354, hf348, hf341]
          rcases i with _ | _ | _ | _ | i <;> first | rfl | (exfalso; omega))
        refine own_via (T360.setTop (mkF m 37 #[.val (.ref p0), .val (.int p1), .val (.int (4 : Int32))] [(.ref p0)])) (fun t k => XS.aloadN X360.here hx rfl (hb hby d1_36) rfl rfl k) ?_
        refine own_via (T360.setTop (mkF m 38 #[.val (.ref p0), .val (.int p1), .val (.int (4 : Int32))] [(.int p1), (.ref p0)])) (fun t k => XS.iloadN X360.here hx rfl (hb hby d1_37) rfl  k) ?_
        have F365 := (((((((P2.other W332 (Or.inr (slot_ne (Or.inl (hw _ (List.mem_of_getElem? (i := 16) rfl))) (Or.inr (hw _ (List.mem_of_getElem? (i := 11) rfl))) (by decide) (t := .int) (t' := .int) (by decide) (by decide)))).ext E334).other W336 (Or.inr (slot_ne (Or.inl (hw _ (List.mem_of_getElem? (i := 16) rfl))) (Or.inr (hw _ (List.mem_of_getElem? (i := 14) rfl))) (by decide) (t := .int) (t' := (.array .int)) (by decide) (by decide)))).other W341 (Or.inl ne_p0_b334)).other W348 (Or.inl ne_p0_b334)).other W354 (Or.inl ne_p0_b334)).other W360 (Or.inl ne_p0_b334))
        have F366 := (((((F338.wr W336).wr W341).wr W348).wr W354).wr W360)
        obtain ⟨T364, h364, X364, e364, W364, st364⟩ := putF X360 hx hZ hown (host := "") (Or.inl (hw _ (List.mem_of_getElem? (i := 15) rfl))) Via.refl e360 F365 F366 (Or.inl (hw _ (List.mem_of_getElem? (i := 16) rfl))) (hw _ (List.mem_of_getElem? (i := 2) rfl)) (ty := .int) (by decide) rfl rfl (g := (mkF m 38 #[.val (.ref p0), .val (.int p1), .val (.int (4 : Int32))] [(.int p1), (.ref p0)])) rfl rfl (hb hby d1_38)
        have Fw364 := F365.same W364
        have N364 := Fr.snoc X364 N360 gg_p0
        have K367 : Keep h0 h364 [p0] := K362.wr W364 (Or.inl (List.mem_of_getElem? (i := 0) rfl))
        refine own_via (T364.setTop (mkF m 41 #[.val (.ref p0), .val (.int p1), .val (.int (4 : Int32))] [])) (fun t k => st364 t k) ?_
        refine own_leave X364 Bd.notSynchronized (v := none) (fun _ => rfl) (fun fs hr => X364.returnOut hx Bd.returns (hb hby d1_41) hr) ?_ (by decide) (by decide)
        have F368 := (F366.wr W364)
        have F369 := ((F359.other W360 (Or.inl ne_p0_b334)).other W364 (Or.inr (slot_ne (Or.inr (hw _ (List.mem_of_getElem? (i := 14) rfl))) (Or.inl (hw _ (List.mem_of_getElem? (i := 16) rfl))) (by decide) (t := (.array .int)) (t' := .int) (by decide) (by decide))))
        have F370 := (UU363.other W364 (Ne.symm ne_p0_b334))
        show (own_Q1 Z p0 p1  h0 n0) _ T364.heap _
        rw [e364]
        exact ⟨b334, rfl, N364, K367, gg_b334, sz_b334, F368, F369, Fw364, F370⟩
      · refine own_via (T354.setTop (mkF m 36 #[.val (.ref p0), .val (.int p1), .val (.int (3 : Int32))] [])) (fun t k => XS.icmpYes X354.here hx rfl (pc0 := 20) (pc' := 36) rfl (hb hby d1_20) rfl (flt hc20_357).2.1 (by decide) (by decide) k) ?_
        have UU371 : own_A Z h354 b334 .int p1.toNatClampNeg own_id := own_A.cast V354 rfl (fun i hi => by
          have hk : p1.toNatClampNeg ≤ 3 := own_ex hc20_357
          rw [hf354, hf348, hf341]
          rcases i with _ | _ | _ | i <;> first | rfl | (exfalso; omega))
        refine own_via (T354.setTop (mkF m 37 #[.val (.ref p0), .val (.int p1), .val (.int (3 : Int32))] [(.ref p0)])) (fun t k => XS.aloadN X354.here hx rfl (hb hby d1_36) rfl rfl k) ?_
        refine own_via (T354.setTop (mkF m 38 #[.val (.ref p0), .val (.int p1), .val (.int (3 : Int32))] [(.int p1), (.ref p0)])) (fun t k => XS.iloadN X354.here hx rfl (hb hby d1_37) rfl  k) ?_
        have F373 := ((((((P2.other W332 (Or.inr (slot_ne (Or.inl (hw _ (List.mem_of_getElem? (i := 16) rfl))) (Or.inr (hw _ (List.mem_of_getElem? (i := 11) rfl))) (by decide) (t := .int) (t' := .int) (by decide) (by decide)))).ext E334).other W336 (Or.inr (slot_ne (Or.inl (hw _ (List.mem_of_getElem? (i := 16) rfl))) (Or.inr (hw _ (List.mem_of_getElem? (i := 14) rfl))) (by decide) (t := .int) (t' := (.array .int)) (by decide) (by decide)))).other W341 (Or.inl ne_p0_b334)).other W348 (Or.inl ne_p0_b334)).other W354 (Or.inl ne_p0_b334))
        have F374 := ((((F338.wr W336).wr W341).wr W348).wr W354)
        obtain ⟨T372, h372, X372, e372, W372, st372⟩ := putF X354 hx hZ hown (host := "") (Or.inl (hw _ (List.mem_of_getElem? (i := 15) rfl))) Via.refl e354 F373 F374 (Or.inl (hw _ (List.mem_of_getElem? (i := 16) rfl))) (hw _ (List.mem_of_getElem? (i := 2) rfl)) (ty := .int) (by decide) rfl rfl (g := (mkF m 38 #[.val (.ref p0), .val (.int p1), .val (.int (3 : Int32))] [(.int p1), (.ref p0)])) rfl rfl (hb hby d1_38)
        have Fw372 := F373.same W372
        have N372 := Fr.snoc X372 N354 gg_p0
        have K375 : Keep h0 h372 [p0] := K356.wr W372 (Or.inl (List.mem_of_getElem? (i := 0) rfl))
        refine own_via (T372.setTop (mkF m 41 #[.val (.ref p0), .val (.int p1), .val (.int (3 : Int32))] [])) (fun t k => st372 t k) ?_
        refine own_leave X372 Bd.notSynchronized (v := none) (fun _ => rfl) (fun fs hr => X372.returnOut hx Bd.returns (hb hby d1_41) hr) ?_ (by decide) (by decide)
        have F376 := (F374.wr W372)
        have F377 := ((F353.other W354 (Or.inl ne_p0_b334)).other W372 (Or.inr (slot_ne (Or.inr (hw _ (List.mem_of_getElem? (i := 14) rfl))) (Or.inl (hw _ (List.mem_of_getElem? (i := 16) rfl))) (by decide) (t := (.array .int)) (t' := .int) (by decide) (by decide))))
        have F378 := (UU371.other W372 (Ne.symm ne_p0_b334))
        show (own_Q1 Z p0 p1  h0 n0) _ T372.heap _
        rw [e372]
        exact ⟨b334, rfl, N372, K375, gg_b334, sz_b334, F376, F377, Fw372, F378⟩
    · refine own_via (T348.setTop (mkF m 36 #[.val (.ref p0), .val (.int p1), .val (.int (2 : Int32))] [])) (fun t k => XS.icmpYes X348.here hx rfl (pc0 := 20) (pc' := 36) rfl (hb hby d1_20) rfl (flt hc20_351).2.1 (by decide) (by decide) k) ?_
      have UU379 : own_A Z h348 b334 .int p1.toNatClampNeg own_id := own_A.cast V348 rfl (fun i hi => by
        have hk : p1.toNatClampNeg ≤ 2 := own_ex hc20_351
        rw [hf348, hf341]
        rcases i with _ | _ | i <;> first | rfl | (exfalso; omega))
      refine own_via (T348.setTop (mkF m 37 #[.val (.ref p0), .val (.int p1), .val (.int (2 : Int32))] [(.ref p0)])) (fun t k => XS.aloadN X348.here hx rfl (hb hby d1_36) rfl rfl k) ?_
      refine own_via (T348.setTop (mkF m 38 #[.val (.ref p0), .val (.int p1), .val (.int (2 : Int32))] [(.int p1), (.ref p0)])) (fun t k => XS.iloadN X348.here hx rfl (hb hby d1_37) rfl  k) ?_
      have F381 := (((((P2.other W332 (Or.inr (slot_ne (Or.inl (hw _ (List.mem_of_getElem? (i := 16) rfl))) (Or.inr (hw _ (List.mem_of_getElem? (i := 11) rfl))) (by decide) (t := .int) (t' := .int) (by decide) (by decide)))).ext E334).other W336 (Or.inr (slot_ne (Or.inl (hw _ (List.mem_of_getElem? (i := 16) rfl))) (Or.inr (hw _ (List.mem_of_getElem? (i := 14) rfl))) (by decide) (t := .int) (t' := (.array .int)) (by decide) (by decide)))).other W341 (Or.inl ne_p0_b334)).other W348 (Or.inl ne_p0_b334))
      have F382 := (((F338.wr W336).wr W341).wr W348)
      obtain ⟨T380, h380, X380, e380, W380, st380⟩ := putF X348 hx hZ hown (host := "") (Or.inl (hw _ (List.mem_of_getElem? (i := 15) rfl))) Via.refl e348 F381 F382 (Or.inl (hw _ (List.mem_of_getElem? (i := 16) rfl))) (hw _ (List.mem_of_getElem? (i := 2) rfl)) (ty := .int) (by decide) rfl rfl (g := (mkF m 38 #[.val (.ref p0), .val (.int p1), .val (.int (2 : Int32))] [(.int p1), (.ref p0)])) rfl rfl (hb hby d1_38)
      have Fw380 := F381.same W380
      have N380 := Fr.snoc X380 N348 gg_p0
      have K383 : Keep h0 h380 [p0] := K350.wr W380 (Or.inl (List.mem_of_getElem? (i := 0) rfl))
      refine own_via (T380.setTop (mkF m 41 #[.val (.ref p0), .val (.int p1), .val (.int (2 : Int32))] [])) (fun t k => st380 t k) ?_
      refine own_leave X380 Bd.notSynchronized (v := none) (fun _ => rfl) (fun fs hr => X380.returnOut hx Bd.returns (hb hby d1_41) hr) ?_ (by decide) (by decide)
      have F384 := (F382.wr W380)
      have F385 := ((F347.other W348 (Or.inl ne_p0_b334)).other W380 (Or.inr (slot_ne (Or.inr (hw _ (List.mem_of_getElem? (i := 14) rfl))) (Or.inl (hw _ (List.mem_of_getElem? (i := 16) rfl))) (by decide) (t := (.array .int)) (t' := .int) (by decide) (by decide))))
      have F386 := (UU379.other W380 (Ne.symm ne_p0_b334))
      show (own_Q1 Z p0 p1  h0 n0) _ T380.heap _
      rw [e380]
      exact ⟨b334, rfl, N380, K383, gg_b334, sz_b334, F384, F385, Fw380, F386⟩
  · refine own_via (T341.setTop (mkF m 36 #[.val (.ref p0), .val (.int p1), .val (.int (1 : Int32))] [])) (fun t k => XS.icmpYes X341.here hx rfl (pc0 := 20) (pc' := 36) rfl (hb hby d1_20) rfl (flt hc20_345).2.1 (by decide) (by decide) k) ?_
    have UU387 : own_A Z h341 b334 .int p1.toNatClampNeg own_id := own_A.cast V341 rfl (fun i hi => by
      have hk : p1.toNatClampNeg ≤ 1 := own_ex hc20_345
      rw [hf341]
      rcases i with _ | i <;> first | rfl | (exfalso; omega))
    refine own_via (T341.setTop (mkF m 37 #[.val (.ref p0), .val (.int p1), .val (.int (1 : Int32))] [(.ref p0)])) (fun t k => XS.aloadN X341.here hx rfl (hb hby d1_36) rfl rfl k) ?_
    refine own_via (T341.setTop (mkF m 38 #[.val (.ref p0), .val (.int p1), .val (.int (1 : Int32))] [(.int p1), (.ref p0)])) (fun t k => XS.iloadN X341.here hx rfl (hb hby d1_37) rfl  k) ?_
    have F389 := ((((P2.other W332 (Or.inr (slot_ne (Or.inl (hw _ (List.mem_of_getElem? (i := 16) rfl))) (Or.inr (hw _ (List.mem_of_getElem? (i := 11) rfl))) (by decide) (t := .int) (t' := .int) (by decide) (by decide)))).ext E334).other W336 (Or.inr (slot_ne (Or.inl (hw _ (List.mem_of_getElem? (i := 16) rfl))) (Or.inr (hw _ (List.mem_of_getElem? (i := 14) rfl))) (by decide) (t := .int) (t' := (.array .int)) (by decide) (by decide)))).other W341 (Or.inl ne_p0_b334))
    have F390 := ((F338.wr W336).wr W341)
    obtain ⟨T388, h388, X388, e388, W388, st388⟩ := putF X341 hx hZ hown (host := "") (Or.inl (hw _ (List.mem_of_getElem? (i := 15) rfl))) Via.refl e341 F389 F390 (Or.inl (hw _ (List.mem_of_getElem? (i := 16) rfl))) (hw _ (List.mem_of_getElem? (i := 2) rfl)) (ty := .int) (by decide) rfl rfl (g := (mkF m 38 #[.val (.ref p0), .val (.int p1), .val (.int (1 : Int32))] [(.int p1), (.ref p0)])) rfl rfl (hb hby d1_38)
    have Fw388 := F389.same W388
    have N388 := Fr.snoc X388 N341 gg_p0
    have K391 : Keep h0 h388 [p0] := K344.wr W388 (Or.inl (List.mem_of_getElem? (i := 0) rfl))
    refine own_via (T388.setTop (mkF m 41 #[.val (.ref p0), .val (.int p1), .val (.int (1 : Int32))] [])) (fun t k => st388 t k) ?_
    refine own_leave X388 Bd.notSynchronized (v := none) (fun _ => rfl) (fun fs hr => X388.returnOut hx Bd.returns (hb hby d1_41) hr) ?_ (by decide) (by decide)
    have F392 := (F390.wr W388)
    have F393 := ((Fw336.other W341 (Or.inl ne_p0_b334)).other W388 (Or.inr (slot_ne (Or.inr (hw _ (List.mem_of_getElem? (i := 14) rfl))) (Or.inl (hw _ (List.mem_of_getElem? (i := 16) rfl))) (by decide) (t := (.array .int)) (t' := .int) (by decide) (by decide))))
    have F394 := (UU387.other W388 (Ne.symm ne_p0_b334))
    show (own_Q1 Z p0 p1  h0 n0) _ T388.heap _
    rw [e388]
    exact ⟨b334, rfl, N388, K391, gg_b334, sz_b334, F392, F393, Fw388, F394⟩
def own_Q3 (Z : State) (p0 : Addr) (p1 : Int32) (arr : Addr) (N : Nat) (f : Nat → Int32) (h0 : Heap) (n0 : Nat) (v : Option Value) (h : Heap) (L : List Loc) : Prop := v = some (.int (own_ch p1 f)) ∧ Fr n0 L ∧ h = h0
theorem d3_0 : decode prog_17_method_4_code 0 = .ok (.aload_n 0, 1) := by decide +kernel
theorem d3_1 : decode prog_17_method_4_code 1 = .ok (.getfield 13, 3) := by decide +kernel
theorem d3_4 : decode prog_17_method_4_code 4 = .ok (.iload_n 1, 1) := by decide +kernel
theorem d3_5 : decode prog_17_method_4_code 5 = .ok (.iaload, 1) := by decide +kernel
theorem d3_6 : decode prog_17_method_4_code 6 = .ok (.iload_n 1, 1) := by decide +kernel
theorem d3_7 : decode prog_17_method_4_code 7 = .ok (.if_icmp .eq 7, 3) := by decide +kernel
theorem d3_10 : decode prog_17_method_4_code 10 = .ok (.iconst 1, 1) := by decide +kernel
theorem d3_11 : decode prog_17_method_4_code 11 = .ok (.goto 4, 3) := by decide +kernel
theorem d3_14 : decode prog_17_method_4_code 14 = .ok (.iconst 0, 1) := by decide +kernel
theorem d3_15 : decode prog_17_method_4_code 15 = .ok (.ireturn, 1) := by decide +kernel
theorem ef_3 (m : MethodId) (p0 : Addr) (p1 : Int32) : entryFrame m #[(.ref p0), (.int p1)] 2 = mkF m 0 #[.val (.ref p0), .val (.int p1)] [] := by first | (simp [entryFrame, mkF, argsToLocals, Value.category]; done) | rfl
set_option maxRecDepth 65536 in
set_option maxHeartbeats 40000000 in
theorem rm3 (l : Launch) (Z : State) (a0 : Array Value) (hw : ∀ d ∈ tables_1, d.before a0 Z = true) (ws : List Jvm.Cond) (p0 : Addr) (p1 : Int32) (h0 : Heap) (n0 : Nat) (Z0 : n0 ≤ h0.size) (arr : Addr) (N : Nat) (f : Nat → Int32) (P0 : Fld Z h0 p0 "com/example/unweave/unweave/abstraction/PathEncoding" "m_aCurrent" "[I" (.ref arr)) (P1 : own_A Z h0 arr .int N f) (hk : 0 ≤ p1.toInt ∧ p1.toInt < (N : Int)) :
    MetFree l (⟨"com/example/unweave/unweave/abstraction/PathEncoding", "isChanged", "(I)Z"⟩ : MethodName) (head1 (Jvm.Cond.code (⟨"com/example/unweave/unweave/abstraction/PathEncoding", "isChanged", "(I)Z"⟩ : MethodName) prog_17_method_4_code 2 (some .boolean) :: ws) ({ frames := 0, cells := 0, slots := 0, locals := 0 } : Room)) (fun a U => a = #[(.ref p0), (.int p1)] ∧ Z.Warmed39 U.vm ∧ U.heap = h0) (fun _ _ _ _ _ => True) (fun _ U o U' => ∃ v L, o = .returned v ∧ (own_Q3 Z p0 p1 arr N f h0 n0) v U'.heap L ∧ FrameEnd U o U' L ({ frames := 0, cells := 0, slots := 0, locals := 0 } : Room).cells ({ frames := 0, cells := 0, slots := 0, locals := 0 } : Room).slots) := by
  refine MetFree.of_bodySF (plainFor_of_name pn_com_example_unweave_unweave_abstraction_PathEncoding) hisR ?_
  intro p e s m args below meth c s₁ Bd hml0 hP hK
  obtain ⟨rfl, hZ, hh⟩ := hP
  have hx := Bd.exec
  have hby := Bd.bytes
  have hml : c.maxLocals = 2 := hml0
  have hown : s.vm.findClass "com/example/unweave/unweave/abstraction/PathEncoding" = some m.cls := findClass_of_methodNamed Bd.named
  have hnm := (name_of_methodNamed Bd.named Bd.method).1
  have X0 : Stand p l e ({ frames := 0, cells := 0, slots := 0, locals := 0 } : Room) s m #[(.ref p0), (.int p1)] below meth c s₁ [] 0 0 := Stand.of_body Bd
  have e0 : s₁.heap = h0 := by rw [← hh, Bd.state]; rfl
  have N0 := Fr.nil n0
  refine own_body (QQ := (own_Q3 Z p0 p1 arr N f h0 n0)) (ef_3 m p0 p1) ?_
  refine own_via (s₁.setTop (mkF m 1 #[.val (.ref p0), .val (.int p1)] [(.ref p0)])) (fun t k => XS.aloadN X0.here hx rfl (hb hby d3_0) rfl rfl k) ?_
  obtain ⟨T395, X395, e395, st395⟩ := getF X0 hx hZ hown (host := "") (Or.inl (hw _ (List.mem_of_getElem? (i := 13) rfl))) Via.refl e0 P0 (g := (mkF m 1 #[.val (.ref p0), .val (.int p1)] [(.ref p0)])) rfl rfl (hb hby d3_1)
  refine own_via (T395.setTop (mkF m 4 #[.val (.ref p0), .val (.int p1)] [(.ref arr)])) (fun t k => st395 t k) ?_
  refine own_via (T395.setTop (mkF m 5 #[.val (.ref p0), .val (.int p1)] [(.int p1), (.ref arr)])) (fun t k => XS.iloadN X395.here hx rfl (hb hby d3_4) rfl  k) ?_
  obtain ⟨cl397, Ar397, S397, H397⟩ := id P1
  refine own_via (T395.setTop (mkF m 6 #[.val (.ref p0), .val (.int p1)] [(.int (f p1.toInt.toNat))])) (fun t k => X395.iaload hx (j := p1) (v := (.int (f p1.toInt.toNat))) (by rw [e395]; exact Ar397.1) (State.isArrayOf_alike hZ.alike Ar397.2.1) Ar397.2.2 (own_in S397 hk) (own_at H397 hk) (g := (mkF m 5 #[.val (.ref p0), .val (.int p1)] [(.int p1), (.ref arr)])) rfl rfl (hb hby d3_5) _ k) ?_
  refine own_via (T395.setTop (mkF m 7 #[.val (.ref p0), .val (.int p1)] [(.int p1), (.int (f p1.toInt.toNat))])) (fun t k => XS.iloadN X395.here hx rfl (hb hby d3_6) rfl  k) ?_
  by_cases hc7_398 : (f p1.toInt.toNat) = p1
  · refine own_via (T395.setTop (mkF m 14 #[.val (.ref p0), .val (.int p1)] [])) (fun t k => XS.icmpYes X395.here hx rfl (pc0 := 7) (pc' := 14) rfl (hb hby d3_7) rfl (teq hc7_398).1 (by decide) (by decide) k) ?_
    refine own_via (T395.setTop (mkF m 15 #[.val (.ref p0), .val (.int p1)] [(.int (0 : Int32))])) (fun t k => XS.iconst X395.here hx rfl (hb hby d3_14) k) ?_
    refine own_leave X395 Bd.notSynchronized (v := some (.int (0 : Int32))) (fun h => by rw [Bd.returns] at h; cases h) (fun fs hr => retN X395 hx (t := .boolean) Bd.returns (by simp) (hb hby d3_15) hr) ?_ (by decide) (by decide)
    exact ⟨(by show some (Value.int _) = some (Value.int _); unfold own_ch; rw [if_pos hc7_398]), N0, e395⟩
  · refine own_via (T395.setTop (mkF m 10 #[.val (.ref p0), .val (.int p1)] [])) (fun t k => XS.icmpNo X395.here hx rfl (hb hby d3_7) rfl (feq hc7_398).1 k) ?_
    refine own_via (T395.setTop (mkF m 11 #[.val (.ref p0), .val (.int p1)] [(.int (1 : Int32))])) (fun t k => XS.iconst X395.here hx rfl (hb hby d3_10) k) ?_
    refine own_via (T395.setTop (mkF m 15 #[.val (.ref p0), .val (.int p1)] [(.int (1 : Int32))])) (fun t k => XS.goto X395.here hx rfl (pc0 := 11) (pc' := 15) rfl (hb hby d3_11) (by decide) (by decide) k) ?_
    refine own_leave X395 Bd.notSynchronized (v := some (.int (1 : Int32))) (fun h => by rw [Bd.returns] at h; cases h) (fun fs hr => retN X395 hx (t := .boolean) Bd.returns (by simp) (hb hby d3_15) hr) ?_ (by decide) (by decide)
    exact ⟨(by show some (Value.int _) = some (Value.int _); unfold own_ch; rw [if_neg hc7_398]), N0, e395⟩
def own_Q7e0 (Z : State) (p0 : Addr) (p1 : Addr) (arr : Addr) (nx : Int32) (N : Nat) (f : Nat → Int32) (mc : Int32) (el : Addr) (tA : Addr) (fA : Addr) (dA : Addr) (h0 : Heap) (n0 : Nat) (v : Option Value) (h : Heap) (L : List Loc) : Prop := v = some (.ref tA) ∧ Fr n0 L ∧ Keep h0 h [] ∧ Exa Z h p0 "com/example/unweave/unweave/abstraction/PathEncoding"
theorem d7_0 : decode prog_17_method_2_code 0 = .ok (.new 20, 3) := by decide +kernel
theorem d7_3 : decode prog_17_method_2_code 3 = .ok (.dup, 1) := by decide +kernel
theorem d7_4 : decode prog_17_method_2_code 4 = .ok (.invokespecial 22, 3) := by decide +kernel
theorem d7_7 : decode prog_17_method_2_code 7 = .ok (.astore_n 2, 1) := by decide +kernel
theorem d7_8 : decode prog_17_method_2_code 8 = .ok (.new 23, 3) := by decide +kernel
theorem d7_11 : decode prog_17_method_2_code 11 = .ok (.dup, 1) := by decide +kernel
theorem d7_12 : decode prog_17_method_2_code 12 = .ok (.invokespecial 25, 3) := by decide +kernel
theorem d7_15 : decode prog_17_method_2_code 15 = .ok (.astore_n 3, 1) := by decide +kernel
theorem d7_16 : decode prog_17_method_2_code 16 = .ok (.aload_n 1, 1) := by decide +kernel
theorem d7_17 : decode prog_17_method_2_code 17 = .ok (.invokeinterface 26 1, 5) := by decide +kernel
theorem d7_22 : decode prog_17_method_2_code 22 = .ok (.astore 4, 2) := by decide +kernel
theorem d7_24 : decode prog_17_method_2_code 24 = .ok (.aload 4, 2) := by decide +kernel
theorem d7_26 : decode prog_17_method_2_code 26 = .ok (.invokeinterface 32 1, 5) := by decide +kernel
theorem d7_31 : decode prog_17_method_2_code 31 = .ok (.ifCond .eq 179, 3) := by decide +kernel
theorem d7_210 : decode prog_17_method_2_code 210 = .ok (.aload_n 3, 1) := by decide +kernel
theorem d7_211 : decode prog_17_method_2_code 211 = .ok (.invokestatic 107, 3) := by decide +kernel
theorem d7_214 : decode prog_17_method_2_code 214 = .ok (.areturn, 1) := by decide +kernel
theorem pd_14 : parseMethodDescriptor "(Ljava/util/List;)Lcom/example/unweave/unweave/arith/Formula;" = some ⟨[(.object "java/util/List")], some (.object "com/example/unweave/unweave/arith/Formula")⟩ := by decide +kernel
theorem ef_7e0 (m : MethodId) (p0 : Addr) (p1 : Addr) : entryFrame m #[(.ref p0), (.ref p1)] 7 = mkF m 0 #[.val (.ref p0), .val (.ref p1), .unset, .unset, .unset, .unset, .unset] [] := by first | (simp [entryFrame, mkF, argsToLocals, Value.category]; done) | rfl
set_option maxRecDepth 65536 in
set_option maxHeartbeats 40000000 in
theorem rm7e0 (l : Launch) (Z : State) (a0 : Array Value) (hw : ∀ d ∈ tables_1, d.before a0 Z = true) (ws : List Jvm.Cond) (p0 : Addr) (p1 : Addr) (h0 : Heap) (n0 : Nat) (Z0 : n0 ≤ h0.size) (arr : Addr) (nx : Int32) (N : Nat) (f : Nat → Int32) (mc : Int32) (el : Addr) (tA : Addr) (fA : Addr) (dA : Addr) (P0 : Exa Z h0 p0 "com/example/unweave/unweave/abstraction/PathEncoding") (P1 : Fld Z h0 p0 "com/example/unweave/unweave/abstraction/PathEncoding" "m_aCurrent" "[I" (.ref arr)) (P2 : Fld Z h0 p0 "com/example/unweave/unweave/abstraction/PathEncoding" "m_nNext" "I" (.int nx)) (P3 : own_A Z h0 arr .int N f) (P4 : Exa Z h0 p1 "java/util/ArrayList") (P5 : Fld Z h0 p1 "java/util/AbstractList" "modCount" "I" (.int mc)) (P6 : Fld Z h0 p1 "java/util/ArrayList" "elementData" "[Ljava/lang/Object;" (.ref el)) (P7 : Fld Z h0 p1 "java/util/ArrayList" "size" "I" (.int (0 : Int32))) (P8 : Sta Z h0 "com/example/unweave/unweave/arith/Formula" "TRUE" "Lcom/example/unweave/unweave/arith/Formula;" (.ref tA)) (P9 : Sta Z h0 "com/example/unweave/unweave/arith/Formula" "FALSE" "Lcom/example/unweave/unweave/arith/Formula;" (.ref fA)) (P10 : Sta Z h0 "java/util/ArrayList" "DEFAULTCAPACITY_EMPTY_ELEMENTDATA" "[Ljava/lang/Object;" (.ref dA)) :
    MetFree l (⟨"com/example/unweave/unweave/abstraction/PathEncoding", "encode", "(Ljava/util/List;)Lcom/example/unweave/unweave/arith/Formula;"⟩ : MethodName) (head1 (Jvm.Cond.code (⟨"com/example/unweave/unweave/abstraction/PathEncoding", "encode", "(Ljava/util/List;)Lcom/example/unweave/unweave/arith/Formula;"⟩ : MethodName) prog_17_method_2_code 7 (some (.object "com/example/unweave/unweave/arith/Formula")) :: ws) ({ frames := 8, cells := 6, slots := 32, locals := 117 } : Room)) (fun a U => a = #[(.ref p0), (.ref p1)] ∧ Z.Warmed39 U.vm ∧ U.heap = h0) (fun _ _ _ _ _ => True) (fun _ U o U' => ∃ v L, o = .returned v ∧ (own_Q7e0 Z p0 p1 arr nx N f mc el tA fA dA h0 n0) v U'.heap L ∧ FrameEnd U o U' L ({ frames := 8, cells := 6, slots := 32, locals := 117 } : Room).cells ({ frames := 8, cells := 6, slots := 32, locals := 117 } : Room).slots) := by
  refine MetFree.of_bodySF (plainFor_of_name pn_com_example_unweave_unweave_abstraction_PathEncoding) hisR ?_
  intro p e s m args below meth c s₁ Bd hml0 hP hK
  obtain ⟨rfl, hZ, hh⟩ := hP
  have hx := Bd.exec
  have hby := Bd.bytes
  have hml : c.maxLocals = 7 := hml0
  have hown : s.vm.findClass "com/example/unweave/unweave/abstraction/PathEncoding" = some m.cls := findClass_of_methodNamed Bd.named
  have hnm := (name_of_methodNamed Bd.named Bd.method).1
  have X0 : Stand p l e ({ frames := 8, cells := 6, slots := 32, locals := 117 } : Room) s m #[(.ref p0), (.ref p1)] below meth c s₁ [] 0 0 := Stand.of_body Bd
  have e0 : s₁.heap = h0 := by rw [← hh, Bd.state]; rfl
  have N0 := Fr.nil n0
  refine own_body (QQ := (own_Q7e0 Z p0 p1 arr nx N f mc el tA fA dA h0 n0)) (ef_7e0 m p0 p1) ?_
  obtain ⟨T399, h399, X399, e399, E399, A399, D399, -, st399⟩ := newO X0 hx hZ hown (hw _ (List.mem_of_getElem? (i := 51) rfl)) (hw _ (List.mem_of_getElem? (i := 52) rfl)) (hw _ (List.mem_of_getElem? (i := 53) rfl)) e0 (g := (mkF m 0 #[.val (.ref p0), .val (.ref p1), .unset, .unset, .unset, .unset, .unset] [])) rfl (hb hby d7_0) (by decide) (by decide)
  obtain ⟨b399, g399⟩ : ∃ z, z = h0.size := ⟨_, rfl⟩
  rw [← g399] at A399 D399 st399
  have gg_b399 : n0 ≤ b399 := Nat.le_trans (Nat.le_trans Z0 (Keep.refl h0 []).1) (Nat.le_of_eq g399.symm)
  have sz_b399 : h0.size ≤ b399 := Nat.le_trans (Keep.refl h0 []).1 (Nat.le_of_eq g399.symm)
  have ne_p0_b399 : p0 ≠ b399 := Nat.ne_of_lt (Nat.lt_of_lt_of_le P0.lt (Nat.le_of_eq g399.symm))
  have ne_arr_b399 : arr ≠ b399 := Nat.ne_of_lt (Nat.lt_of_lt_of_le P3.lt (Nat.le_of_eq g399.symm))
  have ne_p1_b399 : p1 ≠ b399 := Nat.ne_of_lt (Nat.lt_of_lt_of_le P4.lt (Nat.le_of_eq g399.symm))
  have F_loadFactor_b399 : Fld Z h399 b399 "java/util/HashMap" "loadFactor" "F" (.float (0 : UInt32)) := D399 (Or.inr (hw _ (List.mem_of_getElem? (i := 66) rfl))) (ty := .float) (by decide)
  have K400 : Keep h0 h399 [] := (Keep.refl h0 []).ext E399
  refine own_via (T399.setTop (mkF m 3 #[.val (.ref p0), .val (.ref p1), .unset, .unset, .unset, .unset, .unset] [(.ref b399)])) (fun t k => st399 t k) ?_
  refine own_via (T399.setTop (mkF m 4 #[.val (.ref p0), .val (.ref p1), .unset, .unset, .unset, .unset, .unset] [(.ref b399), (.ref b399)])) (fun t k => XS.dup X399.here hx rfl (hb hby d7_3) rfl rfl k) ?_
  obtain ⟨_, _, ⟨T401, L401, k401, n401⟩, -, X401, ⟨Lc401, hQ401, l401, y401, z401⟩, st401⟩ := X399.specialBack hx (y := (⟨"java/util/HashMap", "<init>", "()V"⟩ : MethodName)) rfl hown (mvT hZ (hw _ (List.mem_of_getElem? (i := 54) rfl))) (mvT hZ (hw _ (List.mem_of_getElem? (i := 55) rfl))) (mvT hZ (hw _ (List.mem_of_getElem? (i := 56) rfl))) (by decide) (backOf (W := 1) (rm8 l Z a0 hw [] b399 h399 n0 (Nat.le_trans Z0 K400.1) A399 F_loadFactor_b399 gg_b399) hZ (hw _ (List.mem_of_getElem? (i := 56) rfl)) (hw _ (List.mem_of_getElem? (i := 53) rfl)) (by decide) (by decide)) (g := (mkF m 4 #[.val (.ref p0), .val (.ref p1), .unset, .unset, .unset, .unset, .unset] [(.ref b399), (.ref b399)])) rfl (by rw [hml]; rfl) (Steps.refl _) (a := b399) (argsL := []) (rest := [(.ref b399)]) (lenOf pd_0 rfl) rfl (by show 2 * 0 + _ ≤ _; exact Nat.le_of_eq rfl) (hb hby d7_4) (fun _ _ => ⟨rfl, e399, (by decide : 1 + 0 ≤ _), (by decide : 8 + 0 ≤ _)⟩)
  dsimp only [Pt.U, Pt.locs, Pt.cells, Pt.slots] at X401 l401 y401 z401 st401 hQ401
  rw [y401, z401] at X401
  have X401 : Stand _ _ _ _ _ _ _ _ _ _ T401 L401 1 8 := X401
  obtain ⟨h401, e401⟩ : ∃ h, T401.heap = h := ⟨_, rfl⟩
  rw [e401] at hQ401
  obtain ⟨rfl, N401q, K401q, G401_0⟩ := hQ401
  have N401 : Fr n0 L401 := by rw [l401]; exact Fr.app N0 N401q
  have K402 : Keep h0 h401 [] := K400.trans K401q (fun x hx => (List.mem_cons.mp hx).elim (fun e => e ▸ Or.inr sz_b399) (fun hx => nomatch hx))
  refine own_via (T401.setTop (mkF m 7 #[.val (.ref p0), .val (.ref p1), .unset, .unset, .unset, .unset, .unset] [(.ref b399)])) (fun t k => st401.trans k) ?_
  refine own_via (T401.setTop (mkF m 8 #[.val (.ref p0), .val (.ref p1), .val (.ref b399), .unset, .unset, .unset, .unset] [])) (fun t k => XS.astoreN X401.here hx rfl (hb hby d7_7) rfl rfl (l' := #[.val (.ref p0), .val (.ref p1), .val (.ref b399), .unset, .unset, .unset, .unset]) rfl k) ?_
  obtain ⟨T403, h403, X403, e403, E403, A403, D403, -, st403⟩ := newO X401 hx hZ hown (hw _ (List.mem_of_getElem? (i := 67) rfl)) (hw _ (List.mem_of_getElem? (i := 23) rfl)) (hw _ (List.mem_of_getElem? (i := 24) rfl)) e401 (g := (mkF m 8 #[.val (.ref p0), .val (.ref p1), .val (.ref b399), .unset, .unset, .unset, .unset] [])) rfl (hb hby d7_8) (by decide) (by decide)
  obtain ⟨b403, g403⟩ : ∃ z, z = h401.size := ⟨_, rfl⟩
  rw [← g403] at A403 D403 st403
  have gg_b403 : n0 ≤ b403 := Nat.le_trans (Nat.le_trans Z0 K402.1) (Nat.le_of_eq g403.symm)
  have sz_b403 : h0.size ≤ b403 := Nat.le_trans K402.1 (Nat.le_of_eq g403.symm)
  have ne_p0_b403 : p0 ≠ b403 := Nat.ne_of_lt (Nat.lt_of_lt_of_le ((P0.ext E399).keep K401q).lt (Nat.le_of_eq g403.symm))
  have ne_arr_b403 : arr ≠ b403 := Nat.ne_of_lt (Nat.lt_of_lt_of_le ((P3.ext E399).keep K401q (fun q => ne_arr_b399 (List.mem_singleton.mp q))).lt (Nat.le_of_eq g403.symm))
  have ne_p1_b403 : p1 ≠ b403 := Nat.ne_of_lt (Nat.lt_of_lt_of_le ((P4.ext E399).keep K401q).lt (Nat.le_of_eq g403.symm))
  have ne_b399_b403 : b399 ≠ b403 := Nat.ne_of_lt (Nat.lt_of_lt_of_le G401_0.lt (Nat.le_of_eq g403.symm))
  have F_modCount_b403 : Fld Z h403 b403 "java/util/AbstractList" "modCount" "I" (.int (0 : Int32)) := D403 (Or.inl (hw _ (List.mem_of_getElem? (i := 42) rfl))) (ty := .int) (by decide)
  have F_elementData_b403 : Fld Z h403 b403 "java/util/ArrayList" "elementData" "[Ljava/lang/Object;" .null := D403 (Or.inl (hw _ (List.mem_of_getElem? (i := 45) rfl))) (ty := (.array (.object "java/lang/Object"))) (by decide)
  have F_size_b403 : Fld Z h403 b403 "java/util/ArrayList" "size" "I" (.int (0 : Int32)) := D403 (Or.inl (hw _ (List.mem_of_getElem? (i := 106) rfl))) (ty := .int) (by decide)
  have K404 : Keep h0 h403 [] := K402.ext E403
  refine own_via (T403.setTop (mkF m 11 #[.val (.ref p0), .val (.ref p1), .val (.ref b399), .unset, .unset, .unset, .unset] [(.ref b403)])) (fun t k => st403 t k) ?_
  refine own_via (T403.setTop (mkF m 12 #[.val (.ref p0), .val (.ref p1), .val (.ref b399), .unset, .unset, .unset, .unset] [(.ref b403), (.ref b403)])) (fun t k => XS.dup X403.here hx rfl (hb hby d7_11) rfl rfl k) ?_
  obtain ⟨_, _, ⟨T405, L405, k405, n405⟩, -, X405, ⟨Lc405, hQ405, l405, y405, z405⟩, st405⟩ := X403.specialBack hx (y := (⟨"java/util/ArrayList", "<init>", "()V"⟩ : MethodName)) rfl hown (mvT hZ (hw _ (List.mem_of_getElem? (i := 68) rfl))) (mvT hZ (hw _ (List.mem_of_getElem? (i := 26) rfl))) (mvT hZ (hw _ (List.mem_of_getElem? (i := 27) rfl))) (by decide) (backOf (W := 1) (rm4 l Z a0 hw [] b403 h403 n0 (Nat.le_trans Z0 K404.1) dA A403 F_modCount_b403 F_elementData_b403 F_size_b403 (own_stakeepW (ws := []) P10 (fun x hx => nomatch hx) K404) gg_b403) hZ (hw _ (List.mem_of_getElem? (i := 27) rfl)) (hw _ (List.mem_of_getElem? (i := 24) rfl)) (by decide) (by decide)) (g := (mkF m 12 #[.val (.ref p0), .val (.ref p1), .val (.ref b399), .unset, .unset, .unset, .unset] [(.ref b403), (.ref b403)])) rfl (by rw [hml]; rfl) (Steps.refl _) (a := b403) (argsL := []) (rest := [(.ref b403)]) (lenOf pd_0 rfl) rfl (by show 2 * 0 + _ ≤ _; exact Nat.le_of_eq rfl) (hb hby d7_12) (fun _ _ => ⟨rfl, e403, (by decide : 2 + 0 ≤ _), (by decide : 11 + 0 ≤ _)⟩)
  dsimp only [Pt.U, Pt.locs, Pt.cells, Pt.slots] at X405 l405 y405 z405 st405 hQ405
  rw [y405, z405] at X405
  have X405 : Stand _ _ _ _ _ _ _ _ _ _ T405 L405 2 11 := X405
  obtain ⟨h405, e405⟩ : ∃ h, T405.heap = h := ⟨_, rfl⟩
  rw [e405] at hQ405
  obtain ⟨rfl, N405q, K405q, G405_0, G405_1, G405_2, G405_3⟩ := hQ405
  have N405 : Fr n0 L405 := by rw [l405]; exact Fr.app N401 N405q
  have K406 : Keep h0 h405 [] := K404.trans K405q (fun x hx => (List.mem_cons.mp hx).elim (fun e => e ▸ Or.inr sz_b403) (fun hx => nomatch hx))
  refine own_via (T405.setTop (mkF m 15 #[.val (.ref p0), .val (.ref p1), .val (.ref b399), .unset, .unset, .unset, .unset] [(.ref b403)])) (fun t k => st405.trans k) ?_
  refine own_via (T405.setTop (mkF m 16 #[.val (.ref p0), .val (.ref p1), .val (.ref b399), .val (.ref b403), .unset, .unset, .unset] [])) (fun t k => XS.astoreN X405.here hx rfl (hb hby d7_15) rfl rfl (l' := #[.val (.ref p0), .val (.ref p1), .val (.ref b399), .val (.ref b403), .unset, .unset, .unset]) rfl k) ?_
  refine own_via (T405.setTop (mkF m 17 #[.val (.ref p0), .val (.ref p1), .val (.ref b399), .val (.ref b403), .unset, .unset, .unset] [(.ref p1)])) (fun t k => XS.aloadN X405.here hx rfl (hb hby d7_16) rfl rfl k) ?_
  have F408 := ((((P5.ext E399).keep K401q (fun q => ne_p1_b399 (List.mem_singleton.mp q))).ext E403).keep K405q (fun q => ne_p1_b403 (List.mem_singleton.mp q)))
  have F409 := ((((P4.ext E399).keep K401q).ext E403).keep K405q)
  obtain ⟨cq407, kq407, q407a, q407b, q407c⟩ := isOf hZ e405 F409
  obtain ⟨_, _, ⟨T407, L407, k407, n407⟩, -, X407, ⟨Lc407, hQ407, l407, y407, z407⟩, st407⟩ := X405.interfaceBack hx (xi := (⟨"java/util/List", "iterator", "()Ljava/util/Iterator;"⟩ : MethodName)) (y := (⟨"java/util/ArrayList", "iterator", "()Ljava/util/Iterator;"⟩ : MethodName)) hown (mvT hZ (hw _ (List.mem_of_getElem? (i := 69) rfl))) (mvT hZ (hw _ (List.mem_of_getElem? (i := 70) rfl))) (mvT hZ (hw _ (List.mem_of_getElem? (i := 71) rfl))) (mvT hZ (hw _ (List.mem_of_getElem? (i := 72) rfl))) (mvT hZ (hw _ (List.mem_of_getElem? (i := 73) rfl))) (mvT hZ (hw _ (List.mem_of_getElem? (i := 74) rfl))) (mvT hZ (hw _ (List.mem_of_getElem? (i := 75) rfl))) (mvT hZ (hw _ (List.mem_of_getElem? (i := 76) rfl))) (by decide) (backOf (W := 0) (rm10 l Z a0 hw [] p1 h405 n0 (Nat.le_trans Z0 K406.1) mc F408) hZ (hw _ (List.mem_of_getElem? (i := 77) rfl)) (hw _ (List.mem_of_getElem? (i := 24) rfl)) (by decide) (by decide)) q407a q407b q407c (g := (mkF m 17 #[.val (.ref p0), .val (.ref p1), .val (.ref b399), .val (.ref b403), .unset, .unset, .unset] [(.ref p1)])) rfl (by rw [hml]; rfl) (Steps.refl _) (argsL := []) (rest := []) (lenOf pd_12 rfl) rfl (by show 2 * 0 + _ ≤ _; exact Nat.le_of_eq rfl) (hb hby d7_17) (fun _ _ => ⟨rfl, e405, (by decide : 2 + 1 ≤ _), (by decide : 11 + 4 ≤ _)⟩)
  dsimp only [Pt.U, Pt.locs, Pt.cells, Pt.slots] at X407 l407 y407 z407 st407 hQ407
  rw [y407, z407] at X407
  have X407 : Stand _ _ _ _ _ _ _ _ _ _ T407 L407 3 15 := X407
  obtain ⟨h407, e407⟩ : ∃ h, T407.heap = h := ⟨_, rfl⟩
  rw [e407] at hQ407
  obtain ⟨r_407, rfl, N407q, K407q, gg_r_407, sq_r_407, G407_0, G407_1, G407_2, G407_3, G407_4⟩ := hQ407
  have N407 : Fr n0 L407 := by rw [l407]; exact Fr.app N405 N407q
  have sz_r_407 : h0.size ≤ r_407 := Nat.le_trans K406.1 sq_r_407
  have ne_p0_r_407 : p0 ≠ r_407 := Nat.ne_of_lt (Nat.lt_of_lt_of_le ((((P0.ext E399).keep K401q).ext E403).keep K405q).lt sq_r_407)
  have ne_arr_r_407 : arr ≠ r_407 := Nat.ne_of_lt (Nat.lt_of_lt_of_le ((((P3.ext E399).keep K401q (fun q => ne_arr_b399 (List.mem_singleton.mp q))).ext E403).keep K405q (fun q => ne_arr_b403 (List.mem_singleton.mp q))).lt sq_r_407)
  have ne_p1_r_407 : p1 ≠ r_407 := Nat.ne_of_lt (Nat.lt_of_lt_of_le F409.lt sq_r_407)
  have ne_b399_r_407 : b399 ≠ r_407 := Nat.ne_of_lt (Nat.lt_of_lt_of_le ((G401_0.ext E403).keep K405q).lt sq_r_407)
  have ne_b403_r_407 : b403 ≠ r_407 := Nat.ne_of_lt (Nat.lt_of_lt_of_le G405_0.lt sq_r_407)
  have K410 : Keep h0 h407 [] := K406.trans K407q (fun x hx => nomatch hx)
  refine own_via (T407.setTop (mkF m 22 #[.val (.ref p0), .val (.ref p1), .val (.ref b399), .val (.ref b403), .unset, .unset, .unset] [(.ref r_407)])) (fun t k => st407.trans k) ?_
  refine own_via (T407.setTop (mkF m 24 #[.val (.ref p0), .val (.ref p1), .val (.ref b399), .val (.ref b403), .val (.ref r_407), .unset, .unset] [])) (fun t k => XS.astore X407.here hx rfl (hb hby d7_22) rfl rfl (l' := #[.val (.ref p0), .val (.ref p1), .val (.ref b399), .val (.ref b403), .val (.ref r_407), .unset, .unset]) rfl k) ?_
  refine own_via (T407.setTop (mkF m 26 #[.val (.ref p0), .val (.ref p1), .val (.ref b399), .val (.ref b403), .val (.ref r_407), .unset, .unset] [(.ref r_407)])) (fun t k => XS.aload X407.here hx rfl (hb hby d7_24) rfl rfl k) ?_
  have F412 := (((((P7.ext E399).keep K401q (fun q => ne_p1_b399 (List.mem_singleton.mp q))).ext E403).keep K405q (fun q => ne_p1_b403 (List.mem_singleton.mp q))).keep K407q (by simp))
  obtain ⟨cq411, kq411, q411a, q411b, q411c⟩ := isOf hZ e407 G407_0
  obtain ⟨_, _, ⟨T411, L411, k411, n411⟩, -, X411, ⟨Lc411, hQ411, l411, y411, z411⟩, st411⟩ := X407.interfaceBack hx (xi := (⟨"java/util/Iterator", "hasNext", "()Z"⟩ : MethodName)) (y := (⟨"java/util/ArrayList$Itr", "hasNext", "()Z"⟩ : MethodName)) hown (mvT hZ (hw _ (List.mem_of_getElem? (i := 94) rfl))) (mvT hZ (hw _ (List.mem_of_getElem? (i := 95) rfl))) (mvT hZ (hw _ (List.mem_of_getElem? (i := 96) rfl))) (mvT hZ (hw _ (List.mem_of_getElem? (i := 97) rfl))) (mvT hZ (hw _ (List.mem_of_getElem? (i := 98) rfl))) (mvT hZ (hw _ (List.mem_of_getElem? (i := 99) rfl))) (mvT hZ (hw _ (List.mem_of_getElem? (i := 100) rfl))) (mvT hZ (hw _ (List.mem_of_getElem? (i := 101) rfl))) (by decide) (backOf (W := 0) (rm12c00 l Z a0 hw [] r_407 h407 n0 (Nat.le_trans Z0 K410.1) p1 G407_2 G407_1 F412) hZ (hw _ (List.mem_of_getElem? (i := 102) rfl)) (hw _ (List.mem_of_getElem? (i := 80) rfl)) (by decide) (by decide)) q411a q411b q411c (g := (mkF m 26 #[.val (.ref p0), .val (.ref p1), .val (.ref b399), .val (.ref b403), .val (.ref r_407), .unset, .unset] [(.ref r_407)])) rfl (by rw [hml]; rfl) (Steps.refl _) (argsL := []) (rest := []) (lenOf pd_11 rfl) rfl (by show 2 * 0 + _ ≤ _; exact Nat.le_of_eq rfl) (hb hby d7_26) (fun _ _ => ⟨rfl, e407, (by decide : 3 + 0 ≤ _), (by decide : 15 + 0 ≤ _)⟩)
  dsimp only [Pt.U, Pt.locs, Pt.cells, Pt.slots] at X411 l411 y411 z411 st411 hQ411
  rw [y411, z411] at X411
  have X411 : Stand _ _ _ _ _ _ _ _ _ _ T411 L411 3 15 := X411
  obtain ⟨rfl, N411q, e411⟩ := hQ411
  have N411 : Fr n0 L411 := by rw [l411]; exact Fr.app N407 N411q
  refine own_via (T411.setTop (mkF m 31 #[.val (.ref p0), .val (.ref p1), .val (.ref b399), .val (.ref b403), .val (.ref r_407), .unset, .unset] [(.int (0 : Int32))])) (fun t k => st411.trans k) ?_
  refine own_via (T411.setTop (mkF m 210 #[.val (.ref p0), .val (.ref p1), .val (.ref b399), .val (.ref b403), .val (.ref r_407), .unset, .unset] [])) (fun t k => XS.ifYes X411.here hx rfl (pc0 := 31) (pc' := 210) rfl (hb hby d7_31) rfl ((if0 _ _).trans (teq (by decide)).1) (by decide) (by decide) k) ?_
  refine own_via (T411.setTop (mkF m 211 #[.val (.ref p0), .val (.ref p1), .val (.ref b399), .val (.ref b403), .val (.ref r_407), .unset, .unset] [(.ref b403)])) (fun t k => XS.aloadN X411.here hx rfl (hb hby d7_210) rfl rfl k) ?_
  have F414 := (G405_0.keep K407q)
  have F415 := (G405_1.keep K407q (by simp))
  have F416 := (G405_2.keep K407q (by simp))
  have F417 := (G405_3.keep K407q (by simp))
  obtain ⟨_, _, ⟨T413, L413, k413, n413⟩, -, X413, ⟨Lc413, hQ413, l413, y413, z413⟩, st413⟩ := Jvm.LawKit.callS X411 hx (y := (⟨"com/example/unweave/unweave/arith/Formula", "and", "(Ljava/util/List;)Lcom/example/unweave/unweave/arith/Formula;"⟩ : MethodName)) hown (mvT hZ (hw _ (List.mem_of_getElem? (i := 107) rfl))) (mvT hZ (hw _ (List.mem_of_getElem? (i := 108) rfl))) (mvT hZ (hw _ (List.mem_of_getElem? (i := 109) rfl))) (mvT hZ (hw _ (List.mem_of_getElem? (i := 110) rfl))) (by decide) (backOf (W := 0) (rm13 l Z a0 hw [] b403 h407 n0 (Nat.le_trans Z0 K410.1) (0 : Int32) dA tA fA F414 F415 F416 F417 (own_stakeepW (ws := []) P8 (fun x hx => nomatch hx) K410) (own_stakeepW (ws := []) P9 (fun x hx => nomatch hx) K410)) hZ (hw _ (List.mem_of_getElem? (i := 110) rfl)) (hw _ (List.mem_of_getElem? (i := 109) rfl)) (by decide) (by decide)) (g := (mkF m 211 #[.val (.ref p0), .val (.ref p1), .val (.ref b399), .val (.ref b403), .val (.ref r_407), .unset, .unset] [(.ref b403)])) rfl (by rw [hml]; rfl) (argsL := [(.ref b403)]) (rest := []) (lenOf pd_14 rfl) rfl (by show 2 * 0 + _ ≤ _; exact Nat.le_of_eq rfl) (hb hby d7_211) (fun _ _ => ⟨rfl, e411, (by decide : 3 + 3 ≤ _), (by decide : 15 + 17 ≤ _)⟩)
  dsimp only [Pt.U, Pt.locs, Pt.cells, Pt.slots] at X413 l413 y413 z413 st413 hQ413
  rw [y413, z413] at X413
  have X413 : Stand _ _ _ _ _ _ _ _ _ _ T413 L413 6 32 := X413
  obtain ⟨h413, e413⟩ : ∃ h, T413.heap = h := ⟨_, rfl⟩
  rw [e413] at hQ413
  obtain ⟨rfl, N413q, K413q, G413_0⟩ := hQ413
  have N413 : Fr n0 L413 := by rw [l413]; exact Fr.app N411 N413q
  have K418 : Keep h0 h413 [] := K410.trans K413q (fun x hx => nomatch hx)
  refine own_via (T413.setTop (mkF m 214 #[.val (.ref p0), .val (.ref p1), .val (.ref b399), .val (.ref b403), .val (.ref r_407), .unset, .unset] [(.ref tA)])) (fun t k => st413 t k) ?_
  refine own_leave X413 Bd.notSynchronized (v := some (.ref tA)) (fun h => by rw [Bd.returns] at h; cases h) (fun fs hr => retOut X413 hx Bd.returns rfl (Or.inr (Or.inr (Or.inr (Or.inr ⟨rfl, rfl, rfl⟩)))) (hb hby d7_214) hr) ?_ (by decide) (by decide)
  have F419 := ((((((P0.ext E399).keep K401q).ext E403).keep K405q).keep K407q).keep K413q)
  show (own_Q7e0 Z p0 p1 arr nx N f mc el tA fA dA h0 n0) _ T413.heap _
  rw [e413]
  exact ⟨rfl, N413, K418, F419⟩
def own_Q7e1 (Z : State) (p0 : Addr) (p1 : Addr) (arr : Addr) (nx : Int32) (N : Nat) (f : Nat → Int32) (mc : Int32) (el : Addr) (tA : Addr) (fA : Addr) (dA : Addr) (o0 : Addr) (kA : Addr) (swA : Addr) (sw : Nat → Int32) (x0 : Int32) (h0 : Heap) (n0 : Nat) (v : Option Value) (h : Heap) (L : List Loc) : Prop := v = some (.ref tA) ∧ Fr n0 L ∧ Keep h0 h [p0, arr] ∧ Exa Z h p0 "com/example/unweave/unweave/abstraction/PathEncoding" ∧ Fld Z h p0 "com/example/unweave/unweave/abstraction/PathEncoding" "m_aCurrent" "[I" (.ref arr) ∧ Fld Z h p0 "com/example/unweave/unweave/abstraction/PathEncoding" "m_nNext" "I" (.int (nx + (1 : Int32))) ∧ own_A Z h arr .int N (own_up f x0.toInt.toNat nx)
theorem d7_34 : decode prog_17_method_2_code 34 = .ok (.aload 4, 2) := by decide +kernel
theorem d7_36 : decode prog_17_method_2_code 36 = .ok (.invokeinterface 38 1, 5) := by decide +kernel
theorem d7_41 : decode prog_17_method_2_code 41 = .ok (.checkcast 42, 3) := by decide +kernel
theorem d7_44 : decode prog_17_method_2_code 44 = .ok (.astore 5, 2) := by decide +kernel
theorem d7_46 : decode prog_17_method_2_code 46 = .ok (.getstatic 44, 3) := by decide +kernel
theorem d7_49 : decode prog_17_method_2_code 49 = .ok (.aload 5, 2) := by decide +kernel
theorem d7_51 : decode prog_17_method_2_code 51 = .ok (.invokevirtual 49, 3) := by decide +kernel
theorem d7_54 : decode prog_17_method_2_code 54 = .ok (.invokevirtual 53, 3) := by decide +kernel
theorem d7_57 : decode prog_17_method_2_code 57 = .ok (.iaload, 1) := by decide +kernel
theorem d7_58 : decode prog_17_method_2_code 58 = .ok (.tableswitch 133 1 3 #[26, 51, 109], 26) := by decide +kernel
theorem d7_167 : decode prog_17_method_2_code 167 = .ok (.aload_n 0, 1) := by decide +kernel
theorem d7_168 : decode prog_17_method_2_code 168 = .ok (.getfield 13, 3) := by decide +kernel
theorem d7_171 : decode prog_17_method_2_code 171 = .ok (.aload 5, 2) := by decide +kernel
theorem d7_173 : decode prog_17_method_2_code 173 = .ok (.invokevirtual 95, 3) := by decide +kernel
theorem d7_176 : decode prog_17_method_2_code 176 = .ok (.aload_n 0, 1) := by decide +kernel
theorem d7_177 : decode prog_17_method_2_code 177 = .ok (.dup, 1) := by decide +kernel
theorem d7_178 : decode prog_17_method_2_code 178 = .ok (.getfield 17, 3) := by decide +kernel
theorem d7_181 : decode prog_17_method_2_code 181 = .ok (.dup_x1, 1) := by decide +kernel
theorem d7_182 : decode prog_17_method_2_code 182 = .ok (.iconst 1, 1) := by decide +kernel
theorem d7_183 : decode prog_17_method_2_code 183 = .ok (.iadd, 1) := by decide +kernel
theorem d7_184 : decode prog_17_method_2_code 184 = .ok (.putfield 17, 3) := by decide +kernel
theorem d7_187 : decode prog_17_method_2_code 187 = .ok (.iastore, 1) := by decide +kernel
theorem d7_188 : decode prog_17_method_2_code 188 = .ok (.goto 19, 3) := by decide +kernel
theorem d7_207 : decode prog_17_method_2_code 207 = .ok (.goto (-183), 3) := by decide +kernel
theorem pd_15 : parseMethodDescriptor "()Ljava/lang/Object;" = some ⟨[], some (.object "java/lang/Object")⟩ := by decide +kernel
theorem pd_16 : parseMethodDescriptor "()Lcom/example/unweave/unweave/abstraction/Operation$EKind;" = some ⟨[], some (.object "com/example/unweave/unweave/abstraction/Operation$EKind")⟩ := by decide +kernel
theorem pd_17 : parseMethodDescriptor "()I" = some ⟨[], some .int⟩ := by decide +kernel
theorem ef_7e1 (m : MethodId) (p0 : Addr) (p1 : Addr) : entryFrame m #[(.ref p0), (.ref p1)] 7 = mkF m 0 #[.val (.ref p0), .val (.ref p1), .unset, .unset, .unset, .unset, .unset] [] := by first | (simp [entryFrame, mkF, argsToLocals, Value.category]; done) | rfl
set_option maxRecDepth 65536 in
set_option maxHeartbeats 40000000 in
theorem rm7e1 (l : Launch) (Z : State) (a0 : Array Value) (hw : ∀ d ∈ tables_1, d.before a0 Z = true) (ws : List Jvm.Cond) (p0 : Addr) (p1 : Addr) (h0 : Heap) (n0 : Nat) (Z0 : n0 ≤ h0.size) (arr : Addr) (nx : Int32) (N : Nat) (f : Nat → Int32) (mc : Int32) (el : Addr) (tA : Addr) (fA : Addr) (dA : Addr) (o0 : Addr) (kA : Addr) (swA : Addr) (sw : Nat → Int32) (x0 : Int32) (P0 : Exa Z h0 p0 "com/example/unweave/unweave/abstraction/PathEncoding") (P1 : Fld Z h0 p0 "com/example/unweave/unweave/abstraction/PathEncoding" "m_aCurrent" "[I" (.ref arr)) (P2 : Fld Z h0 p0 "com/example/unweave/unweave/abstraction/PathEncoding" "m_nNext" "I" (.int nx)) (P3 : own_A Z h0 arr .int N f) (P4 : Exa Z h0 p1 "java/util/ArrayList") (P5 : Fld Z h0 p1 "java/util/AbstractList" "modCount" "I" (.int mc)) (P6 : Fld Z h0 p1 "java/util/ArrayList" "elementData" "[Ljava/lang/Object;" (.ref el)) (P7 : Fld Z h0 p1 "java/util/ArrayList" "size" "I" (.int (1 : Int32))) (P8 : Sta Z h0 "com/example/unweave/unweave/arith/Formula" "TRUE" "Lcom/example/unweave/unweave/arith/Formula;" (.ref tA)) (P9 : Sta Z h0 "com/example/unweave/unweave/arith/Formula" "FALSE" "Lcom/example/unweave/unweave/arith/Formula;" (.ref fA)) (P10 : Sta Z h0 "java/util/ArrayList" "DEFAULTCAPACITY_EMPTY_ELEMENTDATA" "[Ljava/lang/Object;" (.ref dA)) (P11 : own_Ob Z h0 el 10 [.ref o0]) (P12 : Exa Z h0 o0 "com/example/unweave/unweave/abstraction/Operation") (P13 : Fld Z h0 o0 "com/example/unweave/unweave/abstraction/Operation" "m_eKind" "Lcom/example/unweave/unweave/abstraction/Operation$EKind;" (.ref kA)) (P14 : Fld Z h0 o0 "com/example/unweave/unweave/abstraction/Operation" "m_nVariable" "I" (.int x0)) (P15 : Exa Z h0 kA "com/example/unweave/unweave/abstraction/Operation$EKind") (P16 : Fld Z h0 kA "java/lang/Enum" "ordinal" "I" (.int (2 : Int32))) (P17 : Sta Z h0 "com/example/unweave/unweave/abstraction/PathEncoding$1" "$SwitchMap$com$example$unweave$unweave$abstraction$Operation$EKind" "[I" (.ref swA)) (P18 : own_A Z h0 swA .int 3 sw) (gg_p0 : n0 ≤ p0) (gg_arr : n0 ≤ arr) (hx0 : 0 ≤ x0.toInt ∧ x0.toInt < (N : Int)) (hsw : sw 2 = 3) (n0_p1 : p1 ≠ p0) (n1_p1 : p1 ≠ arr) (n0_el : el ≠ p0) (n1_el : el ≠ arr) (n0_kA : kA ≠ p0) (n1_kA : kA ≠ arr) (n0_swA : swA ≠ p0) (n1_swA : swA ≠ arr) (n0_o0 : o0 ≠ p0) (n1_o0 : o0 ≠ arr) (n0_arr : arr ≠ p0) :
    MetFree l (⟨"com/example/unweave/unweave/abstraction/PathEncoding", "encode", "(Ljava/util/List;)Lcom/example/unweave/unweave/arith/Formula;"⟩ : MethodName) (head1 (Jvm.Cond.code (⟨"com/example/unweave/unweave/abstraction/PathEncoding", "encode", "(Ljava/util/List;)Lcom/example/unweave/unweave/arith/Formula;"⟩ : MethodName) prog_17_method_2_code 7 (some (.object "com/example/unweave/unweave/arith/Formula")) :: ws) ({ frames := 8, cells := 6, slots := 32, locals := 117 } : Room)) (fun a U => a = #[(.ref p0), (.ref p1)] ∧ Z.Warmed39 U.vm ∧ U.heap = h0) (fun _ _ _ _ _ => True) (fun _ U o U' => ∃ v L, o = .returned v ∧ (own_Q7e1 Z p0 p1 arr nx N f mc el tA fA dA o0 kA swA sw x0 h0 n0) v U'.heap L ∧ FrameEnd U o U' L ({ frames := 8, cells := 6, slots := 32, locals := 117 } : Room).cells ({ frames := 8, cells := 6, slots := 32, locals := 117 } : Room).slots) := by
  refine MetFree.of_bodySF (plainFor_of_name pn_com_example_unweave_unweave_abstraction_PathEncoding) hisR ?_
  intro p e s m args below meth c s₁ Bd hml0 hP hK
  obtain ⟨rfl, hZ, hh⟩ := hP
  have hx := Bd.exec
  have hby := Bd.bytes
  have hml : c.maxLocals = 7 := hml0
  have hown : s.vm.findClass "com/example/unweave/unweave/abstraction/PathEncoding" = some m.cls := findClass_of_methodNamed Bd.named
  have hnm := (name_of_methodNamed Bd.named Bd.method).1
  have X0 : Stand p l e ({ frames := 8, cells := 6, slots := 32, locals := 117 } : Room) s m #[(.ref p0), (.ref p1)] below meth c s₁ [] 0 0 := Stand.of_body Bd
  have e0 : s₁.heap = h0 := by rw [← hh, Bd.state]; rfl
  have N0 := Fr.nil n0
  refine own_body (QQ := (own_Q7e1 Z p0 p1 arr nx N f mc el tA fA dA o0 kA swA sw x0 h0 n0)) (ef_7e1 m p0 p1) ?_
  have hNS : ∀ x ∈ [p0, arr], ∃ c : Cell, h0[x]? = some c ∧ c.vm.isStatics = false := by
    intro x hx
    rcases List.mem_cons.mp hx with e | hx
    · rw [e]; exact own_nsE P0
    rcases List.mem_cons.mp hx with e | hx
    · rw [e]; exact own_nsA P3
    exact nomatch hx
  obtain ⟨T420, h420, X420, e420, E420, A420, D420, -, st420⟩ := newO X0 hx hZ hown (hw _ (List.mem_of_getElem? (i := 51) rfl)) (hw _ (List.mem_of_getElem? (i := 52) rfl)) (hw _ (List.mem_of_getElem? (i := 53) rfl)) e0 (g := (mkF m 0 #[.val (.ref p0), .val (.ref p1), .unset, .unset, .unset, .unset, .unset] [])) rfl (hb hby d7_0) (by decide) (by decide)
  obtain ⟨b420, g420⟩ : ∃ z, z = h0.size := ⟨_, rfl⟩
  rw [← g420] at A420 D420 st420
  have gg_b420 : n0 ≤ b420 := Nat.le_trans (Nat.le_trans Z0 (Keep.refl h0 [p0, arr]).1) (Nat.le_of_eq g420.symm)
  have sz_b420 : h0.size ≤ b420 := Nat.le_trans (Keep.refl h0 [p0, arr]).1 (Nat.le_of_eq g420.symm)
  have ne_p0_b420 : p0 ≠ b420 := Nat.ne_of_lt (Nat.lt_of_lt_of_le P0.lt (Nat.le_of_eq g420.symm))
  have ne_arr_b420 : arr ≠ b420 := Nat.ne_of_lt (Nat.lt_of_lt_of_le P3.lt (Nat.le_of_eq g420.symm))
  have ne_p1_b420 : p1 ≠ b420 := Nat.ne_of_lt (Nat.lt_of_lt_of_le P4.lt (Nat.le_of_eq g420.symm))
  have ne_el_b420 : el ≠ b420 := Nat.ne_of_lt (Nat.lt_of_lt_of_le P11.lt (Nat.le_of_eq g420.symm))
  have ne_o0_b420 : o0 ≠ b420 := Nat.ne_of_lt (Nat.lt_of_lt_of_le P12.lt (Nat.le_of_eq g420.symm))
  have ne_kA_b420 : kA ≠ b420 := Nat.ne_of_lt (Nat.lt_of_lt_of_le P15.lt (Nat.le_of_eq g420.symm))
  have ne_swA_b420 : swA ≠ b420 := Nat.ne_of_lt (Nat.lt_of_lt_of_le P18.lt (Nat.le_of_eq g420.symm))
  have F_loadFactor_b420 : Fld Z h420 b420 "java/util/HashMap" "loadFactor" "F" (.float (0 : UInt32)) := D420 (Or.inr (hw _ (List.mem_of_getElem? (i := 66) rfl))) (ty := .float) (by decide)
  have K421 : Keep h0 h420 [p0, arr] := (Keep.refl h0 [p0, arr]).ext E420
  refine own_via (T420.setTop (mkF m 3 #[.val (.ref p0), .val (.ref p1), .unset, .unset, .unset, .unset, .unset] [(.ref b420)])) (fun t k => st420 t k) ?_
  refine own_via (T420.setTop (mkF m 4 #[.val (.ref p0), .val (.ref p1), .unset, .unset, .unset, .unset, .unset] [(.ref b420), (.ref b420)])) (fun t k => XS.dup X420.here hx rfl (hb hby d7_3) rfl rfl k) ?_
  obtain ⟨_, _, ⟨T422, L422, k422, n422⟩, -, X422, ⟨Lc422, hQ422, l422, y422, z422⟩, st422⟩ := X420.specialBack hx (y := (⟨"java/util/HashMap", "<init>", "()V"⟩ : MethodName)) rfl hown (mvT hZ (hw _ (List.mem_of_getElem? (i := 54) rfl))) (mvT hZ (hw _ (List.mem_of_getElem? (i := 55) rfl))) (mvT hZ (hw _ (List.mem_of_getElem? (i := 56) rfl))) (by decide) (backOf (W := 1) (rm8 l Z a0 hw [] b420 h420 n0 (Nat.le_trans Z0 K421.1) A420 F_loadFactor_b420 gg_b420) hZ (hw _ (List.mem_of_getElem? (i := 56) rfl)) (hw _ (List.mem_of_getElem? (i := 53) rfl)) (by decide) (by decide)) (g := (mkF m 4 #[.val (.ref p0), .val (.ref p1), .unset, .unset, .unset, .unset, .unset] [(.ref b420), (.ref b420)])) rfl (by rw [hml]; rfl) (Steps.refl _) (a := b420) (argsL := []) (rest := [(.ref b420)]) (lenOf pd_0 rfl) rfl (by show 2 * 0 + _ ≤ _; exact Nat.le_of_eq rfl) (hb hby d7_4) (fun _ _ => ⟨rfl, e420, (by decide : 1 + 0 ≤ _), (by decide : 8 + 0 ≤ _)⟩)
  dsimp only [Pt.U, Pt.locs, Pt.cells, Pt.slots] at X422 l422 y422 z422 st422 hQ422
  rw [y422, z422] at X422
  have X422 : Stand _ _ _ _ _ _ _ _ _ _ T422 L422 1 8 := X422
  obtain ⟨h422, e422⟩ : ∃ h, T422.heap = h := ⟨_, rfl⟩
  rw [e422] at hQ422
  obtain ⟨rfl, N422q, K422q, G422_0⟩ := hQ422
  have N422 : Fr n0 L422 := by rw [l422]; exact Fr.app N0 N422q
  have K423 : Keep h0 h422 [p0, arr] := K421.trans K422q (fun x hx => (List.mem_cons.mp hx).elim (fun e => e ▸ Or.inr sz_b420) (fun hx => nomatch hx))
  refine own_via (T422.setTop (mkF m 7 #[.val (.ref p0), .val (.ref p1), .unset, .unset, .unset, .unset, .unset] [(.ref b420)])) (fun t k => st422.trans k) ?_
  refine own_via (T422.setTop (mkF m 8 #[.val (.ref p0), .val (.ref p1), .val (.ref b420), .unset, .unset, .unset, .unset] [])) (fun t k => XS.astoreN X422.here hx rfl (hb hby d7_7) rfl rfl (l' := #[.val (.ref p0), .val (.ref p1), .val (.ref b420), .unset, .unset, .unset, .unset]) rfl k) ?_
  obtain ⟨T424, h424, X424, e424, E424, A424, D424, -, st424⟩ := newO X422 hx hZ hown (hw _ (List.mem_of_getElem? (i := 67) rfl)) (hw _ (List.mem_of_getElem? (i := 23) rfl)) (hw _ (List.mem_of_getElem? (i := 24) rfl)) e422 (g := (mkF m 8 #[.val (.ref p0), .val (.ref p1), .val (.ref b420), .unset, .unset, .unset, .unset] [])) rfl (hb hby d7_8) (by decide) (by decide)
  obtain ⟨b424, g424⟩ : ∃ z, z = h422.size := ⟨_, rfl⟩
  rw [← g424] at A424 D424 st424
  have gg_b424 : n0 ≤ b424 := Nat.le_trans (Nat.le_trans Z0 K423.1) (Nat.le_of_eq g424.symm)
  have sz_b424 : h0.size ≤ b424 := Nat.le_trans K423.1 (Nat.le_of_eq g424.symm)
  have ne_p0_b424 : p0 ≠ b424 := Nat.ne_of_lt (Nat.lt_of_lt_of_le ((P0.ext E420).keep K422q).lt (Nat.le_of_eq g424.symm))
  have ne_arr_b424 : arr ≠ b424 := Nat.ne_of_lt (Nat.lt_of_lt_of_le ((P3.ext E420).keep K422q (fun q => ne_arr_b420 (List.mem_singleton.mp q))).lt (Nat.le_of_eq g424.symm))
  have ne_p1_b424 : p1 ≠ b424 := Nat.ne_of_lt (Nat.lt_of_lt_of_le ((P4.ext E420).keep K422q).lt (Nat.le_of_eq g424.symm))
  have ne_el_b424 : el ≠ b424 := Nat.ne_of_lt (Nat.lt_of_lt_of_le ((P11.ext E420).keep K422q (fun q => ne_el_b420 (List.mem_singleton.mp q))).lt (Nat.le_of_eq g424.symm))
  have ne_o0_b424 : o0 ≠ b424 := Nat.ne_of_lt (Nat.lt_of_lt_of_le ((P12.ext E420).keep K422q).lt (Nat.le_of_eq g424.symm))
  have ne_kA_b424 : kA ≠ b424 := Nat.ne_of_lt (Nat.lt_of_lt_of_le ((P15.ext E420).keep K422q).lt (Nat.le_of_eq g424.symm))
  have ne_swA_b424 : swA ≠ b424 := Nat.ne_of_lt (Nat.lt_of_lt_of_le ((P18.ext E420).keep K422q (fun q => ne_swA_b420 (List.mem_singleton.mp q))).lt (Nat.le_of_eq g424.symm))
  have ne_b420_b424 : b420 ≠ b424 := Nat.ne_of_lt (Nat.lt_of_lt_of_le G422_0.lt (Nat.le_of_eq g424.symm))
  have F_modCount_b424 : Fld Z h424 b424 "java/util/AbstractList" "modCount" "I" (.int (0 : Int32)) := D424 (Or.inl (hw _ (List.mem_of_getElem? (i := 42) rfl))) (ty := .int) (by decide)
  have F_elementData_b424 : Fld Z h424 b424 "java/util/ArrayList" "elementData" "[Ljava/lang/Object;" .null := D424 (Or.inl (hw _ (List.mem_of_getElem? (i := 45) rfl))) (ty := (.array (.object "java/lang/Object"))) (by decide)
  have F_size_b424 : Fld Z h424 b424 "java/util/ArrayList" "size" "I" (.int (0 : Int32)) := D424 (Or.inl (hw _ (List.mem_of_getElem? (i := 106) rfl))) (ty := .int) (by decide)
  have K425 : Keep h0 h424 [p0, arr] := K423.ext E424
  refine own_via (T424.setTop (mkF m 11 #[.val (.ref p0), .val (.ref p1), .val (.ref b420), .unset, .unset, .unset, .unset] [(.ref b424)])) (fun t k => st424 t k) ?_
  refine own_via (T424.setTop (mkF m 12 #[.val (.ref p0), .val (.ref p1), .val (.ref b420), .unset, .unset, .unset, .unset] [(.ref b424), (.ref b424)])) (fun t k => XS.dup X424.here hx rfl (hb hby d7_11) rfl rfl k) ?_
  obtain ⟨_, _, ⟨T426, L426, k426, n426⟩, -, X426, ⟨Lc426, hQ426, l426, y426, z426⟩, st426⟩ := X424.specialBack hx (y := (⟨"java/util/ArrayList", "<init>", "()V"⟩ : MethodName)) rfl hown (mvT hZ (hw _ (List.mem_of_getElem? (i := 68) rfl))) (mvT hZ (hw _ (List.mem_of_getElem? (i := 26) rfl))) (mvT hZ (hw _ (List.mem_of_getElem? (i := 27) rfl))) (by decide) (backOf (W := 1) (rm4 l Z a0 hw [] b424 h424 n0 (Nat.le_trans Z0 K425.1) dA A424 F_modCount_b424 F_elementData_b424 F_size_b424 (own_stakeepW P10 hNS K425) gg_b424) hZ (hw _ (List.mem_of_getElem? (i := 27) rfl)) (hw _ (List.mem_of_getElem? (i := 24) rfl)) (by decide) (by decide)) (g := (mkF m 12 #[.val (.ref p0), .val (.ref p1), .val (.ref b420), .unset, .unset, .unset, .unset] [(.ref b424), (.ref b424)])) rfl (by rw [hml]; rfl) (Steps.refl _) (a := b424) (argsL := []) (rest := [(.ref b424)]) (lenOf pd_0 rfl) rfl (by show 2 * 0 + _ ≤ _; exact Nat.le_of_eq rfl) (hb hby d7_12) (fun _ _ => ⟨rfl, e424, (by decide : 2 + 0 ≤ _), (by decide : 11 + 0 ≤ _)⟩)
  dsimp only [Pt.U, Pt.locs, Pt.cells, Pt.slots] at X426 l426 y426 z426 st426 hQ426
  rw [y426, z426] at X426
  have X426 : Stand _ _ _ _ _ _ _ _ _ _ T426 L426 2 11 := X426
  obtain ⟨h426, e426⟩ : ∃ h, T426.heap = h := ⟨_, rfl⟩
  rw [e426] at hQ426
  obtain ⟨rfl, N426q, K426q, G426_0, G426_1, G426_2, G426_3⟩ := hQ426
  have N426 : Fr n0 L426 := by rw [l426]; exact Fr.app N422 N426q
  have K427 : Keep h0 h426 [p0, arr] := K425.trans K426q (fun x hx => (List.mem_cons.mp hx).elim (fun e => e ▸ Or.inr sz_b424) (fun hx => nomatch hx))
  refine own_via (T426.setTop (mkF m 15 #[.val (.ref p0), .val (.ref p1), .val (.ref b420), .unset, .unset, .unset, .unset] [(.ref b424)])) (fun t k => st426.trans k) ?_
  refine own_via (T426.setTop (mkF m 16 #[.val (.ref p0), .val (.ref p1), .val (.ref b420), .val (.ref b424), .unset, .unset, .unset] [])) (fun t k => XS.astoreN X426.here hx rfl (hb hby d7_15) rfl rfl (l' := #[.val (.ref p0), .val (.ref p1), .val (.ref b420), .val (.ref b424), .unset, .unset, .unset]) rfl k) ?_
  refine own_via (T426.setTop (mkF m 17 #[.val (.ref p0), .val (.ref p1), .val (.ref b420), .val (.ref b424), .unset, .unset, .unset] [(.ref p1)])) (fun t k => XS.aloadN X426.here hx rfl (hb hby d7_16) rfl rfl k) ?_
  have F429 := ((((P5.ext E420).keep K422q (fun q => ne_p1_b420 (List.mem_singleton.mp q))).ext E424).keep K426q (fun q => ne_p1_b424 (List.mem_singleton.mp q)))
  have F430 := ((((P4.ext E420).keep K422q).ext E424).keep K426q)
  obtain ⟨cq428, kq428, q428a, q428b, q428c⟩ := isOf hZ e426 F430
  obtain ⟨_, _, ⟨T428, L428, k428, n428⟩, -, X428, ⟨Lc428, hQ428, l428, y428, z428⟩, st428⟩ := X426.interfaceBack hx (xi := (⟨"java/util/List", "iterator", "()Ljava/util/Iterator;"⟩ : MethodName)) (y := (⟨"java/util/ArrayList", "iterator", "()Ljava/util/Iterator;"⟩ : MethodName)) hown (mvT hZ (hw _ (List.mem_of_getElem? (i := 69) rfl))) (mvT hZ (hw _ (List.mem_of_getElem? (i := 70) rfl))) (mvT hZ (hw _ (List.mem_of_getElem? (i := 71) rfl))) (mvT hZ (hw _ (List.mem_of_getElem? (i := 72) rfl))) (mvT hZ (hw _ (List.mem_of_getElem? (i := 73) rfl))) (mvT hZ (hw _ (List.mem_of_getElem? (i := 74) rfl))) (mvT hZ (hw _ (List.mem_of_getElem? (i := 75) rfl))) (mvT hZ (hw _ (List.mem_of_getElem? (i := 76) rfl))) (by decide) (backOf (W := 0) (rm10 l Z a0 hw [] p1 h426 n0 (Nat.le_trans Z0 K427.1) mc F429) hZ (hw _ (List.mem_of_getElem? (i := 77) rfl)) (hw _ (List.mem_of_getElem? (i := 24) rfl)) (by decide) (by decide)) q428a q428b q428c (g := (mkF m 17 #[.val (.ref p0), .val (.ref p1), .val (.ref b420), .val (.ref b424), .unset, .unset, .unset] [(.ref p1)])) rfl (by rw [hml]; rfl) (Steps.refl _) (argsL := []) (rest := []) (lenOf pd_12 rfl) rfl (by show 2 * 0 + _ ≤ _; exact Nat.le_of_eq rfl) (hb hby d7_17) (fun _ _ => ⟨rfl, e426, (by decide : 2 + 1 ≤ _), (by decide : 11 + 4 ≤ _)⟩)
  dsimp only [Pt.U, Pt.locs, Pt.cells, Pt.slots] at X428 l428 y428 z428 st428 hQ428
  rw [y428, z428] at X428
  have X428 : Stand _ _ _ _ _ _ _ _ _ _ T428 L428 3 15 := X428
  obtain ⟨h428, e428⟩ : ∃ h, T428.heap = h := ⟨_, rfl⟩
  rw [e428] at hQ428
  obtain ⟨r_428, rfl, N428q, K428q, gg_r_428, sq_r_428, G428_0, G428_1, G428_2, G428_3, G428_4⟩ := hQ428
  have N428 : Fr n0 L428 := by rw [l428]; exact Fr.app N426 N428q
  have sz_r_428 : h0.size ≤ r_428 := Nat.le_trans K427.1 sq_r_428
  have ne_p0_r_428 : p0 ≠ r_428 := Nat.ne_of_lt (Nat.lt_of_lt_of_le ((((P0.ext E420).keep K422q).ext E424).keep K426q).lt sq_r_428)
  have ne_arr_r_428 : arr ≠ r_428 := Nat.ne_of_lt (Nat.lt_of_lt_of_le ((((P3.ext E420).keep K422q (fun q => ne_arr_b420 (List.mem_singleton.mp q))).ext E424).keep K426q (fun q => ne_arr_b424 (List.mem_singleton.mp q))).lt sq_r_428)
  have ne_p1_r_428 : p1 ≠ r_428 := Nat.ne_of_lt (Nat.lt_of_lt_of_le F430.lt sq_r_428)
  have ne_el_r_428 : el ≠ r_428 := Nat.ne_of_lt (Nat.lt_of_lt_of_le ((((P11.ext E420).keep K422q (fun q => ne_el_b420 (List.mem_singleton.mp q))).ext E424).keep K426q (fun q => ne_el_b424 (List.mem_singleton.mp q))).lt sq_r_428)
  have ne_o0_r_428 : o0 ≠ r_428 := Nat.ne_of_lt (Nat.lt_of_lt_of_le ((((P12.ext E420).keep K422q).ext E424).keep K426q).lt sq_r_428)
  have ne_kA_r_428 : kA ≠ r_428 := Nat.ne_of_lt (Nat.lt_of_lt_of_le ((((P15.ext E420).keep K422q).ext E424).keep K426q).lt sq_r_428)
  have ne_swA_r_428 : swA ≠ r_428 := Nat.ne_of_lt (Nat.lt_of_lt_of_le ((((P18.ext E420).keep K422q (fun q => ne_swA_b420 (List.mem_singleton.mp q))).ext E424).keep K426q (fun q => ne_swA_b424 (List.mem_singleton.mp q))).lt sq_r_428)
  have ne_b420_r_428 : b420 ≠ r_428 := Nat.ne_of_lt (Nat.lt_of_lt_of_le ((G422_0.ext E424).keep K426q).lt sq_r_428)
  have ne_b424_r_428 : b424 ≠ r_428 := Nat.ne_of_lt (Nat.lt_of_lt_of_le G426_0.lt sq_r_428)
  have K431 : Keep h0 h428 [p0, arr] := K427.trans K428q (fun x hx => nomatch hx)
  refine own_via (T428.setTop (mkF m 22 #[.val (.ref p0), .val (.ref p1), .val (.ref b420), .val (.ref b424), .unset, .unset, .unset] [(.ref r_428)])) (fun t k => st428.trans k) ?_
  refine own_via (T428.setTop (mkF m 24 #[.val (.ref p0), .val (.ref p1), .val (.ref b420), .val (.ref b424), .val (.ref r_428), .unset, .unset] [])) (fun t k => XS.astore X428.here hx rfl (hb hby d7_22) rfl rfl (l' := #[.val (.ref p0), .val (.ref p1), .val (.ref b420), .val (.ref b424), .val (.ref r_428), .unset, .unset]) rfl k) ?_
  refine own_via (T428.setTop (mkF m 26 #[.val (.ref p0), .val (.ref p1), .val (.ref b420), .val (.ref b424), .val (.ref r_428), .unset, .unset] [(.ref r_428)])) (fun t k => XS.aload X428.here hx rfl (hb hby d7_24) rfl rfl k) ?_
  have F433 := (((((P7.ext E420).keep K422q (fun q => ne_p1_b420 (List.mem_singleton.mp q))).ext E424).keep K426q (fun q => ne_p1_b424 (List.mem_singleton.mp q))).keep K428q (by simp))
  obtain ⟨cq432, kq432, q432a, q432b, q432c⟩ := isOf hZ e428 G428_0
  obtain ⟨_, _, ⟨T432, L432, k432, n432⟩, -, X432, ⟨Lc432, hQ432, l432, y432, z432⟩, st432⟩ := X428.interfaceBack hx (xi := (⟨"java/util/Iterator", "hasNext", "()Z"⟩ : MethodName)) (y := (⟨"java/util/ArrayList$Itr", "hasNext", "()Z"⟩ : MethodName)) hown (mvT hZ (hw _ (List.mem_of_getElem? (i := 94) rfl))) (mvT hZ (hw _ (List.mem_of_getElem? (i := 95) rfl))) (mvT hZ (hw _ (List.mem_of_getElem? (i := 96) rfl))) (mvT hZ (hw _ (List.mem_of_getElem? (i := 97) rfl))) (mvT hZ (hw _ (List.mem_of_getElem? (i := 98) rfl))) (mvT hZ (hw _ (List.mem_of_getElem? (i := 99) rfl))) (mvT hZ (hw _ (List.mem_of_getElem? (i := 100) rfl))) (mvT hZ (hw _ (List.mem_of_getElem? (i := 101) rfl))) (by decide) (backOf (W := 0) (rm12c01 l Z a0 hw [] r_428 h428 n0 (Nat.le_trans Z0 K431.1) p1 G428_2 G428_1 F433) hZ (hw _ (List.mem_of_getElem? (i := 102) rfl)) (hw _ (List.mem_of_getElem? (i := 80) rfl)) (by decide) (by decide)) q432a q432b q432c (g := (mkF m 26 #[.val (.ref p0), .val (.ref p1), .val (.ref b420), .val (.ref b424), .val (.ref r_428), .unset, .unset] [(.ref r_428)])) rfl (by rw [hml]; rfl) (Steps.refl _) (argsL := []) (rest := []) (lenOf pd_11 rfl) rfl (by show 2 * 0 + _ ≤ _; exact Nat.le_of_eq rfl) (hb hby d7_26) (fun _ _ => ⟨rfl, e428, (by decide : 3 + 0 ≤ _), (by decide : 15 + 0 ≤ _)⟩)
  dsimp only [Pt.U, Pt.locs, Pt.cells, Pt.slots] at X432 l432 y432 z432 st432 hQ432
  rw [y432, z432] at X432
  have X432 : Stand _ _ _ _ _ _ _ _ _ _ T432 L432 3 15 := X432
  obtain ⟨rfl, N432q, e432⟩ := hQ432
  have N432 : Fr n0 L432 := by rw [l432]; exact Fr.app N428 N432q
  refine own_via (T432.setTop (mkF m 31 #[.val (.ref p0), .val (.ref p1), .val (.ref b420), .val (.ref b424), .val (.ref r_428), .unset, .unset] [(.int (1 : Int32))])) (fun t k => st432.trans k) ?_
  refine own_via (T432.setTop (mkF m 34 #[.val (.ref p0), .val (.ref p1), .val (.ref b420), .val (.ref b424), .val (.ref r_428), .unset, .unset] [])) (fun t k => XS.ifNo X432.here hx rfl (hb hby d7_31) rfl ((if0 _ _).trans (feq (by decide)).1) k) ?_
  refine own_via (T432.setTop (mkF m 36 #[.val (.ref p0), .val (.ref p1), .val (.ref b420), .val (.ref b424), .val (.ref r_428), .unset, .unset] [(.ref r_428)])) (fun t k => XS.aload X432.here hx rfl (hb hby d7_34) rfl rfl k) ?_
  have F435 := (F429.keep K428q (by simp))
  have F436 := (((((P6.ext E420).keep K422q (fun q => ne_p1_b420 (List.mem_singleton.mp q))).ext E424).keep K426q (fun q => ne_p1_b424 (List.mem_singleton.mp q))).keep K428q (by simp))
  have F437 := (((((P11.ext E420).keep K422q (fun q => ne_el_b420 (List.mem_singleton.mp q))).ext E424).keep K426q (fun q => ne_el_b424 (List.mem_singleton.mp q))).keep K428q (by simp))
  obtain ⟨cq434, kq434, q434a, q434b, q434c⟩ := isOf hZ e432 G428_0
  obtain ⟨_, _, ⟨T434, L434, k434, n434⟩, -, X434, ⟨Lc434, hQ434, l434, y434, z434⟩, st434⟩ := X432.interfaceBack hx (xi := (⟨"java/util/Iterator", "next", "()Ljava/lang/Object;"⟩ : MethodName)) (y := (⟨"java/util/ArrayList$Itr", "next", "()Ljava/lang/Object;"⟩ : MethodName)) hown (mvT hZ (hw _ (List.mem_of_getElem? (i := 242) rfl))) (mvT hZ (hw _ (List.mem_of_getElem? (i := 243) rfl))) (mvT hZ (hw _ (List.mem_of_getElem? (i := 244) rfl))) (mvT hZ (hw _ (List.mem_of_getElem? (i := 245) rfl))) (mvT hZ (hw _ (List.mem_of_getElem? (i := 246) rfl))) (mvT hZ (hw _ (List.mem_of_getElem? (i := 247) rfl))) (mvT hZ (hw _ (List.mem_of_getElem? (i := 248) rfl))) (mvT hZ (hw _ (List.mem_of_getElem? (i := 101) rfl))) (by decide) (backOf (W := 0) (rm32c01 l Z a0 hw [] r_428 h428 n0 (Nat.le_trans Z0 K431.1) p1 (-1 : Int32) mc el o0 G428_0 G428_1 G428_2 G428_3 G428_4 F435 F436 F433 F437 gg_r_428 ne_p1_r_428 ne_el_r_428) hZ (hw _ (List.mem_of_getElem? (i := 249) rfl)) (hw _ (List.mem_of_getElem? (i := 80) rfl)) (by decide) (by decide)) q434a q434b q434c (g := (mkF m 36 #[.val (.ref p0), .val (.ref p1), .val (.ref b420), .val (.ref b424), .val (.ref r_428), .unset, .unset] [(.ref r_428)])) rfl (by rw [hml]; rfl) (Steps.refl _) (argsL := []) (rest := []) (lenOf pd_15 rfl) rfl (by show 2 * 0 + _ ≤ _; exact Nat.le_of_eq rfl) (hb hby d7_36) (fun _ _ => ⟨rfl, e432, (by decide : 3 + 0 ≤ _), (by decide : 15 + 0 ≤ _)⟩)
  dsimp only [Pt.U, Pt.locs, Pt.cells, Pt.slots] at X434 l434 y434 z434 st434 hQ434
  rw [y434, z434] at X434
  have X434 : Stand _ _ _ _ _ _ _ _ _ _ T434 L434 3 15 := X434
  obtain ⟨h434, e434⟩ : ∃ h, T434.heap = h := ⟨_, rfl⟩
  rw [e434] at hQ434
  obtain ⟨rfl, N434q, K434q, G434_0, G434_1, G434_2, G434_3, G434_4⟩ := hQ434
  have N434 : Fr n0 L434 := by rw [l434]; exact Fr.app N432 N434q
  have K438 : Keep h0 h434 [p0, arr] := K431.trans K434q (fun x hx => (List.mem_cons.mp hx).elim (fun e => e ▸ Or.inr sz_r_428) (fun hx => nomatch hx))
  refine own_via (T434.setTop (mkF m 41 #[.val (.ref p0), .val (.ref p1), .val (.ref b420), .val (.ref b424), .val (.ref r_428), .unset, .unset] [(.ref o0)])) (fun t k => st434.trans k) ?_
  have F440 := ((((((P12.ext E420).keep K422q).ext E424).keep K426q).keep K428q).keep K434q)
  obtain ⟨T439, X439, e439, st439⟩ := castY X434 hx hZ hown (hw _ (List.mem_of_getElem? (i := 256) rfl)) e434 (Ins.self F440) (g := (mkF m 41 #[.val (.ref p0), .val (.ref p1), .val (.ref b420), .val (.ref b424), .val (.ref r_428), .unset, .unset] [(.ref o0)])) rfl rfl (hb hby d7_41)
  refine own_via (T439.setTop (mkF m 44 #[.val (.ref p0), .val (.ref p1), .val (.ref b420), .val (.ref b424), .val (.ref r_428), .unset, .unset] [(.ref o0)])) (fun t k => st439 t k) ?_
  refine own_via (T439.setTop (mkF m 46 #[.val (.ref p0), .val (.ref p1), .val (.ref b420), .val (.ref b424), .val (.ref r_428), .val (.ref o0), .unset] [])) (fun t k => XS.astore X439.here hx rfl (hb hby d7_44) rfl rfl (l' := #[.val (.ref p0), .val (.ref p1), .val (.ref b420), .val (.ref b424), .val (.ref r_428), .val (.ref o0), .unset]) rfl k) ?_
  obtain ⟨T441, X441, e441, st441⟩ := getS2 X439 hx hZ hown (host := "") (Or.inl (hw _ (List.mem_of_getElem? (i := 258) rfl))) Via.refl e439 (own_stakeepW P17 hNS K438) (g := (mkF m 46 #[.val (.ref p0), .val (.ref p1), .val (.ref b420), .val (.ref b424), .val (.ref r_428), .val (.ref o0), .unset] [])) rfl (hb hby d7_46)
  refine own_via (T441.setTop (mkF m 49 #[.val (.ref p0), .val (.ref p1), .val (.ref b420), .val (.ref b424), .val (.ref r_428), .val (.ref o0), .unset] [(.ref swA)])) (fun t k => st441 t k) ?_
  refine own_via (T441.setTop (mkF m 51 #[.val (.ref p0), .val (.ref p1), .val (.ref b420), .val (.ref b424), .val (.ref r_428), .val (.ref o0), .unset] [(.ref o0), (.ref swA)])) (fun t k => XS.aload X441.here hx rfl (hb hby d7_49) rfl rfl k) ?_
  have F443 := ((((((P13.ext E420).keep K422q (fun q => ne_o0_b420 (List.mem_singleton.mp q))).ext E424).keep K426q (fun q => ne_o0_b424 (List.mem_singleton.mp q))).keep K428q (by simp)).keep K434q (fun q => ne_o0_r_428 (List.mem_singleton.mp q)))
  obtain ⟨cq442, kq442, q442a, q442b, q442c⟩ := isOf hZ e441 F440
  obtain ⟨_, _, ⟨T442, L442, k442, n442⟩, -, X442, ⟨Lc442, hQ442, l442, y442, z442⟩, st442⟩ := X441.virtualBack hx (y := (⟨"com/example/unweave/unweave/abstraction/Operation", "getKind", "()Lcom/example/unweave/unweave/abstraction/Operation$EKind;"⟩ : MethodName)) (z := (⟨"com/example/unweave/unweave/abstraction/Operation", "getKind", "()Lcom/example/unweave/unweave/abstraction/Operation$EKind;"⟩ : MethodName)) hown (mvT hZ (hw _ (List.mem_of_getElem? (i := 261) rfl))) (mvT hZ (hw _ (List.mem_of_getElem? (i := 262) rfl))) (notFace_of_selects (args := #[]) (mvT hZ (hw _ (List.mem_of_getElem? (i := 264) rfl)))) (mvT hZ (hw _ (List.mem_of_getElem? (i := 264) rfl))) (mvT hZ (hw _ (List.mem_of_getElem? (i := 263) rfl))) (by decide) (backOf (W := 1) (rm34 l Z a0 hw [] o0 h434 n0 (Nat.le_trans Z0 K438.1) kA F443) hZ (hw _ (List.mem_of_getElem? (i := 265) rfl)) (hw _ (List.mem_of_getElem? (i := 194) rfl)) (by decide) (by decide)) q442a q442c (g := (mkF m 51 #[.val (.ref p0), .val (.ref p1), .val (.ref b420), .val (.ref b424), .val (.ref r_428), .val (.ref o0), .unset] [(.ref o0), (.ref swA)])) rfl (by rw [hml]; rfl) (Steps.refl _) (argsL := []) (rest := [(.ref swA)]) (lenOf pd_16 rfl) rfl (by show 2 * 0 + _ ≤ _; exact Nat.le_of_eq rfl) (hb hby d7_51) (fun _ _ => ⟨rfl, e441, (by decide : 3 + 0 ≤ _), (by decide : 15 + 0 ≤ _)⟩)
  dsimp only [Pt.U, Pt.locs, Pt.cells, Pt.slots] at X442 l442 y442 z442 st442 hQ442
  rw [y442, z442] at X442
  have X442 : Stand _ _ _ _ _ _ _ _ _ _ T442 L442 3 15 := X442
  obtain ⟨rfl, N442q, e442⟩ := hQ442
  have N442 : Fr n0 L442 := by rw [l442]; exact Fr.app N434 N442q
  refine own_via (T442.setTop (mkF m 54 #[.val (.ref p0), .val (.ref p1), .val (.ref b420), .val (.ref b424), .val (.ref r_428), .val (.ref o0), .unset] [(.ref kA), (.ref swA)])) (fun t k => st442.trans k) ?_
  have F445 := ((((((P16.ext E420).keep K422q (fun q => ne_kA_b420 (List.mem_singleton.mp q))).ext E424).keep K426q (fun q => ne_kA_b424 (List.mem_singleton.mp q))).keep K428q (by simp)).keep K434q (fun q => ne_kA_r_428 (List.mem_singleton.mp q)))
  have F446 := ((((((P15.ext E420).keep K422q).ext E424).keep K426q).keep K428q).keep K434q)
  obtain ⟨cq444, kq444, q444a, q444b, q444c⟩ := isOf hZ e442 F446
  obtain ⟨_, _, ⟨T444, L444, k444, n444⟩, -, X444, ⟨Lc444, hQ444, l444, y444, z444⟩, st444⟩ := X442.virtualBackUp hx (x := (⟨"com/example/unweave/unweave/abstraction/Operation$EKind", "ordinal", "()I"⟩ : MethodName)) (y := (⟨"java/lang/Enum", "ordinal", "()I"⟩ : MethodName)) hown (mvT hZ (hw _ (List.mem_of_getElem? (i := 266) rfl))) (mvT hZ (hw _ (List.mem_of_getElem? (i := 267) rfl))) (mvT hZ (hw _ (List.mem_of_getElem? (i := 268) rfl))) (by decide) (mvT hZ (hw _ (List.mem_of_getElem? (i := 270) rfl))) (mvT hZ (hw _ (List.mem_of_getElem? (i := 269) rfl))) (backOf (W := 1) (rm35 l Z a0 hw [] kA h434 n0 (Nat.le_trans Z0 K438.1) F445) hZ (hw _ (List.mem_of_getElem? (i := 272) rfl)) (hw _ (List.mem_of_getElem? (i := 271) rfl)) (by decide) (by decide)) q444a q444c (g := (mkF m 54 #[.val (.ref p0), .val (.ref p1), .val (.ref b420), .val (.ref b424), .val (.ref r_428), .val (.ref o0), .unset] [(.ref kA), (.ref swA)])) rfl (by rw [hml]; rfl) (Steps.refl _) (argsL := []) (rest := [(.ref swA)]) (lenOf pd_17 rfl) rfl (by show 2 * 0 + _ ≤ _; exact Nat.le_of_eq rfl) (hb hby d7_54) (fun _ _ => ⟨rfl, e442, (by decide : 3 + 0 ≤ _), (by decide : 15 + 0 ≤ _)⟩)
  dsimp only [Pt.U, Pt.locs, Pt.cells, Pt.slots] at X444 l444 y444 z444 st444 hQ444
  rw [y444, z444] at X444
  have X444 : Stand _ _ _ _ _ _ _ _ _ _ T444 L444 3 15 := X444
  obtain ⟨rfl, N444q, e444⟩ := hQ444
  have N444 : Fr n0 L444 := by rw [l444]; exact Fr.app N442 N444q
  refine own_via (T444.setTop (mkF m 57 #[.val (.ref p0), .val (.ref p1), .val (.ref b420), .val (.ref b424), .val (.ref r_428), .val (.ref o0), .unset] [(.int (2 : Int32)), (.ref swA)])) (fun t k => st444.trans k) ?_
  have F448 := ((((((P18.ext E420).keep K422q (fun q => ne_swA_b420 (List.mem_singleton.mp q))).ext E424).keep K426q (fun q => ne_swA_b424 (List.mem_singleton.mp q))).keep K428q (by simp)).keep K434q (fun q => ne_swA_r_428 (List.mem_singleton.mp q)))
  obtain ⟨cl449, Ar449, S449, H449⟩ := id F448
  refine own_via (T444.setTop (mkF m 58 #[.val (.ref p0), .val (.ref p1), .val (.ref b420), .val (.ref b424), .val (.ref r_428), .val (.ref o0), .unset] [(.int (sw 2))])) (fun t k => X444.iaload hx (j := (2 : Int32)) (v := (.int (sw 2))) (by rw [e444]; exact Ar449.1) (State.isArrayOf_alike hZ.alike Ar449.2.1) Ar449.2.2 (own_in S449 (by decide)) (own_at H449 (by decide)) (g := (mkF m 57 #[.val (.ref p0), .val (.ref p1), .val (.ref b420), .val (.ref b424), .val (.ref r_428), .val (.ref o0), .unset] [(.int (2 : Int32)), (.ref swA)])) rfl rfl (hb hby d7_57) _ k) ?_
  refine own_via (T444.setTop (mkF m 167 #[.val (.ref p0), .val (.ref p1), .val (.ref b420), .val (.ref b424), .val (.ref r_428), .val (.ref o0), .unset] [])) (fun t k => XS.tswIn X444.here hx rfl (pc0 := 58) (pc' := 167) rfl (hb hby d7_58) rfl (by rw [hsw]; decide) (by rw [hsw]; rfl) (by decide) (by decide) k) ?_
  refine own_via (T444.setTop (mkF m 168 #[.val (.ref p0), .val (.ref p1), .val (.ref b420), .val (.ref b424), .val (.ref r_428), .val (.ref o0), .unset] [(.ref p0)])) (fun t k => XS.aloadN X444.here hx rfl (hb hby d7_167) rfl rfl k) ?_
  have F451 := ((((((P1.ext E420).keep K422q (fun q => ne_p0_b420 (List.mem_singleton.mp q))).ext E424).keep K426q (fun q => ne_p0_b424 (List.mem_singleton.mp q))).keep K428q (by simp)).keep K434q (fun q => ne_p0_r_428 (List.mem_singleton.mp q)))
  obtain ⟨T450, X450, e450, st450⟩ := getF X444 hx hZ hown (host := "") (Or.inl (hw _ (List.mem_of_getElem? (i := 13) rfl))) Via.refl e444 F451 (g := (mkF m 168 #[.val (.ref p0), .val (.ref p1), .val (.ref b420), .val (.ref b424), .val (.ref r_428), .val (.ref o0), .unset] [(.ref p0)])) rfl rfl (hb hby d7_168)
  refine own_via (T450.setTop (mkF m 171 #[.val (.ref p0), .val (.ref p1), .val (.ref b420), .val (.ref b424), .val (.ref r_428), .val (.ref o0), .unset] [(.ref arr)])) (fun t k => st450 t k) ?_
  refine own_via (T450.setTop (mkF m 173 #[.val (.ref p0), .val (.ref p1), .val (.ref b420), .val (.ref b424), .val (.ref r_428), .val (.ref o0), .unset] [(.ref o0), (.ref arr)])) (fun t k => XS.aload X450.here hx rfl (hb hby d7_171) rfl rfl k) ?_
  have F453 := ((((((P14.ext E420).keep K422q (fun q => ne_o0_b420 (List.mem_singleton.mp q))).ext E424).keep K426q (fun q => ne_o0_b424 (List.mem_singleton.mp q))).keep K428q (by simp)).keep K434q (fun q => ne_o0_r_428 (List.mem_singleton.mp q)))
  obtain ⟨cq452, kq452, q452a, q452b, q452c⟩ := isOf hZ e450 F440
  obtain ⟨_, _, ⟨T452, L452, k452, n452⟩, -, X452, ⟨Lc452, hQ452, l452, y452, z452⟩, st452⟩ := X450.virtualBack hx (y := (⟨"com/example/unweave/unweave/abstraction/Operation", "getVariable", "()I"⟩ : MethodName)) (z := (⟨"com/example/unweave/unweave/abstraction/Operation", "getVariable", "()I"⟩ : MethodName)) hown (mvT hZ (hw _ (List.mem_of_getElem? (i := 275) rfl))) (mvT hZ (hw _ (List.mem_of_getElem? (i := 276) rfl))) (notFace_of_selects (args := #[]) (mvT hZ (hw _ (List.mem_of_getElem? (i := 278) rfl)))) (mvT hZ (hw _ (List.mem_of_getElem? (i := 278) rfl))) (mvT hZ (hw _ (List.mem_of_getElem? (i := 277) rfl))) (by decide) (backOf (W := 1) (rm36 l Z a0 hw [] o0 h434 n0 (Nat.le_trans Z0 K438.1) x0 F453) hZ (hw _ (List.mem_of_getElem? (i := 279) rfl)) (hw _ (List.mem_of_getElem? (i := 194) rfl)) (by decide) (by decide)) q452a q452c (g := (mkF m 173 #[.val (.ref p0), .val (.ref p1), .val (.ref b420), .val (.ref b424), .val (.ref r_428), .val (.ref o0), .unset] [(.ref o0), (.ref arr)])) rfl (by rw [hml]; rfl) (Steps.refl _) (argsL := []) (rest := [(.ref arr)]) (lenOf pd_17 rfl) rfl (by show 2 * 0 + _ ≤ _; exact Nat.le_of_eq rfl) (hb hby d7_173) (fun _ _ => ⟨rfl, e450, (by decide : 3 + 0 ≤ _), (by decide : 15 + 0 ≤ _)⟩)
  dsimp only [Pt.U, Pt.locs, Pt.cells, Pt.slots] at X452 l452 y452 z452 st452 hQ452
  rw [y452, z452] at X452
  have X452 : Stand _ _ _ _ _ _ _ _ _ _ T452 L452 3 15 := X452
  obtain ⟨rfl, N452q, e452⟩ := hQ452
  have N452 : Fr n0 L452 := by rw [l452]; exact Fr.app N444 N452q
  refine own_via (T452.setTop (mkF m 176 #[.val (.ref p0), .val (.ref p1), .val (.ref b420), .val (.ref b424), .val (.ref r_428), .val (.ref o0), .unset] [(.int x0), (.ref arr)])) (fun t k => st452.trans k) ?_
  refine own_via (T452.setTop (mkF m 177 #[.val (.ref p0), .val (.ref p1), .val (.ref b420), .val (.ref b424), .val (.ref r_428), .val (.ref o0), .unset] [(.ref p0), (.int x0), (.ref arr)])) (fun t k => XS.aloadN X452.here hx rfl (hb hby d7_176) rfl rfl k) ?_
  refine own_via (T452.setTop (mkF m 178 #[.val (.ref p0), .val (.ref p1), .val (.ref b420), .val (.ref b424), .val (.ref r_428), .val (.ref o0), .unset] [(.ref p0), (.ref p0), (.int x0), (.ref arr)])) (fun t k => XS.dup X452.here hx rfl (hb hby d7_177) rfl rfl k) ?_
  have F455 := ((((((P2.ext E420).keep K422q (fun q => ne_p0_b420 (List.mem_singleton.mp q))).ext E424).keep K426q (fun q => ne_p0_b424 (List.mem_singleton.mp q))).keep K428q (by simp)).keep K434q (fun q => ne_p0_r_428 (List.mem_singleton.mp q)))
  obtain ⟨T454, X454, e454, st454⟩ := getF X452 hx hZ hown (host := "") (Or.inl (hw _ (List.mem_of_getElem? (i := 15) rfl))) Via.refl e452 F455 (g := (mkF m 178 #[.val (.ref p0), .val (.ref p1), .val (.ref b420), .val (.ref b424), .val (.ref r_428), .val (.ref o0), .unset] [(.ref p0), (.ref p0), (.int x0), (.ref arr)])) rfl rfl (hb hby d7_178)
  refine own_via (T454.setTop (mkF m 181 #[.val (.ref p0), .val (.ref p1), .val (.ref b420), .val (.ref b424), .val (.ref r_428), .val (.ref o0), .unset] [(.int nx), (.ref p0), (.int x0), (.ref arr)])) (fun t k => st454 t k) ?_
  refine own_via (T454.setTop (mkF m 182 #[.val (.ref p0), .val (.ref p1), .val (.ref b420), .val (.ref b424), .val (.ref r_428), .val (.ref o0), .unset] [(.int nx), (.ref p0), (.int nx), (.int x0), (.ref arr)])) (fun t k => XS.dupX1 X454.here hx rfl (hb hby d7_181) rfl rfl rfl k) ?_
  refine own_via (T454.setTop (mkF m 183 #[.val (.ref p0), .val (.ref p1), .val (.ref b420), .val (.ref b424), .val (.ref r_428), .val (.ref o0), .unset] [(.int (1 : Int32)), (.int nx), (.ref p0), (.int nx), (.int x0), (.ref arr)])) (fun t k => XS.iconst X454.here hx rfl (hb hby d7_182) k) ?_
  refine own_via (T454.setTop (mkF m 184 #[.val (.ref p0), .val (.ref p1), .val (.ref b420), .val (.ref b424), .val (.ref r_428), .val (.ref o0), .unset] [(.int (nx + (1 : Int32))), (.ref p0), (.int nx), (.int x0), (.ref arr)])) (fun t k => XS.iadd X454.here hx rfl (hb hby d7_183) rfl k) ?_
  have F457 := ((((((P0.ext E420).keep K422q).ext E424).keep K426q).keep K428q).keep K434q)
  obtain ⟨T456, h456, X456, e456, W456, st456⟩ := putF X454 hx hZ hown (host := "") (Or.inl (hw _ (List.mem_of_getElem? (i := 15) rfl))) Via.refl e454 F455 F457 (Or.inl (hw _ (List.mem_of_getElem? (i := 16) rfl))) (hw _ (List.mem_of_getElem? (i := 2) rfl)) (ty := .int) (by decide) rfl rfl (g := (mkF m 184 #[.val (.ref p0), .val (.ref p1), .val (.ref b420), .val (.ref b424), .val (.ref r_428), .val (.ref o0), .unset] [(.int (nx + (1 : Int32))), (.ref p0), (.int nx), (.int x0), (.ref arr)])) rfl rfl (hb hby d7_184)
  have Fw456 := F455.same W456
  have N456 := Fr.snoc X456 N452 gg_p0
  have K458 : Keep h0 h456 [p0, arr] := K438.wr W456 (Or.inl (List.mem_of_getElem? (i := 0) rfl))
  refine own_via (T456.setTop (mkF m 187 #[.val (.ref p0), .val (.ref p1), .val (.ref b420), .val (.ref b424), .val (.ref r_428), .val (.ref o0), .unset] [(.int nx), (.int x0), (.ref arr)])) (fun t k => st456 t k) ?_
  have F460 := (((((((P3.ext E420).keep K422q (fun q => ne_arr_b420 (List.mem_singleton.mp q))).ext E424).keep K426q (fun q => ne_arr_b424 (List.mem_singleton.mp q))).keep K428q (by simp)).keep K434q (fun q => ne_arr_r_428 (List.mem_singleton.mp q))).other W456 n0_arr)
  obtain ⟨cl461, Ar461, S461, H461⟩ := id F460
  obtain ⟨T459, h459, X459, e459, W459, st459⟩ := stI X456 hx hZ e456 Ar461 (j := x0) (own_in S461 hx0) (g := (mkF m 187 #[.val (.ref p0), .val (.ref p1), .val (.ref b420), .val (.ref b424), .val (.ref r_428), .val (.ref o0), .unset] [(.int nx), (.int x0), (.ref arr)])) rfl rfl (hb hby d7_187)
  have V459 : own_A Z h459 arr .int N (own_up f x0.toInt.toNat nx) := own_A.set F460 W459
  have N459 := Fr.snoc X459 N456 gg_arr
  have K462 : Keep h0 h459 [p0, arr] := K458.wr W459 (Or.inl (List.mem_of_getElem? (i := 1) rfl))
  refine own_via (T459.setTop (mkF m 188 #[.val (.ref p0), .val (.ref p1), .val (.ref b420), .val (.ref b424), .val (.ref r_428), .val (.ref o0), .unset] [])) (fun t k => st459 t k) ?_
  refine own_via (T459.setTop (mkF m 207 #[.val (.ref p0), .val (.ref p1), .val (.ref b420), .val (.ref b424), .val (.ref r_428), .val (.ref o0), .unset] [])) (fun t k => XS.goto X459.here hx rfl (pc0 := 188) (pc' := 207) rfl (hb hby d7_188) (by decide) (by decide) k) ?_
  refine own_via (T459.setTop (mkF m 24 #[.val (.ref p0), .val (.ref p1), .val (.ref b420), .val (.ref b424), .val (.ref r_428), .val (.ref o0), .unset] [])) (fun t k => XS.goto X459.here hx rfl (pc0 := 207) (pc' := 24) rfl (hb hby d7_207) (by decide) (by decide) k) ?_
  refine own_via (T459.setTop (mkF m 26 #[.val (.ref p0), .val (.ref p1), .val (.ref b420), .val (.ref b424), .val (.ref r_428), .val (.ref o0), .unset] [(.ref r_428)])) (fun t k => XS.aload X459.here hx rfl (hb hby d7_24) rfl rfl k) ?_
  have F464 := ((G434_2.other W456 (Or.inl (Ne.symm ne_p0_r_428))).other W459 (Or.inl (Ne.symm ne_arr_r_428)))
  have F465 := ((G434_1.other W456 (Or.inl (Ne.symm ne_p0_r_428))).other W459 (Or.inl (Ne.symm ne_arr_r_428)))
  have F466 := (((F433.keep K434q (fun q => ne_p1_r_428 (List.mem_singleton.mp q))).other W456 (Or.inl n0_p1)).other W459 (Or.inl n1_p1))
  have F467 := ((G434_0.wr W456).wr W459)
  obtain ⟨cq463, kq463, q463a, q463b, q463c⟩ := isOf hZ e459 F467
  obtain ⟨_, _, ⟨T463, L463, k463, n463⟩, -, X463, ⟨Lc463, hQ463, l463, y463, z463⟩, st463⟩ := X459.interfaceBack hx (xi := (⟨"java/util/Iterator", "hasNext", "()Z"⟩ : MethodName)) (y := (⟨"java/util/ArrayList$Itr", "hasNext", "()Z"⟩ : MethodName)) hown (mvT hZ (hw _ (List.mem_of_getElem? (i := 94) rfl))) (mvT hZ (hw _ (List.mem_of_getElem? (i := 95) rfl))) (mvT hZ (hw _ (List.mem_of_getElem? (i := 96) rfl))) (mvT hZ (hw _ (List.mem_of_getElem? (i := 97) rfl))) (mvT hZ (hw _ (List.mem_of_getElem? (i := 98) rfl))) (mvT hZ (hw _ (List.mem_of_getElem? (i := 99) rfl))) (mvT hZ (hw _ (List.mem_of_getElem? (i := 100) rfl))) (mvT hZ (hw _ (List.mem_of_getElem? (i := 101) rfl))) (by decide) (backOf (W := 0) (rm12c11 l Z a0 hw [] r_428 h459 n0 (Nat.le_trans Z0 K462.1) p1 F464 F465 F466) hZ (hw _ (List.mem_of_getElem? (i := 102) rfl)) (hw _ (List.mem_of_getElem? (i := 80) rfl)) (by decide) (by decide)) q463a q463b q463c (g := (mkF m 26 #[.val (.ref p0), .val (.ref p1), .val (.ref b420), .val (.ref b424), .val (.ref r_428), .val (.ref o0), .unset] [(.ref r_428)])) rfl (by rw [hml]; rfl) (Steps.refl _) (argsL := []) (rest := []) (lenOf pd_11 rfl) rfl (by show 2 * 0 + _ ≤ _; exact Nat.le_of_eq rfl) (hb hby d7_26) (fun _ _ => ⟨rfl, e459, (by decide : 3 + 0 ≤ _), (by decide : 15 + 0 ≤ _)⟩)
  dsimp only [Pt.U, Pt.locs, Pt.cells, Pt.slots] at X463 l463 y463 z463 st463 hQ463
  rw [y463, z463] at X463
  have X463 : Stand _ _ _ _ _ _ _ _ _ _ T463 L463 3 15 := X463
  obtain ⟨rfl, N463q, e463⟩ := hQ463
  have N463 : Fr n0 L463 := by rw [l463]; exact Fr.app N459 N463q
  refine own_via (T463.setTop (mkF m 31 #[.val (.ref p0), .val (.ref p1), .val (.ref b420), .val (.ref b424), .val (.ref r_428), .val (.ref o0), .unset] [(.int (0 : Int32))])) (fun t k => st463.trans k) ?_
  refine own_via (T463.setTop (mkF m 210 #[.val (.ref p0), .val (.ref p1), .val (.ref b420), .val (.ref b424), .val (.ref r_428), .val (.ref o0), .unset] [])) (fun t k => XS.ifYes X463.here hx rfl (pc0 := 31) (pc' := 210) rfl (hb hby d7_31) rfl ((if0 _ _).trans (teq (by decide)).1) (by decide) (by decide) k) ?_
  refine own_via (T463.setTop (mkF m 211 #[.val (.ref p0), .val (.ref p1), .val (.ref b420), .val (.ref b424), .val (.ref r_428), .val (.ref o0), .unset] [(.ref b424)])) (fun t k => XS.aloadN X463.here hx rfl (hb hby d7_210) rfl rfl k) ?_
  have F469 := ((((G426_0.keep K428q).keep K434q).wr W456).wr W459)
  have F470 := ((((G426_1.keep K428q (by simp)).keep K434q (fun q => ne_b424_r_428 (List.mem_singleton.mp q))).other W456 (Or.inl (Ne.symm ne_p0_b424))).other W459 (Or.inl (Ne.symm ne_arr_b424)))
  have F471 := ((((G426_2.keep K428q (by simp)).keep K434q (fun q => ne_b424_r_428 (List.mem_singleton.mp q))).other W456 (Or.inl (Ne.symm ne_p0_b424))).other W459 (Or.inl (Ne.symm ne_arr_b424)))
  have F472 := ((((G426_3.keep K428q (by simp)).keep K434q (fun q => ne_b424_r_428 (List.mem_singleton.mp q))).other W456 (Or.inl (Ne.symm ne_p0_b424))).other W459 (Or.inl (Ne.symm ne_arr_b424)))
  obtain ⟨_, _, ⟨T468, L468, k468, n468⟩, -, X468, ⟨Lc468, hQ468, l468, y468, z468⟩, st468⟩ := Jvm.LawKit.callS X463 hx (y := (⟨"com/example/unweave/unweave/arith/Formula", "and", "(Ljava/util/List;)Lcom/example/unweave/unweave/arith/Formula;"⟩ : MethodName)) hown (mvT hZ (hw _ (List.mem_of_getElem? (i := 107) rfl))) (mvT hZ (hw _ (List.mem_of_getElem? (i := 108) rfl))) (mvT hZ (hw _ (List.mem_of_getElem? (i := 109) rfl))) (mvT hZ (hw _ (List.mem_of_getElem? (i := 110) rfl))) (by decide) (backOf (W := 0) (rm13 l Z a0 hw [] b424 h459 n0 (Nat.le_trans Z0 K462.1) (0 : Int32) dA tA fA F469 F470 F471 F472 (own_stakeepW P8 hNS K462) (own_stakeepW P9 hNS K462)) hZ (hw _ (List.mem_of_getElem? (i := 110) rfl)) (hw _ (List.mem_of_getElem? (i := 109) rfl)) (by decide) (by decide)) (g := (mkF m 211 #[.val (.ref p0), .val (.ref p1), .val (.ref b420), .val (.ref b424), .val (.ref r_428), .val (.ref o0), .unset] [(.ref b424)])) rfl (by rw [hml]; rfl) (argsL := [(.ref b424)]) (rest := []) (lenOf pd_14 rfl) rfl (by show 2 * 0 + _ ≤ _; exact Nat.le_of_eq rfl) (hb hby d7_211) (fun _ _ => ⟨rfl, e463, (by decide : 3 + 3 ≤ _), (by decide : 15 + 17 ≤ _)⟩)
  dsimp only [Pt.U, Pt.locs, Pt.cells, Pt.slots] at X468 l468 y468 z468 st468 hQ468
  rw [y468, z468] at X468
  have X468 : Stand _ _ _ _ _ _ _ _ _ _ T468 L468 6 32 := X468
  obtain ⟨h468, e468⟩ : ∃ h, T468.heap = h := ⟨_, rfl⟩
  rw [e468] at hQ468
  obtain ⟨rfl, N468q, K468q, G468_0⟩ := hQ468
  have N468 : Fr n0 L468 := by rw [l468]; exact Fr.app N463 N468q
  have K473 : Keep h0 h468 [p0, arr] := K462.trans K468q (fun x hx => nomatch hx)
  refine own_via (T468.setTop (mkF m 214 #[.val (.ref p0), .val (.ref p1), .val (.ref b420), .val (.ref b424), .val (.ref r_428), .val (.ref o0), .unset] [(.ref tA)])) (fun t k => st468 t k) ?_
  refine own_leave X468 Bd.notSynchronized (v := some (.ref tA)) (fun h => by rw [Bd.returns] at h; cases h) (fun fs hr => retOut X468 hx Bd.returns rfl (Or.inr (Or.inr (Or.inr (Or.inr ⟨rfl, rfl, rfl⟩)))) (hb hby d7_214) hr) ?_ (by decide) (by decide)
  have F474 := (((F457.wr W456).wr W459).keep K468q)
  have F475 := (((F451.other W456 (Or.inr (slot_ne (Or.inr (hw _ (List.mem_of_getElem? (i := 14) rfl))) (Or.inl (hw _ (List.mem_of_getElem? (i := 16) rfl))) (by decide) (t := (.array .int)) (t' := .int) (by decide) (by decide)))).other W459 (Or.inl (Ne.symm n0_arr))).keep K468q (by simp))
  have F476 := ((Fw456.other W459 (Or.inl (Ne.symm n0_arr))).keep K468q (by simp))
  have F477 := (V459.keep K468q (by simp))
  show (own_Q7e1 Z p0 p1 arr nx N f mc el tA fA dA o0 kA swA sw x0 h0 n0) _ T468.heap _
  rw [e468]
  exact ⟨rfl, N468, K473, F474, F475, F476, F477⟩
def own_Q7e2 (Z : State) (p0 : Addr) (p1 : Addr) (arr : Addr) (nx : Int32) (N : Nat) (f : Nat → Int32) (mc : Int32) (el : Addr) (tA : Addr) (fA : Addr) (dA : Addr) (o0 : Addr) (o1 : Addr) (kA : Addr) (swA : Addr) (sw : Nat → Int32) (x0 : Int32) (x1 : Int32) (h0 : Heap) (n0 : Nat) (v : Option Value) (h : Heap) (L : List Loc) : Prop := v = some (.ref tA) ∧ Fr n0 L ∧ Keep h0 h [p0, arr] ∧ Exa Z h p0 "com/example/unweave/unweave/abstraction/PathEncoding" ∧ Fld Z h p0 "com/example/unweave/unweave/abstraction/PathEncoding" "m_aCurrent" "[I" (.ref arr) ∧ Fld Z h p0 "com/example/unweave/unweave/abstraction/PathEncoding" "m_nNext" "I" (.int ((nx + (1 : Int32)) + (1 : Int32))) ∧ own_A Z h arr .int N (own_up (own_up f x0.toInt.toNat nx) x1.toInt.toNat (nx + (1 : Int32)))
theorem ef_7e2 (m : MethodId) (p0 : Addr) (p1 : Addr) : entryFrame m #[(.ref p0), (.ref p1)] 7 = mkF m 0 #[.val (.ref p0), .val (.ref p1), .unset, .unset, .unset, .unset, .unset] [] := by first | (simp [entryFrame, mkF, argsToLocals, Value.category]; done) | rfl
set_option maxRecDepth 65536 in
set_option maxHeartbeats 40000000 in
theorem rm7e2 (l : Launch) (Z : State) (a0 : Array Value) (hw : ∀ d ∈ tables_1, d.before a0 Z = true) (ws : List Jvm.Cond) (p0 : Addr) (p1 : Addr) (h0 : Heap) (n0 : Nat) (Z0 : n0 ≤ h0.size) (arr : Addr) (nx : Int32) (N : Nat) (f : Nat → Int32) (mc : Int32) (el : Addr) (tA : Addr) (fA : Addr) (dA : Addr) (o0 : Addr) (o1 : Addr) (kA : Addr) (swA : Addr) (sw : Nat → Int32) (x0 : Int32) (x1 : Int32) (P0 : Exa Z h0 p0 "com/example/unweave/unweave/abstraction/PathEncoding") (P1 : Fld Z h0 p0 "com/example/unweave/unweave/abstraction/PathEncoding" "m_aCurrent" "[I" (.ref arr)) (P2 : Fld Z h0 p0 "com/example/unweave/unweave/abstraction/PathEncoding" "m_nNext" "I" (.int nx)) (P3 : own_A Z h0 arr .int N f) (P4 : Exa Z h0 p1 "java/util/ArrayList") (P5 : Fld Z h0 p1 "java/util/AbstractList" "modCount" "I" (.int mc)) (P6 : Fld Z h0 p1 "java/util/ArrayList" "elementData" "[Ljava/lang/Object;" (.ref el)) (P7 : Fld Z h0 p1 "java/util/ArrayList" "size" "I" (.int (2 : Int32))) (P8 : Sta Z h0 "com/example/unweave/unweave/arith/Formula" "TRUE" "Lcom/example/unweave/unweave/arith/Formula;" (.ref tA)) (P9 : Sta Z h0 "com/example/unweave/unweave/arith/Formula" "FALSE" "Lcom/example/unweave/unweave/arith/Formula;" (.ref fA)) (P10 : Sta Z h0 "java/util/ArrayList" "DEFAULTCAPACITY_EMPTY_ELEMENTDATA" "[Ljava/lang/Object;" (.ref dA)) (P11 : own_Ob Z h0 el 10 [.ref o0, .ref o1]) (P12 : Exa Z h0 o0 "com/example/unweave/unweave/abstraction/Operation") (P13 : Fld Z h0 o0 "com/example/unweave/unweave/abstraction/Operation" "m_eKind" "Lcom/example/unweave/unweave/abstraction/Operation$EKind;" (.ref kA)) (P14 : Fld Z h0 o0 "com/example/unweave/unweave/abstraction/Operation" "m_nVariable" "I" (.int x0)) (P15 : Exa Z h0 o1 "com/example/unweave/unweave/abstraction/Operation") (P16 : Fld Z h0 o1 "com/example/unweave/unweave/abstraction/Operation" "m_eKind" "Lcom/example/unweave/unweave/abstraction/Operation$EKind;" (.ref kA)) (P17 : Fld Z h0 o1 "com/example/unweave/unweave/abstraction/Operation" "m_nVariable" "I" (.int x1)) (P18 : Exa Z h0 kA "com/example/unweave/unweave/abstraction/Operation$EKind") (P19 : Fld Z h0 kA "java/lang/Enum" "ordinal" "I" (.int (2 : Int32))) (P20 : Sta Z h0 "com/example/unweave/unweave/abstraction/PathEncoding$1" "$SwitchMap$com$example$unweave$unweave$abstraction$Operation$EKind" "[I" (.ref swA)) (P21 : own_A Z h0 swA .int 3 sw) (gg_p0 : n0 ≤ p0) (gg_arr : n0 ≤ arr) (hx0 : 0 ≤ x0.toInt ∧ x0.toInt < (N : Int)) (hx1 : 0 ≤ x1.toInt ∧ x1.toInt < (N : Int)) (hsw : sw 2 = 3) (n0_p1 : p1 ≠ p0) (n1_p1 : p1 ≠ arr) (n0_el : el ≠ p0) (n1_el : el ≠ arr) (n0_kA : kA ≠ p0) (n1_kA : kA ≠ arr) (n0_swA : swA ≠ p0) (n1_swA : swA ≠ arr) (n0_o0 : o0 ≠ p0) (n1_o0 : o0 ≠ arr) (n0_o1 : o1 ≠ p0) (n1_o1 : o1 ≠ arr) (n0_arr : arr ≠ p0) :
    MetFree l (⟨"com/example/unweave/unweave/abstraction/PathEncoding", "encode", "(Ljava/util/List;)Lcom/example/unweave/unweave/arith/Formula;"⟩ : MethodName) (head1 (Jvm.Cond.code (⟨"com/example/unweave/unweave/abstraction/PathEncoding", "encode", "(Ljava/util/List;)Lcom/example/unweave/unweave/arith/Formula;"⟩ : MethodName) prog_17_method_2_code 7 (some (.object "com/example/unweave/unweave/arith/Formula")) :: ws) ({ frames := 8, cells := 6, slots := 32, locals := 117 } : Room)) (fun a U => a = #[(.ref p0), (.ref p1)] ∧ Z.Warmed39 U.vm ∧ U.heap = h0) (fun _ _ _ _ _ => True) (fun _ U o U' => ∃ v L, o = .returned v ∧ (own_Q7e2 Z p0 p1 arr nx N f mc el tA fA dA o0 o1 kA swA sw x0 x1 h0 n0) v U'.heap L ∧ FrameEnd U o U' L ({ frames := 8, cells := 6, slots := 32, locals := 117 } : Room).cells ({ frames := 8, cells := 6, slots := 32, locals := 117 } : Room).slots) := by
  refine MetFree.of_bodySF (plainFor_of_name pn_com_example_unweave_unweave_abstraction_PathEncoding) hisR ?_
  intro p e s m args below meth c s₁ Bd hml0 hP hK
  obtain ⟨rfl, hZ, hh⟩ := hP
  have hx := Bd.exec
  have hby := Bd.bytes
  have hml : c.maxLocals = 7 := hml0
  have hown : s.vm.findClass "com/example/unweave/unweave/abstraction/PathEncoding" = some m.cls := findClass_of_methodNamed Bd.named
  have hnm := (name_of_methodNamed Bd.named Bd.method).1
  have X0 : Stand p l e ({ frames := 8, cells := 6, slots := 32, locals := 117 } : Room) s m #[(.ref p0), (.ref p1)] below meth c s₁ [] 0 0 := Stand.of_body Bd
  have e0 : s₁.heap = h0 := by rw [← hh, Bd.state]; rfl
  have N0 := Fr.nil n0
  refine own_body (QQ := (own_Q7e2 Z p0 p1 arr nx N f mc el tA fA dA o0 o1 kA swA sw x0 x1 h0 n0)) (ef_7e2 m p0 p1) ?_
  have hNS : ∀ x ∈ [p0, arr], ∃ c : Cell, h0[x]? = some c ∧ c.vm.isStatics = false := by
    intro x hx
    rcases List.mem_cons.mp hx with e | hx
    · rw [e]; exact own_nsE P0
    rcases List.mem_cons.mp hx with e | hx
    · rw [e]; exact own_nsA P3
    exact nomatch hx
  obtain ⟨T478, h478, X478, e478, E478, A478, D478, -, st478⟩ := newO X0 hx hZ hown (hw _ (List.mem_of_getElem? (i := 51) rfl)) (hw _ (List.mem_of_getElem? (i := 52) rfl)) (hw _ (List.mem_of_getElem? (i := 53) rfl)) e0 (g := (mkF m 0 #[.val (.ref p0), .val (.ref p1), .unset, .unset, .unset, .unset, .unset] [])) rfl (hb hby d7_0) (by decide) (by decide)
  obtain ⟨b478, g478⟩ : ∃ z, z = h0.size := ⟨_, rfl⟩
  rw [← g478] at A478 D478 st478
  have gg_b478 : n0 ≤ b478 := Nat.le_trans (Nat.le_trans Z0 (Keep.refl h0 [p0, arr]).1) (Nat.le_of_eq g478.symm)
  have sz_b478 : h0.size ≤ b478 := Nat.le_trans (Keep.refl h0 [p0, arr]).1 (Nat.le_of_eq g478.symm)
  have ne_p0_b478 : p0 ≠ b478 := Nat.ne_of_lt (Nat.lt_of_lt_of_le P0.lt (Nat.le_of_eq g478.symm))
  have ne_arr_b478 : arr ≠ b478 := Nat.ne_of_lt (Nat.lt_of_lt_of_le P3.lt (Nat.le_of_eq g478.symm))
  have ne_p1_b478 : p1 ≠ b478 := Nat.ne_of_lt (Nat.lt_of_lt_of_le P4.lt (Nat.le_of_eq g478.symm))
  have ne_el_b478 : el ≠ b478 := Nat.ne_of_lt (Nat.lt_of_lt_of_le P11.lt (Nat.le_of_eq g478.symm))
  have ne_o0_b478 : o0 ≠ b478 := Nat.ne_of_lt (Nat.lt_of_lt_of_le P12.lt (Nat.le_of_eq g478.symm))
  have ne_o1_b478 : o1 ≠ b478 := Nat.ne_of_lt (Nat.lt_of_lt_of_le P15.lt (Nat.le_of_eq g478.symm))
  have ne_kA_b478 : kA ≠ b478 := Nat.ne_of_lt (Nat.lt_of_lt_of_le P18.lt (Nat.le_of_eq g478.symm))
  have ne_swA_b478 : swA ≠ b478 := Nat.ne_of_lt (Nat.lt_of_lt_of_le P21.lt (Nat.le_of_eq g478.symm))
  have F_loadFactor_b478 : Fld Z h478 b478 "java/util/HashMap" "loadFactor" "F" (.float (0 : UInt32)) := D478 (Or.inr (hw _ (List.mem_of_getElem? (i := 66) rfl))) (ty := .float) (by decide)
  have K479 : Keep h0 h478 [p0, arr] := (Keep.refl h0 [p0, arr]).ext E478
  refine own_via (T478.setTop (mkF m 3 #[.val (.ref p0), .val (.ref p1), .unset, .unset, .unset, .unset, .unset] [(.ref b478)])) (fun t k => st478 t k) ?_
  refine own_via (T478.setTop (mkF m 4 #[.val (.ref p0), .val (.ref p1), .unset, .unset, .unset, .unset, .unset] [(.ref b478), (.ref b478)])) (fun t k => XS.dup X478.here hx rfl (hb hby d7_3) rfl rfl k) ?_
  obtain ⟨_, _, ⟨T480, L480, k480, n480⟩, -, X480, ⟨Lc480, hQ480, l480, y480, z480⟩, st480⟩ := X478.specialBack hx (y := (⟨"java/util/HashMap", "<init>", "()V"⟩ : MethodName)) rfl hown (mvT hZ (hw _ (List.mem_of_getElem? (i := 54) rfl))) (mvT hZ (hw _ (List.mem_of_getElem? (i := 55) rfl))) (mvT hZ (hw _ (List.mem_of_getElem? (i := 56) rfl))) (by decide) (backOf (W := 1) (rm8 l Z a0 hw [] b478 h478 n0 (Nat.le_trans Z0 K479.1) A478 F_loadFactor_b478 gg_b478) hZ (hw _ (List.mem_of_getElem? (i := 56) rfl)) (hw _ (List.mem_of_getElem? (i := 53) rfl)) (by decide) (by decide)) (g := (mkF m 4 #[.val (.ref p0), .val (.ref p1), .unset, .unset, .unset, .unset, .unset] [(.ref b478), (.ref b478)])) rfl (by rw [hml]; rfl) (Steps.refl _) (a := b478) (argsL := []) (rest := [(.ref b478)]) (lenOf pd_0 rfl) rfl (by show 2 * 0 + _ ≤ _; exact Nat.le_of_eq rfl) (hb hby d7_4) (fun _ _ => ⟨rfl, e478, (by decide : 1 + 0 ≤ _), (by decide : 8 + 0 ≤ _)⟩)
  dsimp only [Pt.U, Pt.locs, Pt.cells, Pt.slots] at X480 l480 y480 z480 st480 hQ480
  rw [y480, z480] at X480
  have X480 : Stand _ _ _ _ _ _ _ _ _ _ T480 L480 1 8 := X480
  obtain ⟨h480, e480⟩ : ∃ h, T480.heap = h := ⟨_, rfl⟩
  rw [e480] at hQ480
  obtain ⟨rfl, N480q, K480q, G480_0⟩ := hQ480
  have N480 : Fr n0 L480 := by rw [l480]; exact Fr.app N0 N480q
  have K481 : Keep h0 h480 [p0, arr] := K479.trans K480q (fun x hx => (List.mem_cons.mp hx).elim (fun e => e ▸ Or.inr sz_b478) (fun hx => nomatch hx))
  refine own_via (T480.setTop (mkF m 7 #[.val (.ref p0), .val (.ref p1), .unset, .unset, .unset, .unset, .unset] [(.ref b478)])) (fun t k => st480.trans k) ?_
  refine own_via (T480.setTop (mkF m 8 #[.val (.ref p0), .val (.ref p1), .val (.ref b478), .unset, .unset, .unset, .unset] [])) (fun t k => XS.astoreN X480.here hx rfl (hb hby d7_7) rfl rfl (l' := #[.val (.ref p0), .val (.ref p1), .val (.ref b478), .unset, .unset, .unset, .unset]) rfl k) ?_
  obtain ⟨T482, h482, X482, e482, E482, A482, D482, -, st482⟩ := newO X480 hx hZ hown (hw _ (List.mem_of_getElem? (i := 67) rfl)) (hw _ (List.mem_of_getElem? (i := 23) rfl)) (hw _ (List.mem_of_getElem? (i := 24) rfl)) e480 (g := (mkF m 8 #[.val (.ref p0), .val (.ref p1), .val (.ref b478), .unset, .unset, .unset, .unset] [])) rfl (hb hby d7_8) (by decide) (by decide)
  obtain ⟨b482, g482⟩ : ∃ z, z = h480.size := ⟨_, rfl⟩
  rw [← g482] at A482 D482 st482
  have gg_b482 : n0 ≤ b482 := Nat.le_trans (Nat.le_trans Z0 K481.1) (Nat.le_of_eq g482.symm)
  have sz_b482 : h0.size ≤ b482 := Nat.le_trans K481.1 (Nat.le_of_eq g482.symm)
  have ne_p0_b482 : p0 ≠ b482 := Nat.ne_of_lt (Nat.lt_of_lt_of_le ((P0.ext E478).keep K480q).lt (Nat.le_of_eq g482.symm))
  have ne_arr_b482 : arr ≠ b482 := Nat.ne_of_lt (Nat.lt_of_lt_of_le ((P3.ext E478).keep K480q (fun q => ne_arr_b478 (List.mem_singleton.mp q))).lt (Nat.le_of_eq g482.symm))
  have ne_p1_b482 : p1 ≠ b482 := Nat.ne_of_lt (Nat.lt_of_lt_of_le ((P4.ext E478).keep K480q).lt (Nat.le_of_eq g482.symm))
  have ne_el_b482 : el ≠ b482 := Nat.ne_of_lt (Nat.lt_of_lt_of_le ((P11.ext E478).keep K480q (fun q => ne_el_b478 (List.mem_singleton.mp q))).lt (Nat.le_of_eq g482.symm))
  have ne_o0_b482 : o0 ≠ b482 := Nat.ne_of_lt (Nat.lt_of_lt_of_le ((P12.ext E478).keep K480q).lt (Nat.le_of_eq g482.symm))
  have ne_o1_b482 : o1 ≠ b482 := Nat.ne_of_lt (Nat.lt_of_lt_of_le ((P15.ext E478).keep K480q).lt (Nat.le_of_eq g482.symm))
  have ne_kA_b482 : kA ≠ b482 := Nat.ne_of_lt (Nat.lt_of_lt_of_le ((P18.ext E478).keep K480q).lt (Nat.le_of_eq g482.symm))
  have ne_swA_b482 : swA ≠ b482 := Nat.ne_of_lt (Nat.lt_of_lt_of_le ((P21.ext E478).keep K480q (fun q => ne_swA_b478 (List.mem_singleton.mp q))).lt (Nat.le_of_eq g482.symm))
  have ne_b478_b482 : b478 ≠ b482 := Nat.ne_of_lt (Nat.lt_of_lt_of_le G480_0.lt (Nat.le_of_eq g482.symm))
  have F_modCount_b482 : Fld Z h482 b482 "java/util/AbstractList" "modCount" "I" (.int (0 : Int32)) := D482 (Or.inl (hw _ (List.mem_of_getElem? (i := 42) rfl))) (ty := .int) (by decide)
  have F_elementData_b482 : Fld Z h482 b482 "java/util/ArrayList" "elementData" "[Ljava/lang/Object;" .null := D482 (Or.inl (hw _ (List.mem_of_getElem? (i := 45) rfl))) (ty := (.array (.object "java/lang/Object"))) (by decide)
  have F_size_b482 : Fld Z h482 b482 "java/util/ArrayList" "size" "I" (.int (0 : Int32)) := D482 (Or.inl (hw _ (List.mem_of_getElem? (i := 106) rfl))) (ty := .int) (by decide)
  have K483 : Keep h0 h482 [p0, arr] := K481.ext E482
  refine own_via (T482.setTop (mkF m 11 #[.val (.ref p0), .val (.ref p1), .val (.ref b478), .unset, .unset, .unset, .unset] [(.ref b482)])) (fun t k => st482 t k) ?_
  refine own_via (T482.setTop (mkF m 12 #[.val (.ref p0), .val (.ref p1), .val (.ref b478), .unset, .unset, .unset, .unset] [(.ref b482), (.ref b482)])) (fun t k => XS.dup X482.here hx rfl (hb hby d7_11) rfl rfl k) ?_
  obtain ⟨_, _, ⟨T484, L484, k484, n484⟩, -, X484, ⟨Lc484, hQ484, l484, y484, z484⟩, st484⟩ := X482.specialBack hx (y := (⟨"java/util/ArrayList", "<init>", "()V"⟩ : MethodName)) rfl hown (mvT hZ (hw _ (List.mem_of_getElem? (i := 68) rfl))) (mvT hZ (hw _ (List.mem_of_getElem? (i := 26) rfl))) (mvT hZ (hw _ (List.mem_of_getElem? (i := 27) rfl))) (by decide) (backOf (W := 1) (rm4 l Z a0 hw [] b482 h482 n0 (Nat.le_trans Z0 K483.1) dA A482 F_modCount_b482 F_elementData_b482 F_size_b482 (own_stakeepW P10 hNS K483) gg_b482) hZ (hw _ (List.mem_of_getElem? (i := 27) rfl)) (hw _ (List.mem_of_getElem? (i := 24) rfl)) (by decide) (by decide)) (g := (mkF m 12 #[.val (.ref p0), .val (.ref p1), .val (.ref b478), .unset, .unset, .unset, .unset] [(.ref b482), (.ref b482)])) rfl (by rw [hml]; rfl) (Steps.refl _) (a := b482) (argsL := []) (rest := [(.ref b482)]) (lenOf pd_0 rfl) rfl (by show 2 * 0 + _ ≤ _; exact Nat.le_of_eq rfl) (hb hby d7_12) (fun _ _ => ⟨rfl, e482, (by decide : 2 + 0 ≤ _), (by decide : 11 + 0 ≤ _)⟩)
  dsimp only [Pt.U, Pt.locs, Pt.cells, Pt.slots] at X484 l484 y484 z484 st484 hQ484
  rw [y484, z484] at X484
  have X484 : Stand _ _ _ _ _ _ _ _ _ _ T484 L484 2 11 := X484
  obtain ⟨h484, e484⟩ : ∃ h, T484.heap = h := ⟨_, rfl⟩
  rw [e484] at hQ484
  obtain ⟨rfl, N484q, K484q, G484_0, G484_1, G484_2, G484_3⟩ := hQ484
  have N484 : Fr n0 L484 := by rw [l484]; exact Fr.app N480 N484q
  have K485 : Keep h0 h484 [p0, arr] := K483.trans K484q (fun x hx => (List.mem_cons.mp hx).elim (fun e => e ▸ Or.inr sz_b482) (fun hx => nomatch hx))
  refine own_via (T484.setTop (mkF m 15 #[.val (.ref p0), .val (.ref p1), .val (.ref b478), .unset, .unset, .unset, .unset] [(.ref b482)])) (fun t k => st484.trans k) ?_
  refine own_via (T484.setTop (mkF m 16 #[.val (.ref p0), .val (.ref p1), .val (.ref b478), .val (.ref b482), .unset, .unset, .unset] [])) (fun t k => XS.astoreN X484.here hx rfl (hb hby d7_15) rfl rfl (l' := #[.val (.ref p0), .val (.ref p1), .val (.ref b478), .val (.ref b482), .unset, .unset, .unset]) rfl k) ?_
  refine own_via (T484.setTop (mkF m 17 #[.val (.ref p0), .val (.ref p1), .val (.ref b478), .val (.ref b482), .unset, .unset, .unset] [(.ref p1)])) (fun t k => XS.aloadN X484.here hx rfl (hb hby d7_16) rfl rfl k) ?_
  have F487 := ((((P5.ext E478).keep K480q (fun q => ne_p1_b478 (List.mem_singleton.mp q))).ext E482).keep K484q (fun q => ne_p1_b482 (List.mem_singleton.mp q)))
  have F488 := ((((P4.ext E478).keep K480q).ext E482).keep K484q)
  obtain ⟨cq486, kq486, q486a, q486b, q486c⟩ := isOf hZ e484 F488
  obtain ⟨_, _, ⟨T486, L486, k486, n486⟩, -, X486, ⟨Lc486, hQ486, l486, y486, z486⟩, st486⟩ := X484.interfaceBack hx (xi := (⟨"java/util/List", "iterator", "()Ljava/util/Iterator;"⟩ : MethodName)) (y := (⟨"java/util/ArrayList", "iterator", "()Ljava/util/Iterator;"⟩ : MethodName)) hown (mvT hZ (hw _ (List.mem_of_getElem? (i := 69) rfl))) (mvT hZ (hw _ (List.mem_of_getElem? (i := 70) rfl))) (mvT hZ (hw _ (List.mem_of_getElem? (i := 71) rfl))) (mvT hZ (hw _ (List.mem_of_getElem? (i := 72) rfl))) (mvT hZ (hw _ (List.mem_of_getElem? (i := 73) rfl))) (mvT hZ (hw _ (List.mem_of_getElem? (i := 74) rfl))) (mvT hZ (hw _ (List.mem_of_getElem? (i := 75) rfl))) (mvT hZ (hw _ (List.mem_of_getElem? (i := 76) rfl))) (by decide) (backOf (W := 0) (rm10 l Z a0 hw [] p1 h484 n0 (Nat.le_trans Z0 K485.1) mc F487) hZ (hw _ (List.mem_of_getElem? (i := 77) rfl)) (hw _ (List.mem_of_getElem? (i := 24) rfl)) (by decide) (by decide)) q486a q486b q486c (g := (mkF m 17 #[.val (.ref p0), .val (.ref p1), .val (.ref b478), .val (.ref b482), .unset, .unset, .unset] [(.ref p1)])) rfl (by rw [hml]; rfl) (Steps.refl _) (argsL := []) (rest := []) (lenOf pd_12 rfl) rfl (by show 2 * 0 + _ ≤ _; exact Nat.le_of_eq rfl) (hb hby d7_17) (fun _ _ => ⟨rfl, e484, (by decide : 2 + 1 ≤ _), (by decide : 11 + 4 ≤ _)⟩)
  dsimp only [Pt.U, Pt.locs, Pt.cells, Pt.slots] at X486 l486 y486 z486 st486 hQ486
  rw [y486, z486] at X486
  have X486 : Stand _ _ _ _ _ _ _ _ _ _ T486 L486 3 15 := X486
  obtain ⟨h486, e486⟩ : ∃ h, T486.heap = h := ⟨_, rfl⟩
  rw [e486] at hQ486
  obtain ⟨r_486, rfl, N486q, K486q, gg_r_486, sq_r_486, G486_0, G486_1, G486_2, G486_3, G486_4⟩ := hQ486
  have N486 : Fr n0 L486 := by rw [l486]; exact Fr.app N484 N486q
  have sz_r_486 : h0.size ≤ r_486 := Nat.le_trans K485.1 sq_r_486
  have ne_p0_r_486 : p0 ≠ r_486 := Nat.ne_of_lt (Nat.lt_of_lt_of_le ((((P0.ext E478).keep K480q).ext E482).keep K484q).lt sq_r_486)
  have ne_arr_r_486 : arr ≠ r_486 := Nat.ne_of_lt (Nat.lt_of_lt_of_le ((((P3.ext E478).keep K480q (fun q => ne_arr_b478 (List.mem_singleton.mp q))).ext E482).keep K484q (fun q => ne_arr_b482 (List.mem_singleton.mp q))).lt sq_r_486)
  have ne_p1_r_486 : p1 ≠ r_486 := Nat.ne_of_lt (Nat.lt_of_lt_of_le F488.lt sq_r_486)
  have ne_el_r_486 : el ≠ r_486 := Nat.ne_of_lt (Nat.lt_of_lt_of_le ((((P11.ext E478).keep K480q (fun q => ne_el_b478 (List.mem_singleton.mp q))).ext E482).keep K484q (fun q => ne_el_b482 (List.mem_singleton.mp q))).lt sq_r_486)
  have ne_o0_r_486 : o0 ≠ r_486 := Nat.ne_of_lt (Nat.lt_of_lt_of_le ((((P12.ext E478).keep K480q).ext E482).keep K484q).lt sq_r_486)
  have ne_o1_r_486 : o1 ≠ r_486 := Nat.ne_of_lt (Nat.lt_of_lt_of_le ((((P15.ext E478).keep K480q).ext E482).keep K484q).lt sq_r_486)
  have ne_kA_r_486 : kA ≠ r_486 := Nat.ne_of_lt (Nat.lt_of_lt_of_le ((((P18.ext E478).keep K480q).ext E482).keep K484q).lt sq_r_486)
  have ne_swA_r_486 : swA ≠ r_486 := Nat.ne_of_lt (Nat.lt_of_lt_of_le ((((P21.ext E478).keep K480q (fun q => ne_swA_b478 (List.mem_singleton.mp q))).ext E482).keep K484q (fun q => ne_swA_b482 (List.mem_singleton.mp q))).lt sq_r_486)
  have ne_b478_r_486 : b478 ≠ r_486 := Nat.ne_of_lt (Nat.lt_of_lt_of_le ((G480_0.ext E482).keep K484q).lt sq_r_486)
  have ne_b482_r_486 : b482 ≠ r_486 := Nat.ne_of_lt (Nat.lt_of_lt_of_le G484_0.lt sq_r_486)
  have K489 : Keep h0 h486 [p0, arr] := K485.trans K486q (fun x hx => nomatch hx)
  refine own_via (T486.setTop (mkF m 22 #[.val (.ref p0), .val (.ref p1), .val (.ref b478), .val (.ref b482), .unset, .unset, .unset] [(.ref r_486)])) (fun t k => st486.trans k) ?_
  refine own_via (T486.setTop (mkF m 24 #[.val (.ref p0), .val (.ref p1), .val (.ref b478), .val (.ref b482), .val (.ref r_486), .unset, .unset] [])) (fun t k => XS.astore X486.here hx rfl (hb hby d7_22) rfl rfl (l' := #[.val (.ref p0), .val (.ref p1), .val (.ref b478), .val (.ref b482), .val (.ref r_486), .unset, .unset]) rfl k) ?_
  refine own_via (T486.setTop (mkF m 26 #[.val (.ref p0), .val (.ref p1), .val (.ref b478), .val (.ref b482), .val (.ref r_486), .unset, .unset] [(.ref r_486)])) (fun t k => XS.aload X486.here hx rfl (hb hby d7_24) rfl rfl k) ?_
  have F491 := (((((P7.ext E478).keep K480q (fun q => ne_p1_b478 (List.mem_singleton.mp q))).ext E482).keep K484q (fun q => ne_p1_b482 (List.mem_singleton.mp q))).keep K486q (by simp))
  obtain ⟨cq490, kq490, q490a, q490b, q490c⟩ := isOf hZ e486 G486_0
  obtain ⟨_, _, ⟨T490, L490, k490, n490⟩, -, X490, ⟨Lc490, hQ490, l490, y490, z490⟩, st490⟩ := X486.interfaceBack hx (xi := (⟨"java/util/Iterator", "hasNext", "()Z"⟩ : MethodName)) (y := (⟨"java/util/ArrayList$Itr", "hasNext", "()Z"⟩ : MethodName)) hown (mvT hZ (hw _ (List.mem_of_getElem? (i := 94) rfl))) (mvT hZ (hw _ (List.mem_of_getElem? (i := 95) rfl))) (mvT hZ (hw _ (List.mem_of_getElem? (i := 96) rfl))) (mvT hZ (hw _ (List.mem_of_getElem? (i := 97) rfl))) (mvT hZ (hw _ (List.mem_of_getElem? (i := 98) rfl))) (mvT hZ (hw _ (List.mem_of_getElem? (i := 99) rfl))) (mvT hZ (hw _ (List.mem_of_getElem? (i := 100) rfl))) (mvT hZ (hw _ (List.mem_of_getElem? (i := 101) rfl))) (by decide) (backOf (W := 0) (rm12c02 l Z a0 hw [] r_486 h486 n0 (Nat.le_trans Z0 K489.1) p1 G486_2 G486_1 F491) hZ (hw _ (List.mem_of_getElem? (i := 102) rfl)) (hw _ (List.mem_of_getElem? (i := 80) rfl)) (by decide) (by decide)) q490a q490b q490c (g := (mkF m 26 #[.val (.ref p0), .val (.ref p1), .val (.ref b478), .val (.ref b482), .val (.ref r_486), .unset, .unset] [(.ref r_486)])) rfl (by rw [hml]; rfl) (Steps.refl _) (argsL := []) (rest := []) (lenOf pd_11 rfl) rfl (by show 2 * 0 + _ ≤ _; exact Nat.le_of_eq rfl) (hb hby d7_26) (fun _ _ => ⟨rfl, e486, (by decide : 3 + 0 ≤ _), (by decide : 15 + 0 ≤ _)⟩)
  dsimp only [Pt.U, Pt.locs, Pt.cells, Pt.slots] at X490 l490 y490 z490 st490 hQ490
  rw [y490, z490] at X490
  have X490 : Stand _ _ _ _ _ _ _ _ _ _ T490 L490 3 15 := X490
  obtain ⟨rfl, N490q, e490⟩ := hQ490
  have N490 : Fr n0 L490 := by rw [l490]; exact Fr.app N486 N490q
  refine own_via (T490.setTop (mkF m 31 #[.val (.ref p0), .val (.ref p1), .val (.ref b478), .val (.ref b482), .val (.ref r_486), .unset, .unset] [(.int (1 : Int32))])) (fun t k => st490.trans k) ?_
  refine own_via (T490.setTop (mkF m 34 #[.val (.ref p0), .val (.ref p1), .val (.ref b478), .val (.ref b482), .val (.ref r_486), .unset, .unset] [])) (fun t k => XS.ifNo X490.here hx rfl (hb hby d7_31) rfl ((if0 _ _).trans (feq (by decide)).1) k) ?_
  refine own_via (T490.setTop (mkF m 36 #[.val (.ref p0), .val (.ref p1), .val (.ref b478), .val (.ref b482), .val (.ref r_486), .unset, .unset] [(.ref r_486)])) (fun t k => XS.aload X490.here hx rfl (hb hby d7_34) rfl rfl k) ?_
  have F493 := (F487.keep K486q (by simp))
  have F494 := (((((P6.ext E478).keep K480q (fun q => ne_p1_b478 (List.mem_singleton.mp q))).ext E482).keep K484q (fun q => ne_p1_b482 (List.mem_singleton.mp q))).keep K486q (by simp))
  have F495 := (((((P11.ext E478).keep K480q (fun q => ne_el_b478 (List.mem_singleton.mp q))).ext E482).keep K484q (fun q => ne_el_b482 (List.mem_singleton.mp q))).keep K486q (by simp))
  obtain ⟨cq492, kq492, q492a, q492b, q492c⟩ := isOf hZ e490 G486_0
  obtain ⟨_, _, ⟨T492, L492, k492, n492⟩, -, X492, ⟨Lc492, hQ492, l492, y492, z492⟩, st492⟩ := X490.interfaceBack hx (xi := (⟨"java/util/Iterator", "next", "()Ljava/lang/Object;"⟩ : MethodName)) (y := (⟨"java/util/ArrayList$Itr", "next", "()Ljava/lang/Object;"⟩ : MethodName)) hown (mvT hZ (hw _ (List.mem_of_getElem? (i := 242) rfl))) (mvT hZ (hw _ (List.mem_of_getElem? (i := 243) rfl))) (mvT hZ (hw _ (List.mem_of_getElem? (i := 244) rfl))) (mvT hZ (hw _ (List.mem_of_getElem? (i := 245) rfl))) (mvT hZ (hw _ (List.mem_of_getElem? (i := 246) rfl))) (mvT hZ (hw _ (List.mem_of_getElem? (i := 247) rfl))) (mvT hZ (hw _ (List.mem_of_getElem? (i := 248) rfl))) (mvT hZ (hw _ (List.mem_of_getElem? (i := 101) rfl))) (by decide) (backOf (W := 0) (rm32c02 l Z a0 hw [] r_486 h486 n0 (Nat.le_trans Z0 K489.1) p1 (-1 : Int32) mc el o0 o1 G486_0 G486_1 G486_2 G486_3 G486_4 F493 F494 F491 F495 gg_r_486 ne_p1_r_486 ne_el_r_486) hZ (hw _ (List.mem_of_getElem? (i := 249) rfl)) (hw _ (List.mem_of_getElem? (i := 80) rfl)) (by decide) (by decide)) q492a q492b q492c (g := (mkF m 36 #[.val (.ref p0), .val (.ref p1), .val (.ref b478), .val (.ref b482), .val (.ref r_486), .unset, .unset] [(.ref r_486)])) rfl (by rw [hml]; rfl) (Steps.refl _) (argsL := []) (rest := []) (lenOf pd_15 rfl) rfl (by show 2 * 0 + _ ≤ _; exact Nat.le_of_eq rfl) (hb hby d7_36) (fun _ _ => ⟨rfl, e490, (by decide : 3 + 0 ≤ _), (by decide : 15 + 0 ≤ _)⟩)
  dsimp only [Pt.U, Pt.locs, Pt.cells, Pt.slots] at X492 l492 y492 z492 st492 hQ492
  rw [y492, z492] at X492
  have X492 : Stand _ _ _ _ _ _ _ _ _ _ T492 L492 3 15 := X492
  obtain ⟨h492, e492⟩ : ∃ h, T492.heap = h := ⟨_, rfl⟩
  rw [e492] at hQ492
  obtain ⟨rfl, N492q, K492q, G492_0, G492_1, G492_2, G492_3, G492_4⟩ := hQ492
  have N492 : Fr n0 L492 := by rw [l492]; exact Fr.app N490 N492q
  have K496 : Keep h0 h492 [p0, arr] := K489.trans K492q (fun x hx => (List.mem_cons.mp hx).elim (fun e => e ▸ Or.inr sz_r_486) (fun hx => nomatch hx))
  refine own_via (T492.setTop (mkF m 41 #[.val (.ref p0), .val (.ref p1), .val (.ref b478), .val (.ref b482), .val (.ref r_486), .unset, .unset] [(.ref o0)])) (fun t k => st492.trans k) ?_
  have F498 := ((((((P12.ext E478).keep K480q).ext E482).keep K484q).keep K486q).keep K492q)
  obtain ⟨T497, X497, e497, st497⟩ := castY X492 hx hZ hown (hw _ (List.mem_of_getElem? (i := 256) rfl)) e492 (Ins.self F498) (g := (mkF m 41 #[.val (.ref p0), .val (.ref p1), .val (.ref b478), .val (.ref b482), .val (.ref r_486), .unset, .unset] [(.ref o0)])) rfl rfl (hb hby d7_41)
  refine own_via (T497.setTop (mkF m 44 #[.val (.ref p0), .val (.ref p1), .val (.ref b478), .val (.ref b482), .val (.ref r_486), .unset, .unset] [(.ref o0)])) (fun t k => st497 t k) ?_
  refine own_via (T497.setTop (mkF m 46 #[.val (.ref p0), .val (.ref p1), .val (.ref b478), .val (.ref b482), .val (.ref r_486), .val (.ref o0), .unset] [])) (fun t k => XS.astore X497.here hx rfl (hb hby d7_44) rfl rfl (l' := #[.val (.ref p0), .val (.ref p1), .val (.ref b478), .val (.ref b482), .val (.ref r_486), .val (.ref o0), .unset]) rfl k) ?_
  obtain ⟨T499, X499, e499, st499⟩ := getS2 X497 hx hZ hown (host := "") (Or.inl (hw _ (List.mem_of_getElem? (i := 258) rfl))) Via.refl e497 (own_stakeepW P20 hNS K496) (g := (mkF m 46 #[.val (.ref p0), .val (.ref p1), .val (.ref b478), .val (.ref b482), .val (.ref r_486), .val (.ref o0), .unset] [])) rfl (hb hby d7_46)
  refine own_via (T499.setTop (mkF m 49 #[.val (.ref p0), .val (.ref p1), .val (.ref b478), .val (.ref b482), .val (.ref r_486), .val (.ref o0), .unset] [(.ref swA)])) (fun t k => st499 t k) ?_
  refine own_via (T499.setTop (mkF m 51 #[.val (.ref p0), .val (.ref p1), .val (.ref b478), .val (.ref b482), .val (.ref r_486), .val (.ref o0), .unset] [(.ref o0), (.ref swA)])) (fun t k => XS.aload X499.here hx rfl (hb hby d7_49) rfl rfl k) ?_
  have F501 := ((((((P13.ext E478).keep K480q (fun q => ne_o0_b478 (List.mem_singleton.mp q))).ext E482).keep K484q (fun q => ne_o0_b482 (List.mem_singleton.mp q))).keep K486q (by simp)).keep K492q (fun q => ne_o0_r_486 (List.mem_singleton.mp q)))
  obtain ⟨cq500, kq500, q500a, q500b, q500c⟩ := isOf hZ e499 F498
  obtain ⟨_, _, ⟨T500, L500, k500, n500⟩, -, X500, ⟨Lc500, hQ500, l500, y500, z500⟩, st500⟩ := X499.virtualBack hx (y := (⟨"com/example/unweave/unweave/abstraction/Operation", "getKind", "()Lcom/example/unweave/unweave/abstraction/Operation$EKind;"⟩ : MethodName)) (z := (⟨"com/example/unweave/unweave/abstraction/Operation", "getKind", "()Lcom/example/unweave/unweave/abstraction/Operation$EKind;"⟩ : MethodName)) hown (mvT hZ (hw _ (List.mem_of_getElem? (i := 261) rfl))) (mvT hZ (hw _ (List.mem_of_getElem? (i := 262) rfl))) (notFace_of_selects (args := #[]) (mvT hZ (hw _ (List.mem_of_getElem? (i := 264) rfl)))) (mvT hZ (hw _ (List.mem_of_getElem? (i := 264) rfl))) (mvT hZ (hw _ (List.mem_of_getElem? (i := 263) rfl))) (by decide) (backOf (W := 1) (rm34 l Z a0 hw [] o0 h492 n0 (Nat.le_trans Z0 K496.1) kA F501) hZ (hw _ (List.mem_of_getElem? (i := 265) rfl)) (hw _ (List.mem_of_getElem? (i := 194) rfl)) (by decide) (by decide)) q500a q500c (g := (mkF m 51 #[.val (.ref p0), .val (.ref p1), .val (.ref b478), .val (.ref b482), .val (.ref r_486), .val (.ref o0), .unset] [(.ref o0), (.ref swA)])) rfl (by rw [hml]; rfl) (Steps.refl _) (argsL := []) (rest := [(.ref swA)]) (lenOf pd_16 rfl) rfl (by show 2 * 0 + _ ≤ _; exact Nat.le_of_eq rfl) (hb hby d7_51) (fun _ _ => ⟨rfl, e499, (by decide : 3 + 0 ≤ _), (by decide : 15 + 0 ≤ _)⟩)
  dsimp only [Pt.U, Pt.locs, Pt.cells, Pt.slots] at X500 l500 y500 z500 st500 hQ500
  rw [y500, z500] at X500
  have X500 : Stand _ _ _ _ _ _ _ _ _ _ T500 L500 3 15 := X500
  obtain ⟨rfl, N500q, e500⟩ := hQ500
  have N500 : Fr n0 L500 := by rw [l500]; exact Fr.app N492 N500q
  refine own_via (T500.setTop (mkF m 54 #[.val (.ref p0), .val (.ref p1), .val (.ref b478), .val (.ref b482), .val (.ref r_486), .val (.ref o0), .unset] [(.ref kA), (.ref swA)])) (fun t k => st500.trans k) ?_
  have F503 := ((((((P19.ext E478).keep K480q (fun q => ne_kA_b478 (List.mem_singleton.mp q))).ext E482).keep K484q (fun q => ne_kA_b482 (List.mem_singleton.mp q))).keep K486q (by simp)).keep K492q (fun q => ne_kA_r_486 (List.mem_singleton.mp q)))
  have F504 := ((((((P18.ext E478).keep K480q).ext E482).keep K484q).keep K486q).keep K492q)
  obtain ⟨cq502, kq502, q502a, q502b, q502c⟩ := isOf hZ e500 F504
  obtain ⟨_, _, ⟨T502, L502, k502, n502⟩, -, X502, ⟨Lc502, hQ502, l502, y502, z502⟩, st502⟩ := X500.virtualBackUp hx (x := (⟨"com/example/unweave/unweave/abstraction/Operation$EKind", "ordinal", "()I"⟩ : MethodName)) (y := (⟨"java/lang/Enum", "ordinal", "()I"⟩ : MethodName)) hown (mvT hZ (hw _ (List.mem_of_getElem? (i := 266) rfl))) (mvT hZ (hw _ (List.mem_of_getElem? (i := 267) rfl))) (mvT hZ (hw _ (List.mem_of_getElem? (i := 268) rfl))) (by decide) (mvT hZ (hw _ (List.mem_of_getElem? (i := 270) rfl))) (mvT hZ (hw _ (List.mem_of_getElem? (i := 269) rfl))) (backOf (W := 1) (rm35 l Z a0 hw [] kA h492 n0 (Nat.le_trans Z0 K496.1) F503) hZ (hw _ (List.mem_of_getElem? (i := 272) rfl)) (hw _ (List.mem_of_getElem? (i := 271) rfl)) (by decide) (by decide)) q502a q502c (g := (mkF m 54 #[.val (.ref p0), .val (.ref p1), .val (.ref b478), .val (.ref b482), .val (.ref r_486), .val (.ref o0), .unset] [(.ref kA), (.ref swA)])) rfl (by rw [hml]; rfl) (Steps.refl _) (argsL := []) (rest := [(.ref swA)]) (lenOf pd_17 rfl) rfl (by show 2 * 0 + _ ≤ _; exact Nat.le_of_eq rfl) (hb hby d7_54) (fun _ _ => ⟨rfl, e500, (by decide : 3 + 0 ≤ _), (by decide : 15 + 0 ≤ _)⟩)
  dsimp only [Pt.U, Pt.locs, Pt.cells, Pt.slots] at X502 l502 y502 z502 st502 hQ502
  rw [y502, z502] at X502
  have X502 : Stand _ _ _ _ _ _ _ _ _ _ T502 L502 3 15 := X502
  obtain ⟨rfl, N502q, e502⟩ := hQ502
  have N502 : Fr n0 L502 := by rw [l502]; exact Fr.app N500 N502q
  refine own_via (T502.setTop (mkF m 57 #[.val (.ref p0), .val (.ref p1), .val (.ref b478), .val (.ref b482), .val (.ref r_486), .val (.ref o0), .unset] [(.int (2 : Int32)), (.ref swA)])) (fun t k => st502.trans k) ?_
  have F506 := ((((((P21.ext E478).keep K480q (fun q => ne_swA_b478 (List.mem_singleton.mp q))).ext E482).keep K484q (fun q => ne_swA_b482 (List.mem_singleton.mp q))).keep K486q (by simp)).keep K492q (fun q => ne_swA_r_486 (List.mem_singleton.mp q)))
  obtain ⟨cl507, Ar507, S507, H507⟩ := id F506
  refine own_via (T502.setTop (mkF m 58 #[.val (.ref p0), .val (.ref p1), .val (.ref b478), .val (.ref b482), .val (.ref r_486), .val (.ref o0), .unset] [(.int (sw 2))])) (fun t k => X502.iaload hx (j := (2 : Int32)) (v := (.int (sw 2))) (by rw [e502]; exact Ar507.1) (State.isArrayOf_alike hZ.alike Ar507.2.1) Ar507.2.2 (own_in S507 (by decide)) (own_at H507 (by decide)) (g := (mkF m 57 #[.val (.ref p0), .val (.ref p1), .val (.ref b478), .val (.ref b482), .val (.ref r_486), .val (.ref o0), .unset] [(.int (2 : Int32)), (.ref swA)])) rfl rfl (hb hby d7_57) _ k) ?_
  refine own_via (T502.setTop (mkF m 167 #[.val (.ref p0), .val (.ref p1), .val (.ref b478), .val (.ref b482), .val (.ref r_486), .val (.ref o0), .unset] [])) (fun t k => XS.tswIn X502.here hx rfl (pc0 := 58) (pc' := 167) rfl (hb hby d7_58) rfl (by rw [hsw]; decide) (by rw [hsw]; rfl) (by decide) (by decide) k) ?_
  refine own_via (T502.setTop (mkF m 168 #[.val (.ref p0), .val (.ref p1), .val (.ref b478), .val (.ref b482), .val (.ref r_486), .val (.ref o0), .unset] [(.ref p0)])) (fun t k => XS.aloadN X502.here hx rfl (hb hby d7_167) rfl rfl k) ?_
  have F509 := ((((((P1.ext E478).keep K480q (fun q => ne_p0_b478 (List.mem_singleton.mp q))).ext E482).keep K484q (fun q => ne_p0_b482 (List.mem_singleton.mp q))).keep K486q (by simp)).keep K492q (fun q => ne_p0_r_486 (List.mem_singleton.mp q)))
  obtain ⟨T508, X508, e508, st508⟩ := getF X502 hx hZ hown (host := "") (Or.inl (hw _ (List.mem_of_getElem? (i := 13) rfl))) Via.refl e502 F509 (g := (mkF m 168 #[.val (.ref p0), .val (.ref p1), .val (.ref b478), .val (.ref b482), .val (.ref r_486), .val (.ref o0), .unset] [(.ref p0)])) rfl rfl (hb hby d7_168)
  refine own_via (T508.setTop (mkF m 171 #[.val (.ref p0), .val (.ref p1), .val (.ref b478), .val (.ref b482), .val (.ref r_486), .val (.ref o0), .unset] [(.ref arr)])) (fun t k => st508 t k) ?_
  refine own_via (T508.setTop (mkF m 173 #[.val (.ref p0), .val (.ref p1), .val (.ref b478), .val (.ref b482), .val (.ref r_486), .val (.ref o0), .unset] [(.ref o0), (.ref arr)])) (fun t k => XS.aload X508.here hx rfl (hb hby d7_171) rfl rfl k) ?_
  have F511 := ((((((P14.ext E478).keep K480q (fun q => ne_o0_b478 (List.mem_singleton.mp q))).ext E482).keep K484q (fun q => ne_o0_b482 (List.mem_singleton.mp q))).keep K486q (by simp)).keep K492q (fun q => ne_o0_r_486 (List.mem_singleton.mp q)))
  obtain ⟨cq510, kq510, q510a, q510b, q510c⟩ := isOf hZ e508 F498
  obtain ⟨_, _, ⟨T510, L510, k510, n510⟩, -, X510, ⟨Lc510, hQ510, l510, y510, z510⟩, st510⟩ := X508.virtualBack hx (y := (⟨"com/example/unweave/unweave/abstraction/Operation", "getVariable", "()I"⟩ : MethodName)) (z := (⟨"com/example/unweave/unweave/abstraction/Operation", "getVariable", "()I"⟩ : MethodName)) hown (mvT hZ (hw _ (List.mem_of_getElem? (i := 275) rfl))) (mvT hZ (hw _ (List.mem_of_getElem? (i := 276) rfl))) (notFace_of_selects (args := #[]) (mvT hZ (hw _ (List.mem_of_getElem? (i := 278) rfl)))) (mvT hZ (hw _ (List.mem_of_getElem? (i := 278) rfl))) (mvT hZ (hw _ (List.mem_of_getElem? (i := 277) rfl))) (by decide) (backOf (W := 1) (rm36 l Z a0 hw [] o0 h492 n0 (Nat.le_trans Z0 K496.1) x0 F511) hZ (hw _ (List.mem_of_getElem? (i := 279) rfl)) (hw _ (List.mem_of_getElem? (i := 194) rfl)) (by decide) (by decide)) q510a q510c (g := (mkF m 173 #[.val (.ref p0), .val (.ref p1), .val (.ref b478), .val (.ref b482), .val (.ref r_486), .val (.ref o0), .unset] [(.ref o0), (.ref arr)])) rfl (by rw [hml]; rfl) (Steps.refl _) (argsL := []) (rest := [(.ref arr)]) (lenOf pd_17 rfl) rfl (by show 2 * 0 + _ ≤ _; exact Nat.le_of_eq rfl) (hb hby d7_173) (fun _ _ => ⟨rfl, e508, (by decide : 3 + 0 ≤ _), (by decide : 15 + 0 ≤ _)⟩)
  dsimp only [Pt.U, Pt.locs, Pt.cells, Pt.slots] at X510 l510 y510 z510 st510 hQ510
  rw [y510, z510] at X510
  have X510 : Stand _ _ _ _ _ _ _ _ _ _ T510 L510 3 15 := X510
  obtain ⟨rfl, N510q, e510⟩ := hQ510
  have N510 : Fr n0 L510 := by rw [l510]; exact Fr.app N502 N510q
  refine own_via (T510.setTop (mkF m 176 #[.val (.ref p0), .val (.ref p1), .val (.ref b478), .val (.ref b482), .val (.ref r_486), .val (.ref o0), .unset] [(.int x0), (.ref arr)])) (fun t k => st510.trans k) ?_
  refine own_via (T510.setTop (mkF m 177 #[.val (.ref p0), .val (.ref p1), .val (.ref b478), .val (.ref b482), .val (.ref r_486), .val (.ref o0), .unset] [(.ref p0), (.int x0), (.ref arr)])) (fun t k => XS.aloadN X510.here hx rfl (hb hby d7_176) rfl rfl k) ?_
  refine own_via (T510.setTop (mkF m 178 #[.val (.ref p0), .val (.ref p1), .val (.ref b478), .val (.ref b482), .val (.ref r_486), .val (.ref o0), .unset] [(.ref p0), (.ref p0), (.int x0), (.ref arr)])) (fun t k => XS.dup X510.here hx rfl (hb hby d7_177) rfl rfl k) ?_
  have F513 := ((((((P2.ext E478).keep K480q (fun q => ne_p0_b478 (List.mem_singleton.mp q))).ext E482).keep K484q (fun q => ne_p0_b482 (List.mem_singleton.mp q))).keep K486q (by simp)).keep K492q (fun q => ne_p0_r_486 (List.mem_singleton.mp q)))
  obtain ⟨T512, X512, e512, st512⟩ := getF X510 hx hZ hown (host := "") (Or.inl (hw _ (List.mem_of_getElem? (i := 15) rfl))) Via.refl e510 F513 (g := (mkF m 178 #[.val (.ref p0), .val (.ref p1), .val (.ref b478), .val (.ref b482), .val (.ref r_486), .val (.ref o0), .unset] [(.ref p0), (.ref p0), (.int x0), (.ref arr)])) rfl rfl (hb hby d7_178)
  refine own_via (T512.setTop (mkF m 181 #[.val (.ref p0), .val (.ref p1), .val (.ref b478), .val (.ref b482), .val (.ref r_486), .val (.ref o0), .unset] [(.int nx), (.ref p0), (.int x0), (.ref arr)])) (fun t k => st512 t k) ?_
  refine own_via (T512.setTop (mkF m 182 #[.val (.ref p0), .val (.ref p1), .val (.ref b478), .val (.ref b482), .val (.ref r_486), .val (.ref o0), .unset] [(.int nx), (.ref p0), (.int nx), (.int x0), (.ref arr)])) (fun t k => XS.dupX1 X512.here hx rfl (hb hby d7_181) rfl rfl rfl k) ?_
  refine own_via (T512.setTop (mkF m 183 #[.val (.ref p0), .val (.ref p1), .val (.ref b478), .val (.ref b482), .val (.ref r_486), .val (.ref o0), .unset] [(.int (1 : Int32)), (.int nx), (.ref p0), (.int nx), (.int x0), (.ref arr)])) (fun t k => XS.iconst X512.here hx rfl (hb hby d7_182) k) ?_
  refine own_via (T512.setTop (mkF m 184 #[.val (.ref p0), .val (.ref p1), .val (.ref b478), .val (.ref b482), .val (.ref r_486), .val (.ref o0), .unset] [(.int (nx + (1 : Int32))), (.ref p0), (.int nx), (.int x0), (.ref arr)])) (fun t k => XS.iadd X512.here hx rfl (hb hby d7_183) rfl k) ?_
  have F515 := ((((((P0.ext E478).keep K480q).ext E482).keep K484q).keep K486q).keep K492q)
  obtain ⟨T514, h514, X514, e514, W514, st514⟩ := putF X512 hx hZ hown (host := "") (Or.inl (hw _ (List.mem_of_getElem? (i := 15) rfl))) Via.refl e512 F513 F515 (Or.inl (hw _ (List.mem_of_getElem? (i := 16) rfl))) (hw _ (List.mem_of_getElem? (i := 2) rfl)) (ty := .int) (by decide) rfl rfl (g := (mkF m 184 #[.val (.ref p0), .val (.ref p1), .val (.ref b478), .val (.ref b482), .val (.ref r_486), .val (.ref o0), .unset] [(.int (nx + (1 : Int32))), (.ref p0), (.int nx), (.int x0), (.ref arr)])) rfl rfl (hb hby d7_184)
  have Fw514 := F513.same W514
  have N514 := Fr.snoc X514 N510 gg_p0
  have K516 : Keep h0 h514 [p0, arr] := K496.wr W514 (Or.inl (List.mem_of_getElem? (i := 0) rfl))
  refine own_via (T514.setTop (mkF m 187 #[.val (.ref p0), .val (.ref p1), .val (.ref b478), .val (.ref b482), .val (.ref r_486), .val (.ref o0), .unset] [(.int nx), (.int x0), (.ref arr)])) (fun t k => st514 t k) ?_
  have F518 := (((((((P3.ext E478).keep K480q (fun q => ne_arr_b478 (List.mem_singleton.mp q))).ext E482).keep K484q (fun q => ne_arr_b482 (List.mem_singleton.mp q))).keep K486q (by simp)).keep K492q (fun q => ne_arr_r_486 (List.mem_singleton.mp q))).other W514 n0_arr)
  obtain ⟨cl519, Ar519, S519, H519⟩ := id F518
  obtain ⟨T517, h517, X517, e517, W517, st517⟩ := stI X514 hx hZ e514 Ar519 (j := x0) (own_in S519 hx0) (g := (mkF m 187 #[.val (.ref p0), .val (.ref p1), .val (.ref b478), .val (.ref b482), .val (.ref r_486), .val (.ref o0), .unset] [(.int nx), (.int x0), (.ref arr)])) rfl rfl (hb hby d7_187)
  have V517 : own_A Z h517 arr .int N (own_up f x0.toInt.toNat nx) := own_A.set F518 W517
  have N517 := Fr.snoc X517 N514 gg_arr
  have K520 : Keep h0 h517 [p0, arr] := K516.wr W517 (Or.inl (List.mem_of_getElem? (i := 1) rfl))
  refine own_via (T517.setTop (mkF m 188 #[.val (.ref p0), .val (.ref p1), .val (.ref b478), .val (.ref b482), .val (.ref r_486), .val (.ref o0), .unset] [])) (fun t k => st517 t k) ?_
  refine own_via (T517.setTop (mkF m 207 #[.val (.ref p0), .val (.ref p1), .val (.ref b478), .val (.ref b482), .val (.ref r_486), .val (.ref o0), .unset] [])) (fun t k => XS.goto X517.here hx rfl (pc0 := 188) (pc' := 207) rfl (hb hby d7_188) (by decide) (by decide) k) ?_
  refine own_via (T517.setTop (mkF m 24 #[.val (.ref p0), .val (.ref p1), .val (.ref b478), .val (.ref b482), .val (.ref r_486), .val (.ref o0), .unset] [])) (fun t k => XS.goto X517.here hx rfl (pc0 := 207) (pc' := 24) rfl (hb hby d7_207) (by decide) (by decide) k) ?_
  refine own_via (T517.setTop (mkF m 26 #[.val (.ref p0), .val (.ref p1), .val (.ref b478), .val (.ref b482), .val (.ref r_486), .val (.ref o0), .unset] [(.ref r_486)])) (fun t k => XS.aload X517.here hx rfl (hb hby d7_24) rfl rfl k) ?_
  have F522 := ((G492_2.other W514 (Or.inl (Ne.symm ne_p0_r_486))).other W517 (Or.inl (Ne.symm ne_arr_r_486)))
  have F523 := ((G492_1.other W514 (Or.inl (Ne.symm ne_p0_r_486))).other W517 (Or.inl (Ne.symm ne_arr_r_486)))
  have F524 := (((F491.keep K492q (fun q => ne_p1_r_486 (List.mem_singleton.mp q))).other W514 (Or.inl n0_p1)).other W517 (Or.inl n1_p1))
  have F525 := ((G492_0.wr W514).wr W517)
  obtain ⟨cq521, kq521, q521a, q521b, q521c⟩ := isOf hZ e517 F525
  obtain ⟨_, _, ⟨T521, L521, k521, n521⟩, -, X521, ⟨Lc521, hQ521, l521, y521, z521⟩, st521⟩ := X517.interfaceBack hx (xi := (⟨"java/util/Iterator", "hasNext", "()Z"⟩ : MethodName)) (y := (⟨"java/util/ArrayList$Itr", "hasNext", "()Z"⟩ : MethodName)) hown (mvT hZ (hw _ (List.mem_of_getElem? (i := 94) rfl))) (mvT hZ (hw _ (List.mem_of_getElem? (i := 95) rfl))) (mvT hZ (hw _ (List.mem_of_getElem? (i := 96) rfl))) (mvT hZ (hw _ (List.mem_of_getElem? (i := 97) rfl))) (mvT hZ (hw _ (List.mem_of_getElem? (i := 98) rfl))) (mvT hZ (hw _ (List.mem_of_getElem? (i := 99) rfl))) (mvT hZ (hw _ (List.mem_of_getElem? (i := 100) rfl))) (mvT hZ (hw _ (List.mem_of_getElem? (i := 101) rfl))) (by decide) (backOf (W := 0) (rm12c12 l Z a0 hw [] r_486 h517 n0 (Nat.le_trans Z0 K520.1) p1 F522 F523 F524) hZ (hw _ (List.mem_of_getElem? (i := 102) rfl)) (hw _ (List.mem_of_getElem? (i := 80) rfl)) (by decide) (by decide)) q521a q521b q521c (g := (mkF m 26 #[.val (.ref p0), .val (.ref p1), .val (.ref b478), .val (.ref b482), .val (.ref r_486), .val (.ref o0), .unset] [(.ref r_486)])) rfl (by rw [hml]; rfl) (Steps.refl _) (argsL := []) (rest := []) (lenOf pd_11 rfl) rfl (by show 2 * 0 + _ ≤ _; exact Nat.le_of_eq rfl) (hb hby d7_26) (fun _ _ => ⟨rfl, e517, (by decide : 3 + 0 ≤ _), (by decide : 15 + 0 ≤ _)⟩)
  dsimp only [Pt.U, Pt.locs, Pt.cells, Pt.slots] at X521 l521 y521 z521 st521 hQ521
  rw [y521, z521] at X521
  have X521 : Stand _ _ _ _ _ _ _ _ _ _ T521 L521 3 15 := X521
  obtain ⟨rfl, N521q, e521⟩ := hQ521
  have N521 : Fr n0 L521 := by rw [l521]; exact Fr.app N517 N521q
  refine own_via (T521.setTop (mkF m 31 #[.val (.ref p0), .val (.ref p1), .val (.ref b478), .val (.ref b482), .val (.ref r_486), .val (.ref o0), .unset] [(.int (1 : Int32))])) (fun t k => st521.trans k) ?_
  refine own_via (T521.setTop (mkF m 34 #[.val (.ref p0), .val (.ref p1), .val (.ref b478), .val (.ref b482), .val (.ref r_486), .val (.ref o0), .unset] [])) (fun t k => XS.ifNo X521.here hx rfl (hb hby d7_31) rfl ((if0 _ _).trans (feq (by decide)).1) k) ?_
  refine own_via (T521.setTop (mkF m 36 #[.val (.ref p0), .val (.ref p1), .val (.ref b478), .val (.ref b482), .val (.ref r_486), .val (.ref o0), .unset] [(.ref r_486)])) (fun t k => XS.aload X521.here hx rfl (hb hby d7_34) rfl rfl k) ?_
  have F527 := ((G492_3.other W514 (Or.inl (Ne.symm ne_p0_r_486))).other W517 (Or.inl (Ne.symm ne_arr_r_486)))
  have F528 := ((G492_4.other W514 (Or.inl (Ne.symm ne_p0_r_486))).other W517 (Or.inl (Ne.symm ne_arr_r_486)))
  have F529 := (((F493.keep K492q (fun q => ne_p1_r_486 (List.mem_singleton.mp q))).other W514 (Or.inl n0_p1)).other W517 (Or.inl n1_p1))
  have F530 := (((F494.keep K492q (fun q => ne_p1_r_486 (List.mem_singleton.mp q))).other W514 (Or.inl n0_p1)).other W517 (Or.inl n1_p1))
  have F531 := (((F495.keep K492q (fun q => ne_el_r_486 (List.mem_singleton.mp q))).other W514 n0_el).other W517 n1_el)
  obtain ⟨cq526, kq526, q526a, q526b, q526c⟩ := isOf hZ e521 F525
  obtain ⟨_, _, ⟨T526, L526, k526, n526⟩, -, X526, ⟨Lc526, hQ526, l526, y526, z526⟩, st526⟩ := X521.interfaceBack hx (xi := (⟨"java/util/Iterator", "next", "()Ljava/lang/Object;"⟩ : MethodName)) (y := (⟨"java/util/ArrayList$Itr", "next", "()Ljava/lang/Object;"⟩ : MethodName)) hown (mvT hZ (hw _ (List.mem_of_getElem? (i := 242) rfl))) (mvT hZ (hw _ (List.mem_of_getElem? (i := 243) rfl))) (mvT hZ (hw _ (List.mem_of_getElem? (i := 244) rfl))) (mvT hZ (hw _ (List.mem_of_getElem? (i := 245) rfl))) (mvT hZ (hw _ (List.mem_of_getElem? (i := 246) rfl))) (mvT hZ (hw _ (List.mem_of_getElem? (i := 247) rfl))) (mvT hZ (hw _ (List.mem_of_getElem? (i := 248) rfl))) (mvT hZ (hw _ (List.mem_of_getElem? (i := 101) rfl))) (by decide) (backOf (W := 0) (rm32c12 l Z a0 hw [] r_486 h517 n0 (Nat.le_trans Z0 K520.1) p1 (0 : Int32) mc el o0 o1 F525 F523 F522 F527 F528 F529 F530 F524 F531 gg_r_486 ne_p1_r_486 ne_el_r_486) hZ (hw _ (List.mem_of_getElem? (i := 249) rfl)) (hw _ (List.mem_of_getElem? (i := 80) rfl)) (by decide) (by decide)) q526a q526b q526c (g := (mkF m 36 #[.val (.ref p0), .val (.ref p1), .val (.ref b478), .val (.ref b482), .val (.ref r_486), .val (.ref o0), .unset] [(.ref r_486)])) rfl (by rw [hml]; rfl) (Steps.refl _) (argsL := []) (rest := []) (lenOf pd_15 rfl) rfl (by show 2 * 0 + _ ≤ _; exact Nat.le_of_eq rfl) (hb hby d7_36) (fun _ _ => ⟨rfl, e521, (by decide : 3 + 0 ≤ _), (by decide : 15 + 0 ≤ _)⟩)
  dsimp only [Pt.U, Pt.locs, Pt.cells, Pt.slots] at X526 l526 y526 z526 st526 hQ526
  rw [y526, z526] at X526
  have X526 : Stand _ _ _ _ _ _ _ _ _ _ T526 L526 3 15 := X526
  obtain ⟨h526, e526⟩ : ∃ h, T526.heap = h := ⟨_, rfl⟩
  rw [e526] at hQ526
  obtain ⟨rfl, N526q, K526q, G526_0, G526_1, G526_2, G526_3, G526_4⟩ := hQ526
  have N526 : Fr n0 L526 := by rw [l526]; exact Fr.app N521 N526q
  have K532 : Keep h0 h526 [p0, arr] := K520.trans K526q (fun x hx => (List.mem_cons.mp hx).elim (fun e => e ▸ Or.inr sz_r_486) (fun hx => nomatch hx))
  refine own_via (T526.setTop (mkF m 41 #[.val (.ref p0), .val (.ref p1), .val (.ref b478), .val (.ref b482), .val (.ref r_486), .val (.ref o0), .unset] [(.ref o1)])) (fun t k => st526.trans k) ?_
  have F534 := (((((((((P15.ext E478).keep K480q).ext E482).keep K484q).keep K486q).keep K492q).wr W514).wr W517).keep K526q)
  obtain ⟨T533, X533, e533, st533⟩ := castY X526 hx hZ hown (hw _ (List.mem_of_getElem? (i := 256) rfl)) e526 (Ins.self F534) (g := (mkF m 41 #[.val (.ref p0), .val (.ref p1), .val (.ref b478), .val (.ref b482), .val (.ref r_486), .val (.ref o0), .unset] [(.ref o1)])) rfl rfl (hb hby d7_41)
  refine own_via (T533.setTop (mkF m 44 #[.val (.ref p0), .val (.ref p1), .val (.ref b478), .val (.ref b482), .val (.ref r_486), .val (.ref o0), .unset] [(.ref o1)])) (fun t k => st533 t k) ?_
  refine own_via (T533.setTop (mkF m 46 #[.val (.ref p0), .val (.ref p1), .val (.ref b478), .val (.ref b482), .val (.ref r_486), .val (.ref o1), .unset] [])) (fun t k => XS.astore X533.here hx rfl (hb hby d7_44) rfl rfl (l' := #[.val (.ref p0), .val (.ref p1), .val (.ref b478), .val (.ref b482), .val (.ref r_486), .val (.ref o1), .unset]) rfl k) ?_
  obtain ⟨T535, X535, e535, st535⟩ := getS2 X533 hx hZ hown (host := "") (Or.inl (hw _ (List.mem_of_getElem? (i := 258) rfl))) Via.refl e533 (own_stakeepW P20 hNS K532) (g := (mkF m 46 #[.val (.ref p0), .val (.ref p1), .val (.ref b478), .val (.ref b482), .val (.ref r_486), .val (.ref o1), .unset] [])) rfl (hb hby d7_46)
  refine own_via (T535.setTop (mkF m 49 #[.val (.ref p0), .val (.ref p1), .val (.ref b478), .val (.ref b482), .val (.ref r_486), .val (.ref o1), .unset] [(.ref swA)])) (fun t k => st535 t k) ?_
  refine own_via (T535.setTop (mkF m 51 #[.val (.ref p0), .val (.ref p1), .val (.ref b478), .val (.ref b482), .val (.ref r_486), .val (.ref o1), .unset] [(.ref o1), (.ref swA)])) (fun t k => XS.aload X535.here hx rfl (hb hby d7_49) rfl rfl k) ?_
  have F537 := (((((((((P16.ext E478).keep K480q (fun q => ne_o1_b478 (List.mem_singleton.mp q))).ext E482).keep K484q (fun q => ne_o1_b482 (List.mem_singleton.mp q))).keep K486q (by simp)).keep K492q (fun q => ne_o1_r_486 (List.mem_singleton.mp q))).other W514 (Or.inl n0_o1)).other W517 (Or.inl n1_o1)).keep K526q (fun q => ne_o1_r_486 (List.mem_singleton.mp q)))
  obtain ⟨cq536, kq536, q536a, q536b, q536c⟩ := isOf hZ e535 F534
  obtain ⟨_, _, ⟨T536, L536, k536, n536⟩, -, X536, ⟨Lc536, hQ536, l536, y536, z536⟩, st536⟩ := X535.virtualBack hx (y := (⟨"com/example/unweave/unweave/abstraction/Operation", "getKind", "()Lcom/example/unweave/unweave/abstraction/Operation$EKind;"⟩ : MethodName)) (z := (⟨"com/example/unweave/unweave/abstraction/Operation", "getKind", "()Lcom/example/unweave/unweave/abstraction/Operation$EKind;"⟩ : MethodName)) hown (mvT hZ (hw _ (List.mem_of_getElem? (i := 261) rfl))) (mvT hZ (hw _ (List.mem_of_getElem? (i := 262) rfl))) (notFace_of_selects (args := #[]) (mvT hZ (hw _ (List.mem_of_getElem? (i := 264) rfl)))) (mvT hZ (hw _ (List.mem_of_getElem? (i := 264) rfl))) (mvT hZ (hw _ (List.mem_of_getElem? (i := 263) rfl))) (by decide) (backOf (W := 1) (rm34 l Z a0 hw [] o1 h526 n0 (Nat.le_trans Z0 K532.1) kA F537) hZ (hw _ (List.mem_of_getElem? (i := 265) rfl)) (hw _ (List.mem_of_getElem? (i := 194) rfl)) (by decide) (by decide)) q536a q536c (g := (mkF m 51 #[.val (.ref p0), .val (.ref p1), .val (.ref b478), .val (.ref b482), .val (.ref r_486), .val (.ref o1), .unset] [(.ref o1), (.ref swA)])) rfl (by rw [hml]; rfl) (Steps.refl _) (argsL := []) (rest := [(.ref swA)]) (lenOf pd_16 rfl) rfl (by show 2 * 0 + _ ≤ _; exact Nat.le_of_eq rfl) (hb hby d7_51) (fun _ _ => ⟨rfl, e535, (by decide : 3 + 0 ≤ _), (by decide : 15 + 0 ≤ _)⟩)
  dsimp only [Pt.U, Pt.locs, Pt.cells, Pt.slots] at X536 l536 y536 z536 st536 hQ536
  rw [y536, z536] at X536
  have X536 : Stand _ _ _ _ _ _ _ _ _ _ T536 L536 3 15 := X536
  obtain ⟨rfl, N536q, e536⟩ := hQ536
  have N536 : Fr n0 L536 := by rw [l536]; exact Fr.app N526 N536q
  refine own_via (T536.setTop (mkF m 54 #[.val (.ref p0), .val (.ref p1), .val (.ref b478), .val (.ref b482), .val (.ref r_486), .val (.ref o1), .unset] [(.ref kA), (.ref swA)])) (fun t k => st536.trans k) ?_
  have F539 := (((F503.other W514 (Or.inl n0_kA)).other W517 (Or.inl n1_kA)).keep K526q (fun q => ne_kA_r_486 (List.mem_singleton.mp q)))
  have F540 := (((F504.wr W514).wr W517).keep K526q)
  obtain ⟨cq538, kq538, q538a, q538b, q538c⟩ := isOf hZ e536 F540
  obtain ⟨_, _, ⟨T538, L538, k538, n538⟩, -, X538, ⟨Lc538, hQ538, l538, y538, z538⟩, st538⟩ := X536.virtualBackUp hx (x := (⟨"com/example/unweave/unweave/abstraction/Operation$EKind", "ordinal", "()I"⟩ : MethodName)) (y := (⟨"java/lang/Enum", "ordinal", "()I"⟩ : MethodName)) hown (mvT hZ (hw _ (List.mem_of_getElem? (i := 266) rfl))) (mvT hZ (hw _ (List.mem_of_getElem? (i := 267) rfl))) (mvT hZ (hw _ (List.mem_of_getElem? (i := 268) rfl))) (by decide) (mvT hZ (hw _ (List.mem_of_getElem? (i := 270) rfl))) (mvT hZ (hw _ (List.mem_of_getElem? (i := 269) rfl))) (backOf (W := 1) (rm35 l Z a0 hw [] kA h526 n0 (Nat.le_trans Z0 K532.1) F539) hZ (hw _ (List.mem_of_getElem? (i := 272) rfl)) (hw _ (List.mem_of_getElem? (i := 271) rfl)) (by decide) (by decide)) q538a q538c (g := (mkF m 54 #[.val (.ref p0), .val (.ref p1), .val (.ref b478), .val (.ref b482), .val (.ref r_486), .val (.ref o1), .unset] [(.ref kA), (.ref swA)])) rfl (by rw [hml]; rfl) (Steps.refl _) (argsL := []) (rest := [(.ref swA)]) (lenOf pd_17 rfl) rfl (by show 2 * 0 + _ ≤ _; exact Nat.le_of_eq rfl) (hb hby d7_54) (fun _ _ => ⟨rfl, e536, (by decide : 3 + 0 ≤ _), (by decide : 15 + 0 ≤ _)⟩)
  dsimp only [Pt.U, Pt.locs, Pt.cells, Pt.slots] at X538 l538 y538 z538 st538 hQ538
  rw [y538, z538] at X538
  have X538 : Stand _ _ _ _ _ _ _ _ _ _ T538 L538 3 15 := X538
  obtain ⟨rfl, N538q, e538⟩ := hQ538
  have N538 : Fr n0 L538 := by rw [l538]; exact Fr.app N536 N538q
  refine own_via (T538.setTop (mkF m 57 #[.val (.ref p0), .val (.ref p1), .val (.ref b478), .val (.ref b482), .val (.ref r_486), .val (.ref o1), .unset] [(.int (2 : Int32)), (.ref swA)])) (fun t k => st538.trans k) ?_
  have F542 := (((F506.other W514 n0_swA).other W517 n1_swA).keep K526q (fun q => ne_swA_r_486 (List.mem_singleton.mp q)))
  obtain ⟨cl543, Ar543, S543, H543⟩ := id F542
  refine own_via (T538.setTop (mkF m 58 #[.val (.ref p0), .val (.ref p1), .val (.ref b478), .val (.ref b482), .val (.ref r_486), .val (.ref o1), .unset] [(.int (sw 2))])) (fun t k => X538.iaload hx (j := (2 : Int32)) (v := (.int (sw 2))) (by rw [e538]; exact Ar543.1) (State.isArrayOf_alike hZ.alike Ar543.2.1) Ar543.2.2 (own_in S543 (by decide)) (own_at H543 (by decide)) (g := (mkF m 57 #[.val (.ref p0), .val (.ref p1), .val (.ref b478), .val (.ref b482), .val (.ref r_486), .val (.ref o1), .unset] [(.int (2 : Int32)), (.ref swA)])) rfl rfl (hb hby d7_57) _ k) ?_
  refine own_via (T538.setTop (mkF m 167 #[.val (.ref p0), .val (.ref p1), .val (.ref b478), .val (.ref b482), .val (.ref r_486), .val (.ref o1), .unset] [])) (fun t k => XS.tswIn X538.here hx rfl (pc0 := 58) (pc' := 167) rfl (hb hby d7_58) rfl (by rw [hsw]; decide) (by rw [hsw]; rfl) (by decide) (by decide) k) ?_
  refine own_via (T538.setTop (mkF m 168 #[.val (.ref p0), .val (.ref p1), .val (.ref b478), .val (.ref b482), .val (.ref r_486), .val (.ref o1), .unset] [(.ref p0)])) (fun t k => XS.aloadN X538.here hx rfl (hb hby d7_167) rfl rfl k) ?_
  have F545 := (((F509.other W514 (Or.inr (slot_ne (Or.inr (hw _ (List.mem_of_getElem? (i := 14) rfl))) (Or.inl (hw _ (List.mem_of_getElem? (i := 16) rfl))) (by decide) (t := (.array .int)) (t' := .int) (by decide) (by decide)))).other W517 (Or.inl (Ne.symm n0_arr))).keep K526q (fun q => ne_p0_r_486 (List.mem_singleton.mp q)))
  obtain ⟨T544, X544, e544, st544⟩ := getF X538 hx hZ hown (host := "") (Or.inl (hw _ (List.mem_of_getElem? (i := 13) rfl))) Via.refl e538 F545 (g := (mkF m 168 #[.val (.ref p0), .val (.ref p1), .val (.ref b478), .val (.ref b482), .val (.ref r_486), .val (.ref o1), .unset] [(.ref p0)])) rfl rfl (hb hby d7_168)
  refine own_via (T544.setTop (mkF m 171 #[.val (.ref p0), .val (.ref p1), .val (.ref b478), .val (.ref b482), .val (.ref r_486), .val (.ref o1), .unset] [(.ref arr)])) (fun t k => st544 t k) ?_
  refine own_via (T544.setTop (mkF m 173 #[.val (.ref p0), .val (.ref p1), .val (.ref b478), .val (.ref b482), .val (.ref r_486), .val (.ref o1), .unset] [(.ref o1), (.ref arr)])) (fun t k => XS.aload X544.here hx rfl (hb hby d7_171) rfl rfl k) ?_
  have F547 := (((((((((P17.ext E478).keep K480q (fun q => ne_o1_b478 (List.mem_singleton.mp q))).ext E482).keep K484q (fun q => ne_o1_b482 (List.mem_singleton.mp q))).keep K486q (by simp)).keep K492q (fun q => ne_o1_r_486 (List.mem_singleton.mp q))).other W514 (Or.inl n0_o1)).other W517 (Or.inl n1_o1)).keep K526q (fun q => ne_o1_r_486 (List.mem_singleton.mp q)))
  obtain ⟨cq546, kq546, q546a, q546b, q546c⟩ := isOf hZ e544 F534
  obtain ⟨_, _, ⟨T546, L546, k546, n546⟩, -, X546, ⟨Lc546, hQ546, l546, y546, z546⟩, st546⟩ := X544.virtualBack hx (y := (⟨"com/example/unweave/unweave/abstraction/Operation", "getVariable", "()I"⟩ : MethodName)) (z := (⟨"com/example/unweave/unweave/abstraction/Operation", "getVariable", "()I"⟩ : MethodName)) hown (mvT hZ (hw _ (List.mem_of_getElem? (i := 275) rfl))) (mvT hZ (hw _ (List.mem_of_getElem? (i := 276) rfl))) (notFace_of_selects (args := #[]) (mvT hZ (hw _ (List.mem_of_getElem? (i := 278) rfl)))) (mvT hZ (hw _ (List.mem_of_getElem? (i := 278) rfl))) (mvT hZ (hw _ (List.mem_of_getElem? (i := 277) rfl))) (by decide) (backOf (W := 1) (rm36 l Z a0 hw [] o1 h526 n0 (Nat.le_trans Z0 K532.1) x1 F547) hZ (hw _ (List.mem_of_getElem? (i := 279) rfl)) (hw _ (List.mem_of_getElem? (i := 194) rfl)) (by decide) (by decide)) q546a q546c (g := (mkF m 173 #[.val (.ref p0), .val (.ref p1), .val (.ref b478), .val (.ref b482), .val (.ref r_486), .val (.ref o1), .unset] [(.ref o1), (.ref arr)])) rfl (by rw [hml]; rfl) (Steps.refl _) (argsL := []) (rest := [(.ref arr)]) (lenOf pd_17 rfl) rfl (by show 2 * 0 + _ ≤ _; exact Nat.le_of_eq rfl) (hb hby d7_173) (fun _ _ => ⟨rfl, e544, (by decide : 3 + 0 ≤ _), (by decide : 15 + 0 ≤ _)⟩)
  dsimp only [Pt.U, Pt.locs, Pt.cells, Pt.slots] at X546 l546 y546 z546 st546 hQ546
  rw [y546, z546] at X546
  have X546 : Stand _ _ _ _ _ _ _ _ _ _ T546 L546 3 15 := X546
  obtain ⟨rfl, N546q, e546⟩ := hQ546
  have N546 : Fr n0 L546 := by rw [l546]; exact Fr.app N538 N546q
  refine own_via (T546.setTop (mkF m 176 #[.val (.ref p0), .val (.ref p1), .val (.ref b478), .val (.ref b482), .val (.ref r_486), .val (.ref o1), .unset] [(.int x1), (.ref arr)])) (fun t k => st546.trans k) ?_
  refine own_via (T546.setTop (mkF m 177 #[.val (.ref p0), .val (.ref p1), .val (.ref b478), .val (.ref b482), .val (.ref r_486), .val (.ref o1), .unset] [(.ref p0), (.int x1), (.ref arr)])) (fun t k => XS.aloadN X546.here hx rfl (hb hby d7_176) rfl rfl k) ?_
  refine own_via (T546.setTop (mkF m 178 #[.val (.ref p0), .val (.ref p1), .val (.ref b478), .val (.ref b482), .val (.ref r_486), .val (.ref o1), .unset] [(.ref p0), (.ref p0), (.int x1), (.ref arr)])) (fun t k => XS.dup X546.here hx rfl (hb hby d7_177) rfl rfl k) ?_
  have F549 := ((Fw514.other W517 (Or.inl (Ne.symm n0_arr))).keep K526q (fun q => ne_p0_r_486 (List.mem_singleton.mp q)))
  obtain ⟨T548, X548, e548, st548⟩ := getF X546 hx hZ hown (host := "") (Or.inl (hw _ (List.mem_of_getElem? (i := 15) rfl))) Via.refl e546 F549 (g := (mkF m 178 #[.val (.ref p0), .val (.ref p1), .val (.ref b478), .val (.ref b482), .val (.ref r_486), .val (.ref o1), .unset] [(.ref p0), (.ref p0), (.int x1), (.ref arr)])) rfl rfl (hb hby d7_178)
  refine own_via (T548.setTop (mkF m 181 #[.val (.ref p0), .val (.ref p1), .val (.ref b478), .val (.ref b482), .val (.ref r_486), .val (.ref o1), .unset] [(.int (nx + (1 : Int32))), (.ref p0), (.int x1), (.ref arr)])) (fun t k => st548 t k) ?_
  refine own_via (T548.setTop (mkF m 182 #[.val (.ref p0), .val (.ref p1), .val (.ref b478), .val (.ref b482), .val (.ref r_486), .val (.ref o1), .unset] [(.int (nx + (1 : Int32))), (.ref p0), (.int (nx + (1 : Int32))), (.int x1), (.ref arr)])) (fun t k => XS.dupX1 X548.here hx rfl (hb hby d7_181) rfl rfl rfl k) ?_
  refine own_via (T548.setTop (mkF m 183 #[.val (.ref p0), .val (.ref p1), .val (.ref b478), .val (.ref b482), .val (.ref r_486), .val (.ref o1), .unset] [(.int (1 : Int32)), (.int (nx + (1 : Int32))), (.ref p0), (.int (nx + (1 : Int32))), (.int x1), (.ref arr)])) (fun t k => XS.iconst X548.here hx rfl (hb hby d7_182) k) ?_
  refine own_via (T548.setTop (mkF m 184 #[.val (.ref p0), .val (.ref p1), .val (.ref b478), .val (.ref b482), .val (.ref r_486), .val (.ref o1), .unset] [(.int ((nx + (1 : Int32)) + (1 : Int32))), (.ref p0), (.int (nx + (1 : Int32))), (.int x1), (.ref arr)])) (fun t k => XS.iadd X548.here hx rfl (hb hby d7_183) rfl k) ?_
  have F551 := (((F515.wr W514).wr W517).keep K526q)
  obtain ⟨T550, h550, X550, e550, W550, st550⟩ := putF X548 hx hZ hown (host := "") (Or.inl (hw _ (List.mem_of_getElem? (i := 15) rfl))) Via.refl e548 F549 F551 (Or.inl (hw _ (List.mem_of_getElem? (i := 16) rfl))) (hw _ (List.mem_of_getElem? (i := 2) rfl)) (ty := .int) (by decide) rfl rfl (g := (mkF m 184 #[.val (.ref p0), .val (.ref p1), .val (.ref b478), .val (.ref b482), .val (.ref r_486), .val (.ref o1), .unset] [(.int ((nx + (1 : Int32)) + (1 : Int32))), (.ref p0), (.int (nx + (1 : Int32))), (.int x1), (.ref arr)])) rfl rfl (hb hby d7_184)
  have Fw550 := F549.same W550
  have N550 := Fr.snoc X550 N546 gg_p0
  have K552 : Keep h0 h550 [p0, arr] := K532.wr W550 (Or.inl (List.mem_of_getElem? (i := 0) rfl))
  refine own_via (T550.setTop (mkF m 187 #[.val (.ref p0), .val (.ref p1), .val (.ref b478), .val (.ref b482), .val (.ref r_486), .val (.ref o1), .unset] [(.int (nx + (1 : Int32))), (.int x1), (.ref arr)])) (fun t k => st550 t k) ?_
  have F554 := ((V517.keep K526q (fun q => ne_arr_r_486 (List.mem_singleton.mp q))).other W550 n0_arr)
  obtain ⟨cl555, Ar555, S555, H555⟩ := id F554
  obtain ⟨T553, h553, X553, e553, W553, st553⟩ := stI X550 hx hZ e550 Ar555 (j := x1) (own_in S555 hx1) (g := (mkF m 187 #[.val (.ref p0), .val (.ref p1), .val (.ref b478), .val (.ref b482), .val (.ref r_486), .val (.ref o1), .unset] [(.int (nx + (1 : Int32))), (.int x1), (.ref arr)])) rfl rfl (hb hby d7_187)
  have V553 : own_A Z h553 arr .int N (own_up (own_up f x0.toInt.toNat nx) x1.toInt.toNat (nx + (1 : Int32))) := own_A.set F554 W553
  have N553 := Fr.snoc X553 N550 gg_arr
  have K556 : Keep h0 h553 [p0, arr] := K552.wr W553 (Or.inl (List.mem_of_getElem? (i := 1) rfl))
  refine own_via (T553.setTop (mkF m 188 #[.val (.ref p0), .val (.ref p1), .val (.ref b478), .val (.ref b482), .val (.ref r_486), .val (.ref o1), .unset] [])) (fun t k => st553 t k) ?_
  refine own_via (T553.setTop (mkF m 207 #[.val (.ref p0), .val (.ref p1), .val (.ref b478), .val (.ref b482), .val (.ref r_486), .val (.ref o1), .unset] [])) (fun t k => XS.goto X553.here hx rfl (pc0 := 188) (pc' := 207) rfl (hb hby d7_188) (by decide) (by decide) k) ?_
  refine own_via (T553.setTop (mkF m 24 #[.val (.ref p0), .val (.ref p1), .val (.ref b478), .val (.ref b482), .val (.ref r_486), .val (.ref o1), .unset] [])) (fun t k => XS.goto X553.here hx rfl (pc0 := 207) (pc' := 24) rfl (hb hby d7_207) (by decide) (by decide) k) ?_
  refine own_via (T553.setTop (mkF m 26 #[.val (.ref p0), .val (.ref p1), .val (.ref b478), .val (.ref b482), .val (.ref r_486), .val (.ref o1), .unset] [(.ref r_486)])) (fun t k => XS.aload X553.here hx rfl (hb hby d7_24) rfl rfl k) ?_
  have F558 := ((G526_2.other W550 (Or.inl (Ne.symm ne_p0_r_486))).other W553 (Or.inl (Ne.symm ne_arr_r_486)))
  have F559 := ((G526_1.other W550 (Or.inl (Ne.symm ne_p0_r_486))).other W553 (Or.inl (Ne.symm ne_arr_r_486)))
  have F560 := (((F524.keep K526q (fun q => ne_p1_r_486 (List.mem_singleton.mp q))).other W550 (Or.inl n0_p1)).other W553 (Or.inl n1_p1))
  have F561 := ((G526_0.wr W550).wr W553)
  obtain ⟨cq557, kq557, q557a, q557b, q557c⟩ := isOf hZ e553 F561
  obtain ⟨_, _, ⟨T557, L557, k557, n557⟩, -, X557, ⟨Lc557, hQ557, l557, y557, z557⟩, st557⟩ := X553.interfaceBack hx (xi := (⟨"java/util/Iterator", "hasNext", "()Z"⟩ : MethodName)) (y := (⟨"java/util/ArrayList$Itr", "hasNext", "()Z"⟩ : MethodName)) hown (mvT hZ (hw _ (List.mem_of_getElem? (i := 94) rfl))) (mvT hZ (hw _ (List.mem_of_getElem? (i := 95) rfl))) (mvT hZ (hw _ (List.mem_of_getElem? (i := 96) rfl))) (mvT hZ (hw _ (List.mem_of_getElem? (i := 97) rfl))) (mvT hZ (hw _ (List.mem_of_getElem? (i := 98) rfl))) (mvT hZ (hw _ (List.mem_of_getElem? (i := 99) rfl))) (mvT hZ (hw _ (List.mem_of_getElem? (i := 100) rfl))) (mvT hZ (hw _ (List.mem_of_getElem? (i := 101) rfl))) (by decide) (backOf (W := 0) (rm12c22 l Z a0 hw [] r_486 h553 n0 (Nat.le_trans Z0 K556.1) p1 F558 F559 F560) hZ (hw _ (List.mem_of_getElem? (i := 102) rfl)) (hw _ (List.mem_of_getElem? (i := 80) rfl)) (by decide) (by decide)) q557a q557b q557c (g := (mkF m 26 #[.val (.ref p0), .val (.ref p1), .val (.ref b478), .val (.ref b482), .val (.ref r_486), .val (.ref o1), .unset] [(.ref r_486)])) rfl (by rw [hml]; rfl) (Steps.refl _) (argsL := []) (rest := []) (lenOf pd_11 rfl) rfl (by show 2 * 0 + _ ≤ _; exact Nat.le_of_eq rfl) (hb hby d7_26) (fun _ _ => ⟨rfl, e553, (by decide : 3 + 0 ≤ _), (by decide : 15 + 0 ≤ _)⟩)
  dsimp only [Pt.U, Pt.locs, Pt.cells, Pt.slots] at X557 l557 y557 z557 st557 hQ557
  rw [y557, z557] at X557
  have X557 : Stand _ _ _ _ _ _ _ _ _ _ T557 L557 3 15 := X557
  obtain ⟨rfl, N557q, e557⟩ := hQ557
  have N557 : Fr n0 L557 := by rw [l557]; exact Fr.app N553 N557q
  refine own_via (T557.setTop (mkF m 31 #[.val (.ref p0), .val (.ref p1), .val (.ref b478), .val (.ref b482), .val (.ref r_486), .val (.ref o1), .unset] [(.int (0 : Int32))])) (fun t k => st557.trans k) ?_
  refine own_via (T557.setTop (mkF m 210 #[.val (.ref p0), .val (.ref p1), .val (.ref b478), .val (.ref b482), .val (.ref r_486), .val (.ref o1), .unset] [])) (fun t k => XS.ifYes X557.here hx rfl (pc0 := 31) (pc' := 210) rfl (hb hby d7_31) rfl ((if0 _ _).trans (teq (by decide)).1) (by decide) (by decide) k) ?_
  refine own_via (T557.setTop (mkF m 211 #[.val (.ref p0), .val (.ref p1), .val (.ref b478), .val (.ref b482), .val (.ref r_486), .val (.ref o1), .unset] [(.ref b482)])) (fun t k => XS.aloadN X557.here hx rfl (hb hby d7_210) rfl rfl k) ?_
  have F563 := (((((((G484_0.keep K486q).keep K492q).wr W514).wr W517).keep K526q).wr W550).wr W553)
  have F564 := (((((((G484_1.keep K486q (by simp)).keep K492q (fun q => ne_b482_r_486 (List.mem_singleton.mp q))).other W514 (Or.inl (Ne.symm ne_p0_b482))).other W517 (Or.inl (Ne.symm ne_arr_b482))).keep K526q (fun q => ne_b482_r_486 (List.mem_singleton.mp q))).other W550 (Or.inl (Ne.symm ne_p0_b482))).other W553 (Or.inl (Ne.symm ne_arr_b482)))
  have F565 := (((((((G484_2.keep K486q (by simp)).keep K492q (fun q => ne_b482_r_486 (List.mem_singleton.mp q))).other W514 (Or.inl (Ne.symm ne_p0_b482))).other W517 (Or.inl (Ne.symm ne_arr_b482))).keep K526q (fun q => ne_b482_r_486 (List.mem_singleton.mp q))).other W550 (Or.inl (Ne.symm ne_p0_b482))).other W553 (Or.inl (Ne.symm ne_arr_b482)))
  have F566 := (((((((G484_3.keep K486q (by simp)).keep K492q (fun q => ne_b482_r_486 (List.mem_singleton.mp q))).other W514 (Or.inl (Ne.symm ne_p0_b482))).other W517 (Or.inl (Ne.symm ne_arr_b482))).keep K526q (fun q => ne_b482_r_486 (List.mem_singleton.mp q))).other W550 (Or.inl (Ne.symm ne_p0_b482))).other W553 (Or.inl (Ne.symm ne_arr_b482)))
  obtain ⟨_, _, ⟨T562, L562, k562, n562⟩, -, X562, ⟨Lc562, hQ562, l562, y562, z562⟩, st562⟩ := Jvm.LawKit.callS X557 hx (y := (⟨"com/example/unweave/unweave/arith/Formula", "and", "(Ljava/util/List;)Lcom/example/unweave/unweave/arith/Formula;"⟩ : MethodName)) hown (mvT hZ (hw _ (List.mem_of_getElem? (i := 107) rfl))) (mvT hZ (hw _ (List.mem_of_getElem? (i := 108) rfl))) (mvT hZ (hw _ (List.mem_of_getElem? (i := 109) rfl))) (mvT hZ (hw _ (List.mem_of_getElem? (i := 110) rfl))) (by decide) (backOf (W := 0) (rm13 l Z a0 hw [] b482 h553 n0 (Nat.le_trans Z0 K556.1) (0 : Int32) dA tA fA F563 F564 F565 F566 (own_stakeepW P8 hNS K556) (own_stakeepW P9 hNS K556)) hZ (hw _ (List.mem_of_getElem? (i := 110) rfl)) (hw _ (List.mem_of_getElem? (i := 109) rfl)) (by decide) (by decide)) (g := (mkF m 211 #[.val (.ref p0), .val (.ref p1), .val (.ref b478), .val (.ref b482), .val (.ref r_486), .val (.ref o1), .unset] [(.ref b482)])) rfl (by rw [hml]; rfl) (argsL := [(.ref b482)]) (rest := []) (lenOf pd_14 rfl) rfl (by show 2 * 0 + _ ≤ _; exact Nat.le_of_eq rfl) (hb hby d7_211) (fun _ _ => ⟨rfl, e557, (by decide : 3 + 3 ≤ _), (by decide : 15 + 17 ≤ _)⟩)
  dsimp only [Pt.U, Pt.locs, Pt.cells, Pt.slots] at X562 l562 y562 z562 st562 hQ562
  rw [y562, z562] at X562
  have X562 : Stand _ _ _ _ _ _ _ _ _ _ T562 L562 6 32 := X562
  obtain ⟨h562, e562⟩ : ∃ h, T562.heap = h := ⟨_, rfl⟩
  rw [e562] at hQ562
  obtain ⟨rfl, N562q, K562q, G562_0⟩ := hQ562
  have N562 : Fr n0 L562 := by rw [l562]; exact Fr.app N557 N562q
  have K567 : Keep h0 h562 [p0, arr] := K556.trans K562q (fun x hx => nomatch hx)
  refine own_via (T562.setTop (mkF m 214 #[.val (.ref p0), .val (.ref p1), .val (.ref b478), .val (.ref b482), .val (.ref r_486), .val (.ref o1), .unset] [(.ref tA)])) (fun t k => st562 t k) ?_
  refine own_leave X562 Bd.notSynchronized (v := some (.ref tA)) (fun h => by rw [Bd.returns] at h; cases h) (fun fs hr => retOut X562 hx Bd.returns rfl (Or.inr (Or.inr (Or.inr (Or.inr ⟨rfl, rfl, rfl⟩)))) (hb hby d7_214) hr) ?_ (by decide) (by decide)
  have F568 := (((F551.wr W550).wr W553).keep K562q)
  have F569 := (((F545.other W550 (Or.inr (slot_ne (Or.inr (hw _ (List.mem_of_getElem? (i := 14) rfl))) (Or.inl (hw _ (List.mem_of_getElem? (i := 16) rfl))) (by decide) (t := (.array .int)) (t' := .int) (by decide) (by decide)))).other W553 (Or.inl (Ne.symm n0_arr))).keep K562q (by simp))
  have F570 := ((Fw550.other W553 (Or.inl (Ne.symm n0_arr))).keep K562q (by simp))
  have F571 := (V553.keep K562q (by simp))
  show (own_Q7e2 Z p0 p1 arr nx N f mc el tA fA dA o0 o1 kA swA sw x0 x1 h0 n0) _ T562.heap _
  rw [e562]
  exact ⟨rfl, N562, K567, F568, F569, F570, F571⟩
def own_Q0 (n0 : Nat) (v : Option Value) (h : Heap) (L : List Loc) : Prop := v = some (.int 1) ∧ Fr n0 L
theorem pd_18 : parseMethodDescriptor "(I)V" = some ⟨[.int], none⟩ := by decide +kernel
theorem pd_19 : parseMethodDescriptor "(I)Z" = some ⟨[.int], some .boolean⟩ := by decide +kernel
theorem pd_20 : parseMethodDescriptor "(I)Lcom/example/unweave/unweave/abstraction/Operation;" = some ⟨[.int], some (.object "com/example/unweave/unweave/abstraction/Operation")⟩ := by decide +kernel
theorem pd_21 : parseMethodDescriptor "(Ljava/lang/Object;)Z" = some ⟨[(.object "java/lang/Object")], some .boolean⟩ := by decide +kernel
theorem pn_com_example_unweave_unweave_abstraction_PathEncodingIsChangedPinLaw : plainName "com/example/unweave/unweave/abstraction/PathEncodingIsChangedPinLaw" = true := by first | (simp [plainName, overriddenIn]; done) | decide +kernel
theorem ef_0 (m : MethodId) (p0 : Int32) (p1 : Int32) (p2 : Int32) (p3 : Int32) (p4 : Int32) : entryFrame m #[(.int p0), (.int p1), (.int p2), (.int p3), (.int p4)] maxLocals = mkF m 0 #[.val (.int p0), .val (.int p1), .val (.int p2), .val (.int p3), .val (.int p4), .unset, .unset, .unset, .unset, .unset, .unset, .unset, .unset, .unset, .unset, .unset] [] := by first | (simp [entryFrame, mkF, argsToLocals, Value.category, maxLocals]; done) | rfl
set_option maxRecDepth 65536 in
set_option maxHeartbeats 40000000 in
theorem rm0 (l : Launch) (Z : State) (a0 : Array Value) (hw : ∀ d ∈ tables_1, d.before a0 Z = true) (ws : List Jvm.Cond) (p0 : Int32) (p1 : Int32) (p2 : Int32) (p3 : Int32) (p4 : Int32) (h0 : Heap) (n0 : Nat) (Z0 : n0 ≤ h0.size) (dA tA fA kA swA : Addr) (sw : Nat → Int32) (hsw : sw 2 = 3) (Q0 : Sta Z h0 "java/util/ArrayList" "DEFAULTCAPACITY_EMPTY_ELEMENTDATA" "[Ljava/lang/Object;" (.ref dA)) (Q1 : own_Ob Z h0 dA 0 []) (Q2 : Sta Z h0 "com/example/unweave/unweave/arith/Formula" "TRUE" "Lcom/example/unweave/unweave/arith/Formula;" (.ref tA)) (Q3 : Sta Z h0 "com/example/unweave/unweave/arith/Formula" "FALSE" "Lcom/example/unweave/unweave/arith/Formula;" (.ref fA)) (Q4 : Sta Z h0 "com/example/unweave/unweave/abstraction/Operation$EKind" "HAVOC" "Lcom/example/unweave/unweave/abstraction/Operation$EKind;" (.ref kA)) (Q5 : Exa Z h0 kA "com/example/unweave/unweave/abstraction/Operation$EKind") (Q6 : Fld Z h0 kA "java/lang/Enum" "ordinal" "I" (.int (2 : Int32))) (Q7 : Sta Z h0 "com/example/unweave/unweave/abstraction/PathEncoding$1" "$SwitchMap$com$example$unweave$unweave$abstraction$Operation$EKind" "[I" (.ref swA)) (Q8 : own_A Z h0 swA .int 3 sw) :
    MetFree l x (head1 (Jvm.Cond.code x code maxLocals ret :: ws) room_1) (fun a U => a = #[(.int p0), (.int p1), (.int p2), (.int p3), (.int p4)] ∧ Z.Warmed39 U.vm ∧ U.heap = h0) (fun _ _ _ _ _ => True) (fun _ U o U' => ∃ v L, o = .returned v ∧ (own_Q0 n0) v U'.heap L ∧ FrameEnd U o U' L room_1.cells room_1.slots) := by
  refine MetFree.of_bodySF (plainFor_of_name pn_com_example_unweave_unweave_abstraction_PathEncodingIsChangedPinLaw) hisR ?_
  intro p e s m args below meth c s₁ Bd hml0 hP hK
  obtain ⟨rfl, hZ, hh⟩ := hP
  have hx := Bd.exec
  have hby := Bd.bytes
  have hml : c.maxLocals = 16 := hml0
  have hown : s.vm.findClass "com/example/unweave/unweave/abstraction/PathEncodingIsChangedPinLaw" = some m.cls := findClass_of_methodNamed Bd.named
  have hnm := (name_of_methodNamed Bd.named Bd.method).1
  have X0 : Stand p l e room_1 s m #[(.int p0), (.int p1), (.int p2), (.int p3), (.int p4)] below meth c s₁ [] 0 0 := Stand.of_body Bd
  have e0 : s₁.heap = h0 := by rw [← hh, Bd.state]; rfl
  have N0 := Fr.nil n0
  refine own_body (QQ := (own_Q0 n0)) (ef_0 m p0 p1 p2 p3 p4) ?_
  refine own_via (s₁.setTop (mkF m 1 #[.val (.int p0), .val (.int p1), .val (.int p2), .val (.int p3), .val (.int p4), .unset, .unset, .unset, .unset, .unset, .unset, .unset, .unset, .unset, .unset, .unset] [(.int (1 : Int32))])) (fun t k => XS.iconst X0.here hx rfl (hb hby at_0) k) ?_
  refine own_via (s₁.setTop (mkF m 2 #[.val (.int p0), .val (.int p1), .val (.int p2), .val (.int p3), .val (.int p4), .unset, .unset, .unset, .unset, .unset, .unset, .unset, .unset, .unset, .unset, .unset] [(.int p0), (.int (1 : Int32))])) (fun t k => XS.iloadN X0.here hx rfl (hb hby at_1) rfl  k) ?_
  refine own_via (s₁.setTop (mkF m 3 #[.val (.int p0), .val (.int p1), .val (.int p2), .val (.int p3), .val (.int p4), .unset, .unset, .unset, .unset, .unset, .unset, .unset, .unset, .unset, .unset, .unset] [(.int (3 : Int32)), (.int p0), (.int (1 : Int32))])) (fun t k => XS.iconst X0.here hx rfl (hb hby at_2) k) ?_
  refine own_via (s₁.setTop (mkF m 4 #[.val (.int p0), .val (.int p1), .val (.int p2), .val (.int p3), .val (.int p4), .unset, .unset, .unset, .unset, .unset, .unset, .unset, .unset, .unset, .unset, .unset] [(.int (p0 &&& (3 : Int32))), (.int (1 : Int32))])) (fun t k => XS.iand X0.here hx rfl (hb hby at_3) rfl k) ?_
  refine own_via (s₁.setTop (mkF m 5 #[.val (.int p0), .val (.int p1), .val (.int p2), .val (.int p3), .val (.int p4), .unset, .unset, .unset, .unset, .unset, .unset, .unset, .unset, .unset, .unset, .unset] [(.int ((1 : Int32) + (p0 &&& (3 : Int32))))])) (fun t k => XS.iadd X0.here hx rfl (hb hby at_4) rfl k) ?_
  obtain ⟨zn, hzn⟩ : ∃ z : Int32, z = ((1 : Int32) + (p0 &&& (3 : Int32))) := ⟨_, rfl⟩
  refine own_via (s₁.setTop (mkF m 7 #[.val (.int p0), .val (.int p1), .val (.int p2), .val (.int p3), .val (.int p4), .val (.int zn), .unset, .unset, .unset, .unset, .unset, .unset, .unset, .unset, .unset, .unset] [])) (fun t k => XS.istore X0.here hx rfl (hb hby at_5) rfl (l' := #[.val (.int p0), .val (.int p1), .val (.int p2), .val (.int p3), .val (.int p4), .val (.int zn), .unset, .unset, .unset, .unset, .unset, .unset, .unset, .unset, .unset, .unset]) (by rw [hzn]; rfl) k) ?_
  refine own_via (s₁.setTop (mkF m 8 #[.val (.int p0), .val (.int p1), .val (.int p2), .val (.int p3), .val (.int p4), .val (.int zn), .unset, .unset, .unset, .unset, .unset, .unset, .unset, .unset, .unset, .unset] [(.int p2)])) (fun t k => XS.iloadN X0.here hx rfl (hb hby at_7) rfl  k) ?_
  refine own_via (s₁.setTop (mkF m 10 #[.val (.int p0), .val (.int p1), .val (.int p2), .val (.int p3), .val (.int p4), .val (.int zn), .unset, .unset, .unset, .unset, .unset, .unset, .unset, .unset, .unset, .unset] [(.int (2147483647 : Int32)), (.int p2)])) (fun t k => X0.ldcInt hx hown (mvT hZ (hw _ (List.mem_of_getElem? (i := 0) rfl))) (g := (mkF m 8 #[.val (.int p0), .val (.int p1), .val (.int p2), .val (.int p3), .val (.int p4), .val (.int zn), .unset, .unset, .unset, .unset, .unset, .unset, .unset, .unset, .unset, .unset] [(.int p2)])) rfl (hb hby at_8) _ k) ?_
  refine own_via (s₁.setTop (mkF m 11 #[.val (.int p0), .val (.int p1), .val (.int p2), .val (.int p3), .val (.int p4), .val (.int zn), .unset, .unset, .unset, .unset, .unset, .unset, .unset, .unset, .unset, .unset] [(.int (p2 &&& (2147483647 : Int32)))])) (fun t k => XS.iand X0.here hx rfl (hb hby at_10) rfl k) ?_
  refine own_via (s₁.setTop (mkF m 13 #[.val (.int p0), .val (.int p1), .val (.int p2), .val (.int p3), .val (.int p4), .val (.int zn), .unset, .unset, .unset, .unset, .unset, .unset, .unset, .unset, .unset, .unset] [(.int zn), (.int (p2 &&& (2147483647 : Int32)))])) (fun t k => XS.iload X0.here hx rfl (hb hby at_11) rfl  k) ?_
  refine own_via (s₁.setTop (mkF m 14 #[.val (.int p0), .val (.int p1), .val (.int p2), .val (.int p3), .val (.int p4), .val (.int zn), .unset, .unset, .unset, .unset, .unset, .unset, .unset, .unset, .unset, .unset] [(.int ((p2 &&& (2147483647 : Int32)) % zn))])) (fun t k => Jvm.RoadKit.iremM X0 hx rfl (hb hby at_13) rfl (own_nz1 hzn) k) ?_
  obtain ⟨zk, hzk⟩ : ∃ z : Int32, z = ((p2 &&& (2147483647 : Int32)) % zn) := ⟨_, rfl⟩
  refine own_via (s₁.setTop (mkF m 16 #[.val (.int p0), .val (.int p1), .val (.int p2), .val (.int p3), .val (.int p4), .val (.int zn), .val (.int zk), .unset, .unset, .unset, .unset, .unset, .unset, .unset, .unset, .unset] [])) (fun t k => XS.istore X0.here hx rfl (hb hby at_14) rfl (l' := #[.val (.int p0), .val (.int p1), .val (.int p2), .val (.int p3), .val (.int p4), .val (.int zn), .val (.int zk), .unset, .unset, .unset, .unset, .unset, .unset, .unset, .unset, .unset]) (by rw [hzk]; rfl) k) ?_
  refine own_via (s₁.setTop (mkF m 17 #[.val (.int p0), .val (.int p1), .val (.int p2), .val (.int p3), .val (.int p4), .val (.int zn), .val (.int zk), .unset, .unset, .unset, .unset, .unset, .unset, .unset, .unset, .unset] [(.int p1)])) (fun t k => XS.iloadN X0.here hx rfl (hb hby at_16) rfl  k) ?_
  refine own_via (s₁.setTop (mkF m 19 #[.val (.int p0), .val (.int p1), .val (.int p2), .val (.int p3), .val (.int p4), .val (.int zn), .val (.int zk), .unset, .unset, .unset, .unset, .unset, .unset, .unset, .unset, .unset] [(.int (2147483647 : Int32)), (.int p1)])) (fun t k => X0.ldcInt hx hown (mvT hZ (hw _ (List.mem_of_getElem? (i := 0) rfl))) (g := (mkF m 17 #[.val (.int p0), .val (.int p1), .val (.int p2), .val (.int p3), .val (.int p4), .val (.int zn), .val (.int zk), .unset, .unset, .unset, .unset, .unset, .unset, .unset, .unset, .unset] [(.int p1)])) rfl (hb hby at_17) _ k) ?_
  refine own_via (s₁.setTop (mkF m 20 #[.val (.int p0), .val (.int p1), .val (.int p2), .val (.int p3), .val (.int p4), .val (.int zn), .val (.int zk), .unset, .unset, .unset, .unset, .unset, .unset, .unset, .unset, .unset] [(.int (p1 &&& (2147483647 : Int32)))])) (fun t k => XS.iand X0.here hx rfl (hb hby at_19) rfl k) ?_
  refine own_via (s₁.setTop (mkF m 22 #[.val (.int p0), .val (.int p1), .val (.int p2), .val (.int p3), .val (.int p4), .val (.int zn), .val (.int zk), .unset, .unset, .unset, .unset, .unset, .unset, .unset, .unset, .unset] [(.int zn), (.int (p1 &&& (2147483647 : Int32)))])) (fun t k => XS.iload X0.here hx rfl (hb hby at_20) rfl  k) ?_
  refine own_via (s₁.setTop (mkF m 23 #[.val (.int p0), .val (.int p1), .val (.int p2), .val (.int p3), .val (.int p4), .val (.int zn), .val (.int zk), .unset, .unset, .unset, .unset, .unset, .unset, .unset, .unset, .unset] [(.int ((p1 &&& (2147483647 : Int32)) % zn))])) (fun t k => Jvm.RoadKit.iremM X0 hx rfl (hb hby at_22) rfl (own_nz1 hzn) k) ?_
  obtain ⟨zh1, hzh1⟩ : ∃ z : Int32, z = ((p1 &&& (2147483647 : Int32)) % zn) := ⟨_, rfl⟩
  refine own_via (s₁.setTop (mkF m 25 #[.val (.int p0), .val (.int p1), .val (.int p2), .val (.int p3), .val (.int p4), .val (.int zn), .val (.int zk), .val (.int zh1), .unset, .unset, .unset, .unset, .unset, .unset, .unset, .unset] [])) (fun t k => XS.istore X0.here hx rfl (hb hby at_23) rfl (l' := #[.val (.int p0), .val (.int p1), .val (.int p2), .val (.int p3), .val (.int p4), .val (.int zn), .val (.int zk), .val (.int zh1), .unset, .unset, .unset, .unset, .unset, .unset, .unset, .unset]) (by rw [hzh1]; rfl) k) ?_
  refine own_via (s₁.setTop (mkF m 26 #[.val (.int p0), .val (.int p1), .val (.int p2), .val (.int p3), .val (.int p4), .val (.int zn), .val (.int zk), .val (.int zh1), .unset, .unset, .unset, .unset, .unset, .unset, .unset, .unset] [(.int p3)])) (fun t k => XS.iloadN X0.here hx rfl (hb hby at_25) rfl  k) ?_
  refine own_via (s₁.setTop (mkF m 28 #[.val (.int p0), .val (.int p1), .val (.int p2), .val (.int p3), .val (.int p4), .val (.int zn), .val (.int zk), .val (.int zh1), .unset, .unset, .unset, .unset, .unset, .unset, .unset, .unset] [(.int (2147483647 : Int32)), (.int p3)])) (fun t k => X0.ldcInt hx hown (mvT hZ (hw _ (List.mem_of_getElem? (i := 0) rfl))) (g := (mkF m 26 #[.val (.int p0), .val (.int p1), .val (.int p2), .val (.int p3), .val (.int p4), .val (.int zn), .val (.int zk), .val (.int zh1), .unset, .unset, .unset, .unset, .unset, .unset, .unset, .unset] [(.int p3)])) rfl (hb hby at_26) _ k) ?_
  refine own_via (s₁.setTop (mkF m 29 #[.val (.int p0), .val (.int p1), .val (.int p2), .val (.int p3), .val (.int p4), .val (.int zn), .val (.int zk), .val (.int zh1), .unset, .unset, .unset, .unset, .unset, .unset, .unset, .unset] [(.int (p3 &&& (2147483647 : Int32)))])) (fun t k => XS.iand X0.here hx rfl (hb hby at_28) rfl k) ?_
  refine own_via (s₁.setTop (mkF m 31 #[.val (.int p0), .val (.int p1), .val (.int p2), .val (.int p3), .val (.int p4), .val (.int zn), .val (.int zk), .val (.int zh1), .unset, .unset, .unset, .unset, .unset, .unset, .unset, .unset] [(.int zn), (.int (p3 &&& (2147483647 : Int32)))])) (fun t k => XS.iload X0.here hx rfl (hb hby at_29) rfl  k) ?_
  refine own_via (s₁.setTop (mkF m 32 #[.val (.int p0), .val (.int p1), .val (.int p2), .val (.int p3), .val (.int p4), .val (.int zn), .val (.int zk), .val (.int zh1), .unset, .unset, .unset, .unset, .unset, .unset, .unset, .unset] [(.int ((p3 &&& (2147483647 : Int32)) % zn))])) (fun t k => Jvm.RoadKit.iremM X0 hx rfl (hb hby at_31) rfl (own_nz1 hzn) k) ?_
  obtain ⟨zh2, hzh2⟩ : ∃ z : Int32, z = ((p3 &&& (2147483647 : Int32)) % zn) := ⟨_, rfl⟩
  refine own_via (s₁.setTop (mkF m 34 #[.val (.int p0), .val (.int p1), .val (.int p2), .val (.int p3), .val (.int p4), .val (.int zn), .val (.int zk), .val (.int zh1), .val (.int zh2), .unset, .unset, .unset, .unset, .unset, .unset, .unset] [])) (fun t k => XS.istore X0.here hx rfl (hb hby at_32) rfl (l' := #[.val (.int p0), .val (.int p1), .val (.int p2), .val (.int p3), .val (.int p4), .val (.int zn), .val (.int zk), .val (.int zh1), .val (.int zh2), .unset, .unset, .unset, .unset, .unset, .unset, .unset]) (by rw [hzh2]; rfl) k) ?_
  refine own_via (s₁.setTop (mkF m 36 #[.val (.int p0), .val (.int p1), .val (.int p2), .val (.int p3), .val (.int p4), .val (.int zn), .val (.int zk), .val (.int zh1), .val (.int zh2), .unset, .unset, .unset, .unset, .unset, .unset, .unset] [(.int p4)])) (fun t k => XS.iload X0.here hx rfl (hb hby at_34) rfl  k) ?_
  refine own_via (s₁.setTop (mkF m 37 #[.val (.int p0), .val (.int p1), .val (.int p2), .val (.int p3), .val (.int p4), .val (.int zn), .val (.int zk), .val (.int zh1), .val (.int zh2), .unset, .unset, .unset, .unset, .unset, .unset, .unset] [(.int (3 : Int32)), (.int p4)])) (fun t k => XS.iconst X0.here hx rfl (hb hby at_36) k) ?_
  refine own_via (s₁.setTop (mkF m 38 #[.val (.int p0), .val (.int p1), .val (.int p2), .val (.int p3), .val (.int p4), .val (.int zn), .val (.int zk), .val (.int zh1), .val (.int zh2), .unset, .unset, .unset, .unset, .unset, .unset, .unset] [(.int (p4 &&& (3 : Int32)))])) (fun t k => XS.iand X0.here hx rfl (hb hby at_37) rfl k) ?_
  obtain ⟨zm, hzm⟩ : ∃ z : Int32, z = (p4 &&& (3 : Int32)) := ⟨_, rfl⟩
  refine own_via (s₁.setTop (mkF m 40 #[.val (.int p0), .val (.int p1), .val (.int p2), .val (.int p3), .val (.int p4), .val (.int zn), .val (.int zk), .val (.int zh1), .val (.int zh2), .val (.int zm), .unset, .unset, .unset, .unset, .unset, .unset] [])) (fun t k => XS.istore X0.here hx rfl (hb hby at_38) rfl (l' := #[.val (.int p0), .val (.int p1), .val (.int p2), .val (.int p3), .val (.int p4), .val (.int zn), .val (.int zk), .val (.int zh1), .val (.int zh2), .val (.int zm), .unset, .unset, .unset, .unset, .unset, .unset]) (by rw [hzm]; rfl) k) ?_
  obtain ⟨T572, h572, X572, e572, E572, A572, D572, -, st572⟩ := newO X0 hx hZ hown (hw _ (List.mem_of_getElem? (i := 1) rfl)) (hw _ (List.mem_of_getElem? (i := 2) rfl)) (hw _ (List.mem_of_getElem? (i := 3) rfl)) e0 (g := (mkF m 40 #[.val (.int p0), .val (.int p1), .val (.int p2), .val (.int p3), .val (.int p4), .val (.int zn), .val (.int zk), .val (.int zh1), .val (.int zh2), .val (.int zm), .unset, .unset, .unset, .unset, .unset, .unset] [])) rfl (hb hby at_40) (by decide) (by decide)
  obtain ⟨b572, g572⟩ : ∃ z, z = h0.size := ⟨_, rfl⟩
  rw [← g572] at A572 D572 st572
  have gg_b572 : n0 ≤ b572 := Nat.le_trans (Nat.le_trans Z0 (Keep.refl h0 []).1) (Nat.le_of_eq g572.symm)
  have sz_b572 : h0.size ≤ b572 := Nat.le_trans (Keep.refl h0 []).1 (Nat.le_of_eq g572.symm)
  have ne_dA_b572 : dA ≠ b572 := Nat.ne_of_lt (Nat.lt_of_lt_of_le Q1.lt (Nat.le_of_eq g572.symm))
  have ne_kA_b572 : kA ≠ b572 := Nat.ne_of_lt (Nat.lt_of_lt_of_le Q5.lt (Nat.le_of_eq g572.symm))
  have ne_swA_b572 : swA ≠ b572 := Nat.ne_of_lt (Nat.lt_of_lt_of_le Q8.lt (Nat.le_of_eq g572.symm))
  have F_m_nVariables_b572 : Fld Z h572 b572 "com/example/unweave/unweave/abstraction/PathEncoding" "m_nVariables" "I" (.int (0 : Int32)) := D572 (Or.inr (hw _ (List.mem_of_getElem? (i := 11) rfl))) (ty := .int) (by decide)
  have F_m_aCurrent_b572 : Fld Z h572 b572 "com/example/unweave/unweave/abstraction/PathEncoding" "m_aCurrent" "[I" .null := D572 (Or.inr (hw _ (List.mem_of_getElem? (i := 14) rfl))) (ty := (.array .int)) (by decide)
  have F_m_nNext_b572 : Fld Z h572 b572 "com/example/unweave/unweave/abstraction/PathEncoding" "m_nNext" "I" (.int (0 : Int32)) := D572 (Or.inl (hw _ (List.mem_of_getElem? (i := 16) rfl))) (ty := .int) (by decide)
  have K573 : Keep h0 h572 [] := (Keep.refl h0 []).ext E572
  refine own_via (T572.setTop (mkF m 43 #[.val (.int p0), .val (.int p1), .val (.int p2), .val (.int p3), .val (.int p4), .val (.int zn), .val (.int zk), .val (.int zh1), .val (.int zh2), .val (.int zm), .unset, .unset, .unset, .unset, .unset, .unset] [(.ref b572)])) (fun t k => st572 t k) ?_
  refine own_via (T572.setTop (mkF m 44 #[.val (.int p0), .val (.int p1), .val (.int p2), .val (.int p3), .val (.int p4), .val (.int zn), .val (.int zk), .val (.int zh1), .val (.int zh2), .val (.int zm), .unset, .unset, .unset, .unset, .unset, .unset] [(.ref b572), (.ref b572)])) (fun t k => XS.dup X572.here hx rfl (hb hby at_43) rfl rfl k) ?_
  refine own_via (T572.setTop (mkF m 46 #[.val (.int p0), .val (.int p1), .val (.int p2), .val (.int p3), .val (.int p4), .val (.int zn), .val (.int zk), .val (.int zh1), .val (.int zh2), .val (.int zm), .unset, .unset, .unset, .unset, .unset, .unset] [(.int zn), (.ref b572), (.ref b572)])) (fun t k => XS.iload X572.here hx rfl (hb hby at_44) rfl  k) ?_
  obtain ⟨_, _, ⟨T574, L574, k574, n574⟩, -, X574, ⟨Lc574, hQ574, l574, y574, z574⟩, st574⟩ := X572.specialBack hx (y := (⟨"com/example/unweave/unweave/abstraction/PathEncoding", "<init>", "(I)V"⟩ : MethodName)) rfl hown (mvT hZ (hw _ (List.mem_of_getElem? (i := 4) rfl))) (mvT hZ (hw _ (List.mem_of_getElem? (i := 5) rfl))) (mvT hZ (hw _ (List.mem_of_getElem? (i := 6) rfl))) (by decide) (backOf (W := 1) (rm1 l Z a0 hw [] b572 zn h572 n0 (Nat.le_trans Z0 K573.1) A572 F_m_aCurrent_b572 F_m_nNext_b572 F_m_nVariables_b572 gg_b572 (own_n hzn).1 (own_n hzn).2) hZ (hw _ (List.mem_of_getElem? (i := 6) rfl)) (hw _ (List.mem_of_getElem? (i := 3) rfl)) (by decide) (by decide)) (g := (mkF m 46 #[.val (.int p0), .val (.int p1), .val (.int p2), .val (.int p3), .val (.int p4), .val (.int zn), .val (.int zk), .val (.int zh1), .val (.int zh2), .val (.int zm), .unset, .unset, .unset, .unset, .unset, .unset] [(.int zn), (.ref b572), (.ref b572)])) rfl (by rw [hml]; rfl) (Steps.refl _) (a := b572) (argsL := [(.int zn)]) (rest := [(.ref b572)]) (lenOf pd_18 rfl) rfl (by show 2 * 0 + _ ≤ _; exact Nat.le_of_eq rfl) (hb hby at_46) (fun _ _ => ⟨rfl, e572, (by decide : 1 + 1 ≤ _), (by decide : 3 + 4 ≤ _)⟩)
  dsimp only [Pt.U, Pt.locs, Pt.cells, Pt.slots] at X574 l574 y574 z574 st574 hQ574
  rw [y574, z574] at X574
  have X574 : Stand _ _ _ _ _ _ _ _ _ _ T574 L574 2 7 := X574
  obtain ⟨h574, e574⟩ : ∃ h, T574.heap = h := ⟨_, rfl⟩
  rw [e574] at hQ574
  obtain ⟨r_574, rfl, N574q, K574q, gg_r_574, sq_r_574, G574_0, G574_1, G574_2, G574_3⟩ := hQ574
  have N574 : Fr n0 L574 := by rw [l574]; exact Fr.app N0 N574q
  have sz_r_574 : h0.size ≤ r_574 := Nat.le_trans K573.1 sq_r_574
  have ne_dA_r_574 : dA ≠ r_574 := Nat.ne_of_lt (Nat.lt_of_lt_of_le (Q1.ext E572).lt sq_r_574)
  have ne_kA_r_574 : kA ≠ r_574 := Nat.ne_of_lt (Nat.lt_of_lt_of_le (Q5.ext E572).lt sq_r_574)
  have ne_swA_r_574 : swA ≠ r_574 := Nat.ne_of_lt (Nat.lt_of_lt_of_le (Q8.ext E572).lt sq_r_574)
  have ne_b572_r_574 : b572 ≠ r_574 := Nat.ne_of_lt (Nat.lt_of_lt_of_le A572.lt sq_r_574)
  have K575 : Keep h0 h574 [] := K573.trans K574q (fun x hx => (List.mem_cons.mp hx).elim (fun e => e ▸ Or.inr sz_b572) (fun hx => nomatch hx))
  obtain ⟨N576n, hN576n⟩ : ∃ z : Nat, z = zn.toNatClampNeg := ⟨_, rfl⟩
  rw [← hN576n] at G574_3
  refine own_via (T574.setTop (mkF m 49 #[.val (.int p0), .val (.int p1), .val (.int p2), .val (.int p3), .val (.int p4), .val (.int zn), .val (.int zk), .val (.int zh1), .val (.int zh2), .val (.int zm), .unset, .unset, .unset, .unset, .unset, .unset] [(.ref b572)])) (fun t k => st574.trans k) ?_
  refine own_via (T574.setTop (mkF m 51 #[.val (.int p0), .val (.int p1), .val (.int p2), .val (.int p3), .val (.int p4), .val (.int zn), .val (.int zk), .val (.int zh1), .val (.int zh2), .val (.int zm), .val (.ref b572), .unset, .unset, .unset, .unset, .unset] [])) (fun t k => XS.astore X574.here hx rfl (hb hby at_49) rfl rfl (l' := #[.val (.int p0), .val (.int p1), .val (.int p2), .val (.int p3), .val (.int p4), .val (.int zn), .val (.int zk), .val (.int zh1), .val (.int zh2), .val (.int zm), .val (.ref b572), .unset, .unset, .unset, .unset, .unset]) rfl k) ?_
  refine own_via (T574.setTop (mkF m 53 #[.val (.int p0), .val (.int p1), .val (.int p2), .val (.int p3), .val (.int p4), .val (.int zn), .val (.int zk), .val (.int zh1), .val (.int zh2), .val (.int zm), .val (.ref b572), .unset, .unset, .unset, .unset, .unset] [(.ref b572)])) (fun t k => XS.aload X574.here hx rfl (hb hby at_51) rfl rfl k) ?_
  refine own_via (T574.setTop (mkF m 55 #[.val (.int p0), .val (.int p1), .val (.int p2), .val (.int p3), .val (.int p4), .val (.int zn), .val (.int zk), .val (.int zh1), .val (.int zh2), .val (.int zm), .val (.ref b572), .unset, .unset, .unset, .unset, .unset] [(.int zk), (.ref b572)])) (fun t k => XS.iload X574.here hx rfl (hb hby at_53) rfl  k) ?_
  obtain ⟨cq577, kq577, q577a, q577b, q577c⟩ := isOf hZ e574 G574_0
  obtain ⟨_, _, ⟨T577, L577, k577, n577⟩, -, X577, ⟨Lc577, hQ577, l577, y577, z577⟩, st577⟩ := X574.virtualBack hx (y := (⟨"com/example/unweave/unweave/abstraction/PathEncoding", "isChanged", "(I)Z"⟩ : MethodName)) (z := (⟨"com/example/unweave/unweave/abstraction/PathEncoding", "isChanged", "(I)Z"⟩ : MethodName)) hown (mvT hZ (hw _ (List.mem_of_getElem? (i := 17) rfl))) (mvT hZ (hw _ (List.mem_of_getElem? (i := 18) rfl))) (notFace_of_selects (args := #[]) (mvT hZ (hw _ (List.mem_of_getElem? (i := 20) rfl)))) (mvT hZ (hw _ (List.mem_of_getElem? (i := 20) rfl))) (mvT hZ (hw _ (List.mem_of_getElem? (i := 19) rfl))) (by decide) (backOf (W := 0) (rm3 l Z a0 hw [] b572 zk h574 n0 (Nat.le_trans Z0 K575.1) r_574 N576n own_id G574_1 G574_3 (own_kb hN576n hzn hzk)) hZ (hw _ (List.mem_of_getElem? (i := 21) rfl)) (hw _ (List.mem_of_getElem? (i := 3) rfl)) (by decide) (by decide)) q577a q577c (g := (mkF m 55 #[.val (.int p0), .val (.int p1), .val (.int p2), .val (.int p3), .val (.int p4), .val (.int zn), .val (.int zk), .val (.int zh1), .val (.int zh2), .val (.int zm), .val (.ref b572), .unset, .unset, .unset, .unset, .unset] [(.int zk), (.ref b572)])) rfl (by rw [hml]; rfl) (Steps.refl _) (argsL := [(.int zk)]) (rest := []) (lenOf pd_19 rfl) rfl (by show 2 * 0 + _ ≤ _; exact Nat.le_of_eq rfl) (hb hby at_55) (fun _ _ => ⟨rfl, e574, (by decide : 2 + 0 ≤ _), (by decide : 7 + 0 ≤ _)⟩)
  dsimp only [Pt.U, Pt.locs, Pt.cells, Pt.slots] at X577 l577 y577 z577 st577 hQ577
  rw [y577, z577] at X577
  have X577 : Stand _ _ _ _ _ _ _ _ _ _ T577 L577 2 7 := X577
  obtain ⟨rfl, N577q, e577⟩ := hQ577
  have N577 : Fr n0 L577 := by rw [l577]; exact Fr.app N574 N577q
  refine own_via (T577.setTop (mkF m 58 #[.val (.int p0), .val (.int p1), .val (.int p2), .val (.int p3), .val (.int p4), .val (.int zn), .val (.int zk), .val (.int zh1), .val (.int zh2), .val (.int zm), .val (.ref b572), .unset, .unset, .unset, .unset, .unset] [(.int (own_ch zk own_id))])) (fun t k => st577.trans k) ?_
  obtain ⟨zb, hzb⟩ : ∃ z : Int32, z = (own_ch zk own_id) := ⟨_, rfl⟩
  refine own_via (T577.setTop (mkF m 60 #[.val (.int p0), .val (.int p1), .val (.int p2), .val (.int p3), .val (.int p4), .val (.int zn), .val (.int zk), .val (.int zh1), .val (.int zh2), .val (.int zm), .val (.ref b572), .val (.int zb), .unset, .unset, .unset, .unset] [])) (fun t k => XS.istore X577.here hx rfl (hb hby at_58) rfl (l' := #[.val (.int p0), .val (.int p1), .val (.int p2), .val (.int p3), .val (.int p4), .val (.int zn), .val (.int zk), .val (.int zh1), .val (.int zh2), .val (.int zm), .val (.ref b572), .val (.int zb), .unset, .unset, .unset, .unset]) (by rw [hzb]; rfl) k) ?_
  obtain ⟨T578, h578, X578, e578, E578, A578, D578, -, st578⟩ := newO X577 hx hZ hown (hw _ (List.mem_of_getElem? (i := 22) rfl)) (hw _ (List.mem_of_getElem? (i := 23) rfl)) (hw _ (List.mem_of_getElem? (i := 24) rfl)) e577 (g := (mkF m 60 #[.val (.int p0), .val (.int p1), .val (.int p2), .val (.int p3), .val (.int p4), .val (.int zn), .val (.int zk), .val (.int zh1), .val (.int zh2), .val (.int zm), .val (.ref b572), .val (.int zb), .unset, .unset, .unset, .unset] [])) rfl (hb hby at_60) (by decide) (by decide)
  obtain ⟨b578, g578⟩ : ∃ z, z = h574.size := ⟨_, rfl⟩
  rw [← g578] at A578 D578 st578
  have gg_b578 : n0 ≤ b578 := Nat.le_trans (Nat.le_trans Z0 K575.1) (Nat.le_of_eq g578.symm)
  have sz_b578 : h0.size ≤ b578 := Nat.le_trans K575.1 (Nat.le_of_eq g578.symm)
  have ne_dA_b578 : dA ≠ b578 := Nat.ne_of_lt (Nat.lt_of_lt_of_le ((Q1.ext E572).keep K574q (fun q => ne_dA_b572 (List.mem_singleton.mp q))).lt (Nat.le_of_eq g578.symm))
  have ne_kA_b578 : kA ≠ b578 := Nat.ne_of_lt (Nat.lt_of_lt_of_le ((Q5.ext E572).keep K574q).lt (Nat.le_of_eq g578.symm))
  have ne_swA_b578 : swA ≠ b578 := Nat.ne_of_lt (Nat.lt_of_lt_of_le ((Q8.ext E572).keep K574q (fun q => ne_swA_b572 (List.mem_singleton.mp q))).lt (Nat.le_of_eq g578.symm))
  have ne_b572_b578 : b572 ≠ b578 := Nat.ne_of_lt (Nat.lt_of_lt_of_le G574_0.lt (Nat.le_of_eq g578.symm))
  have ne_r_574_b578 : r_574 ≠ b578 := Nat.ne_of_lt (Nat.lt_of_lt_of_le G574_3.lt (Nat.le_of_eq g578.symm))
  have F_modCount_b578 : Fld Z h578 b578 "java/util/AbstractList" "modCount" "I" (.int (0 : Int32)) := D578 (Or.inl (hw _ (List.mem_of_getElem? (i := 42) rfl))) (ty := .int) (by decide)
  have F_elementData_b578 : Fld Z h578 b578 "java/util/ArrayList" "elementData" "[Ljava/lang/Object;" .null := D578 (Or.inl (hw _ (List.mem_of_getElem? (i := 45) rfl))) (ty := (.array (.object "java/lang/Object"))) (by decide)
  have F_size_b578 : Fld Z h578 b578 "java/util/ArrayList" "size" "I" (.int (0 : Int32)) := D578 (Or.inl (hw _ (List.mem_of_getElem? (i := 106) rfl))) (ty := .int) (by decide)
  have K579 : Keep h0 h578 [] := K575.ext E578
  refine own_via (T578.setTop (mkF m 63 #[.val (.int p0), .val (.int p1), .val (.int p2), .val (.int p3), .val (.int p4), .val (.int zn), .val (.int zk), .val (.int zh1), .val (.int zh2), .val (.int zm), .val (.ref b572), .val (.int zb), .unset, .unset, .unset, .unset] [(.ref b578)])) (fun t k => st578 t k) ?_
  refine own_via (T578.setTop (mkF m 64 #[.val (.int p0), .val (.int p1), .val (.int p2), .val (.int p3), .val (.int p4), .val (.int zn), .val (.int zk), .val (.int zh1), .val (.int zh2), .val (.int zm), .val (.ref b572), .val (.int zb), .unset, .unset, .unset, .unset] [(.ref b578), (.ref b578)])) (fun t k => XS.dup X578.here hx rfl (hb hby at_63) rfl rfl k) ?_
  obtain ⟨_, _, ⟨T580, L580, k580, n580⟩, -, X580, ⟨Lc580, hQ580, l580, y580, z580⟩, st580⟩ := X578.specialBack hx (y := (⟨"java/util/ArrayList", "<init>", "()V"⟩ : MethodName)) rfl hown (mvT hZ (hw _ (List.mem_of_getElem? (i := 25) rfl))) (mvT hZ (hw _ (List.mem_of_getElem? (i := 26) rfl))) (mvT hZ (hw _ (List.mem_of_getElem? (i := 27) rfl))) (by decide) (backOf (W := 1) (rm4 l Z a0 hw [] b578 h578 n0 (Nat.le_trans Z0 K579.1) dA A578 F_modCount_b578 F_elementData_b578 F_size_b578 (own_stakeepW (ws := []) Q0 (fun x hx => nomatch hx) K579) gg_b578) hZ (hw _ (List.mem_of_getElem? (i := 27) rfl)) (hw _ (List.mem_of_getElem? (i := 24) rfl)) (by decide) (by decide)) (g := (mkF m 64 #[.val (.int p0), .val (.int p1), .val (.int p2), .val (.int p3), .val (.int p4), .val (.int zn), .val (.int zk), .val (.int zh1), .val (.int zh2), .val (.int zm), .val (.ref b572), .val (.int zb), .unset, .unset, .unset, .unset] [(.ref b578), (.ref b578)])) rfl (by rw [hml]; rfl) (Steps.refl _) (a := b578) (argsL := []) (rest := [(.ref b578)]) (lenOf pd_0 rfl) rfl (by show 2 * 0 + _ ≤ _; exact Nat.le_of_eq rfl) (hb hby at_64) (fun _ _ => ⟨rfl, e578, (by decide : 3 + 0 ≤ _), (by decide : 10 + 0 ≤ _)⟩)
  dsimp only [Pt.U, Pt.locs, Pt.cells, Pt.slots] at X580 l580 y580 z580 st580 hQ580
  rw [y580, z580] at X580
  have X580 : Stand _ _ _ _ _ _ _ _ _ _ T580 L580 3 10 := X580
  obtain ⟨h580, e580⟩ : ∃ h, T580.heap = h := ⟨_, rfl⟩
  rw [e580] at hQ580
  obtain ⟨rfl, N580q, K580q, G580_0, G580_1, G580_2, G580_3⟩ := hQ580
  have N580 : Fr n0 L580 := by rw [l580]; exact Fr.app N577 N580q
  have K581 : Keep h0 h580 [] := K579.trans K580q (fun x hx => (List.mem_cons.mp hx).elim (fun e => e ▸ Or.inr sz_b578) (fun hx => nomatch hx))
  refine own_via (T580.setTop (mkF m 67 #[.val (.int p0), .val (.int p1), .val (.int p2), .val (.int p3), .val (.int p4), .val (.int zn), .val (.int zk), .val (.int zh1), .val (.int zh2), .val (.int zm), .val (.ref b572), .val (.int zb), .unset, .unset, .unset, .unset] [(.ref b578)])) (fun t k => st580.trans k) ?_
  refine own_via (T580.setTop (mkF m 69 #[.val (.int p0), .val (.int p1), .val (.int p2), .val (.int p3), .val (.int p4), .val (.int zn), .val (.int zk), .val (.int zh1), .val (.int zh2), .val (.int zm), .val (.ref b572), .val (.int zb), .val (.ref b578), .unset, .unset, .unset] [])) (fun t k => XS.astore X580.here hx rfl (hb hby at_67) rfl rfl (l' := #[.val (.int p0), .val (.int p1), .val (.int p2), .val (.int p3), .val (.int p4), .val (.int zn), .val (.int zk), .val (.int zh1), .val (.int zh2), .val (.int zm), .val (.ref b572), .val (.int zb), .val (.ref b578), .unset, .unset, .unset]) rfl k) ?_
  obtain ⟨T582, h582, X582, e582, E582, A582, D582, -, st582⟩ := newO X580 hx hZ hown (hw _ (List.mem_of_getElem? (i := 22) rfl)) (hw _ (List.mem_of_getElem? (i := 23) rfl)) (hw _ (List.mem_of_getElem? (i := 24) rfl)) e580 (g := (mkF m 69 #[.val (.int p0), .val (.int p1), .val (.int p2), .val (.int p3), .val (.int p4), .val (.int zn), .val (.int zk), .val (.int zh1), .val (.int zh2), .val (.int zm), .val (.ref b572), .val (.int zb), .val (.ref b578), .unset, .unset, .unset] [])) rfl (hb hby at_69) (by decide) (by decide)
  obtain ⟨b582, g582⟩ : ∃ z, z = h580.size := ⟨_, rfl⟩
  rw [← g582] at A582 D582 st582
  have gg_b582 : n0 ≤ b582 := Nat.le_trans (Nat.le_trans Z0 K581.1) (Nat.le_of_eq g582.symm)
  have sz_b582 : h0.size ≤ b582 := Nat.le_trans K581.1 (Nat.le_of_eq g582.symm)
  have ne_dA_b582 : dA ≠ b582 := Nat.ne_of_lt (Nat.lt_of_lt_of_le ((((Q1.ext E572).keep K574q (fun q => ne_dA_b572 (List.mem_singleton.mp q))).ext E578).keep K580q (fun q => ne_dA_b578 (List.mem_singleton.mp q))).lt (Nat.le_of_eq g582.symm))
  have ne_kA_b582 : kA ≠ b582 := Nat.ne_of_lt (Nat.lt_of_lt_of_le ((((Q5.ext E572).keep K574q).ext E578).keep K580q).lt (Nat.le_of_eq g582.symm))
  have ne_swA_b582 : swA ≠ b582 := Nat.ne_of_lt (Nat.lt_of_lt_of_le ((((Q8.ext E572).keep K574q (fun q => ne_swA_b572 (List.mem_singleton.mp q))).ext E578).keep K580q (fun q => ne_swA_b578 (List.mem_singleton.mp q))).lt (Nat.le_of_eq g582.symm))
  have ne_b572_b582 : b572 ≠ b582 := Nat.ne_of_lt (Nat.lt_of_lt_of_le ((G574_0.ext E578).keep K580q).lt (Nat.le_of_eq g582.symm))
  have ne_r_574_b582 : r_574 ≠ b582 := Nat.ne_of_lt (Nat.lt_of_lt_of_le ((G574_3.ext E578).keep K580q (fun q => ne_r_574_b578 (List.mem_singleton.mp q))).lt (Nat.le_of_eq g582.symm))
  have ne_b578_b582 : b578 ≠ b582 := Nat.ne_of_lt (Nat.lt_of_lt_of_le G580_0.lt (Nat.le_of_eq g582.symm))
  have F_modCount_b582 : Fld Z h582 b582 "java/util/AbstractList" "modCount" "I" (.int (0 : Int32)) := D582 (Or.inl (hw _ (List.mem_of_getElem? (i := 42) rfl))) (ty := .int) (by decide)
  have F_elementData_b582 : Fld Z h582 b582 "java/util/ArrayList" "elementData" "[Ljava/lang/Object;" .null := D582 (Or.inl (hw _ (List.mem_of_getElem? (i := 45) rfl))) (ty := (.array (.object "java/lang/Object"))) (by decide)
  have F_size_b582 : Fld Z h582 b582 "java/util/ArrayList" "size" "I" (.int (0 : Int32)) := D582 (Or.inl (hw _ (List.mem_of_getElem? (i := 106) rfl))) (ty := .int) (by decide)
  have K583 : Keep h0 h582 [] := K581.ext E582
  refine own_via (T582.setTop (mkF m 72 #[.val (.int p0), .val (.int p1), .val (.int p2), .val (.int p3), .val (.int p4), .val (.int zn), .val (.int zk), .val (.int zh1), .val (.int zh2), .val (.int zm), .val (.ref b572), .val (.int zb), .val (.ref b578), .unset, .unset, .unset] [(.ref b582)])) (fun t k => st582 t k) ?_
  refine own_via (T582.setTop (mkF m 73 #[.val (.int p0), .val (.int p1), .val (.int p2), .val (.int p3), .val (.int p4), .val (.int zn), .val (.int zk), .val (.int zh1), .val (.int zh2), .val (.int zm), .val (.ref b572), .val (.int zb), .val (.ref b578), .unset, .unset, .unset] [(.ref b582), (.ref b582)])) (fun t k => XS.dup X582.here hx rfl (hb hby at_72) rfl rfl k) ?_
  obtain ⟨_, _, ⟨T584, L584, k584, n584⟩, -, X584, ⟨Lc584, hQ584, l584, y584, z584⟩, st584⟩ := X582.specialBack hx (y := (⟨"java/util/ArrayList", "<init>", "()V"⟩ : MethodName)) rfl hown (mvT hZ (hw _ (List.mem_of_getElem? (i := 25) rfl))) (mvT hZ (hw _ (List.mem_of_getElem? (i := 26) rfl))) (mvT hZ (hw _ (List.mem_of_getElem? (i := 27) rfl))) (by decide) (backOf (W := 1) (rm4 l Z a0 hw [] b582 h582 n0 (Nat.le_trans Z0 K583.1) dA A582 F_modCount_b582 F_elementData_b582 F_size_b582 (own_stakeepW (ws := []) Q0 (fun x hx => nomatch hx) K583) gg_b582) hZ (hw _ (List.mem_of_getElem? (i := 27) rfl)) (hw _ (List.mem_of_getElem? (i := 24) rfl)) (by decide) (by decide)) (g := (mkF m 73 #[.val (.int p0), .val (.int p1), .val (.int p2), .val (.int p3), .val (.int p4), .val (.int zn), .val (.int zk), .val (.int zh1), .val (.int zh2), .val (.int zm), .val (.ref b572), .val (.int zb), .val (.ref b578), .unset, .unset, .unset] [(.ref b582), (.ref b582)])) rfl (by rw [hml]; rfl) (Steps.refl _) (a := b582) (argsL := []) (rest := [(.ref b582)]) (lenOf pd_0 rfl) rfl (by show 2 * 0 + _ ≤ _; exact Nat.le_of_eq rfl) (hb hby at_73) (fun _ _ => ⟨rfl, e582, (by decide : 4 + 0 ≤ _), (by decide : 13 + 0 ≤ _)⟩)
  dsimp only [Pt.U, Pt.locs, Pt.cells, Pt.slots] at X584 l584 y584 z584 st584 hQ584
  rw [y584, z584] at X584
  have X584 : Stand _ _ _ _ _ _ _ _ _ _ T584 L584 4 13 := X584
  obtain ⟨h584, e584⟩ : ∃ h, T584.heap = h := ⟨_, rfl⟩
  rw [e584] at hQ584
  obtain ⟨rfl, N584q, K584q, G584_0, G584_1, G584_2, G584_3⟩ := hQ584
  have N584 : Fr n0 L584 := by rw [l584]; exact Fr.app N580 N584q
  have K585 : Keep h0 h584 [] := K583.trans K584q (fun x hx => (List.mem_cons.mp hx).elim (fun e => e ▸ Or.inr sz_b582) (fun hx => nomatch hx))
  refine own_via (T584.setTop (mkF m 76 #[.val (.int p0), .val (.int p1), .val (.int p2), .val (.int p3), .val (.int p4), .val (.int zn), .val (.int zk), .val (.int zh1), .val (.int zh2), .val (.int zm), .val (.ref b572), .val (.int zb), .val (.ref b578), .unset, .unset, .unset] [(.ref b582)])) (fun t k => st584.trans k) ?_
  refine own_via (T584.setTop (mkF m 78 #[.val (.int p0), .val (.int p1), .val (.int p2), .val (.int p3), .val (.int p4), .val (.int zn), .val (.int zk), .val (.int zh1), .val (.int zh2), .val (.int zm), .val (.ref b572), .val (.int zb), .val (.ref b578), .val (.ref b582), .unset, .unset] [])) (fun t k => XS.astore X584.here hx rfl (hb hby at_76) rfl rfl (l' := #[.val (.int p0), .val (.int p1), .val (.int p2), .val (.int p3), .val (.int p4), .val (.int zn), .val (.int zk), .val (.int zh1), .val (.int zh2), .val (.int zm), .val (.ref b572), .val (.int zb), .val (.ref b578), .val (.ref b582), .unset, .unset]) rfl k) ?_
  rcases own_m4 hzm with hm | hm | hm | hm
  · subst hm
    refine own_via (T584.setTop (mkF m 80 #[.val (.int p0), .val (.int p1), .val (.int p2), .val (.int p3), .val (.int p4), .val (.int zn), .val (.int zk), .val (.int zh1), .val (.int zh2), .val (.int (0 : Int32)), .val (.ref b572), .val (.int zb), .val (.ref b578), .val (.ref b582), .unset, .unset] [(.int (0 : Int32))])) (fun t k => XS.iload X584.here hx rfl (hb hby at_78) rfl  k) ?_
    refine own_via (T584.setTop (mkF m 81 #[.val (.int p0), .val (.int p1), .val (.int p2), .val (.int p3), .val (.int p4), .val (.int zn), .val (.int zk), .val (.int zh1), .val (.int zh2), .val (.int (0 : Int32)), .val (.ref b572), .val (.int zb), .val (.ref b578), .val (.ref b582), .unset, .unset] [(.int (1 : Int32)), (.int (0 : Int32))])) (fun t k => XS.iconst X584.here hx rfl (hb hby at_80) k) ?_
    refine own_via (T584.setTop (mkF m 95 #[.val (.int p0), .val (.int p1), .val (.int p2), .val (.int p3), .val (.int p4), .val (.int zn), .val (.int zk), .val (.int zh1), .val (.int zh2), .val (.int (0 : Int32)), .val (.ref b572), .val (.int zb), .val (.ref b578), .val (.ref b582), .unset, .unset] [])) (fun t k => XS.icmpYes X584.here hx rfl (pc0 := 81) (pc' := 95) rfl (hb hby at_81) rfl (tlt (by decide)).1 (by decide) (by decide) k) ?_
    refine own_via (T584.setTop (mkF m 97 #[.val (.int p0), .val (.int p1), .val (.int p2), .val (.int p3), .val (.int p4), .val (.int zn), .val (.int zk), .val (.int zh1), .val (.int zh2), .val (.int (0 : Int32)), .val (.ref b572), .val (.int zb), .val (.ref b578), .val (.ref b582), .unset, .unset] [(.int (0 : Int32))])) (fun t k => XS.iload X584.here hx rfl (hb hby at_95) rfl  k) ?_
    refine own_via (T584.setTop (mkF m 98 #[.val (.int p0), .val (.int p1), .val (.int p2), .val (.int p3), .val (.int p4), .val (.int zn), .val (.int zk), .val (.int zh1), .val (.int zh2), .val (.int (0 : Int32)), .val (.ref b572), .val (.int zb), .val (.ref b578), .val (.ref b582), .unset, .unset] [(.int (2 : Int32)), (.int (0 : Int32))])) (fun t k => XS.iconst X584.here hx rfl (hb hby at_97) k) ?_
    refine own_via (T584.setTop (mkF m 112 #[.val (.int p0), .val (.int p1), .val (.int p2), .val (.int p3), .val (.int p4), .val (.int zn), .val (.int zk), .val (.int zh1), .val (.int zh2), .val (.int (0 : Int32)), .val (.ref b572), .val (.int zb), .val (.ref b578), .val (.ref b582), .unset, .unset] [])) (fun t k => XS.icmpYes X584.here hx rfl (pc0 := 98) (pc' := 112) rfl (hb hby at_98) rfl (feq (by decide)).2 (by decide) (by decide) k) ?_
    refine own_via (T584.setTop (mkF m 114 #[.val (.int p0), .val (.int p1), .val (.int p2), .val (.int p3), .val (.int p4), .val (.int zn), .val (.int zk), .val (.int zh1), .val (.int zh2), .val (.int (0 : Int32)), .val (.ref b572), .val (.int zb), .val (.ref b578), .val (.ref b582), .unset, .unset] [(.int (0 : Int32))])) (fun t k => XS.iload X584.here hx rfl (hb hby at_112) rfl  k) ?_
    refine own_via (T584.setTop (mkF m 115 #[.val (.int p0), .val (.int p1), .val (.int p2), .val (.int p3), .val (.int p4), .val (.int zn), .val (.int zk), .val (.int zh1), .val (.int zh2), .val (.int (0 : Int32)), .val (.ref b572), .val (.int zb), .val (.ref b578), .val (.ref b582), .unset, .unset] [(.int (3 : Int32)), (.int (0 : Int32))])) (fun t k => XS.iconst X584.here hx rfl (hb hby at_114) k) ?_
    refine own_via (T584.setTop (mkF m 129 #[.val (.int p0), .val (.int p1), .val (.int p2), .val (.int p3), .val (.int p4), .val (.int zn), .val (.int zk), .val (.int zh1), .val (.int zh2), .val (.int (0 : Int32)), .val (.ref b572), .val (.int zb), .val (.ref b578), .val (.ref b582), .unset, .unset] [])) (fun t k => XS.icmpYes X584.here hx rfl (pc0 := 115) (pc' := 129) rfl (hb hby at_115) rfl (feq (by decide)).2 (by decide) (by decide) k) ?_
    refine own_via (T584.setTop (mkF m 131 #[.val (.int p0), .val (.int p1), .val (.int p2), .val (.int p3), .val (.int p4), .val (.int zn), .val (.int zk), .val (.int zh1), .val (.int zh2), .val (.int (0 : Int32)), .val (.ref b572), .val (.int zb), .val (.ref b578), .val (.ref b582), .unset, .unset] [(.ref b572)])) (fun t k => XS.aload X584.here hx rfl (hb hby at_129) rfl rfl k) ?_
    refine own_via (T584.setTop (mkF m 133 #[.val (.int p0), .val (.int p1), .val (.int p2), .val (.int p3), .val (.int p4), .val (.int zn), .val (.int zk), .val (.int zh1), .val (.int zh2), .val (.int (0 : Int32)), .val (.ref b572), .val (.int zb), .val (.ref b578), .val (.ref b582), .unset, .unset] [(.ref b578), (.ref b572)])) (fun t k => XS.aload X584.here hx rfl (hb hby at_131) rfl rfl k) ?_
    have F587 := ((((G574_0.ext E578).keep K580q).ext E582).keep K584q)
    have F588 := ((((G574_1.ext E578).keep K580q (fun q => ne_b572_b578 (List.mem_singleton.mp q))).ext E582).keep K584q (fun q => ne_b572_b582 (List.mem_singleton.mp q)))
    have F589 := ((((G574_2.ext E578).keep K580q (fun q => ne_b572_b578 (List.mem_singleton.mp q))).ext E582).keep K584q (fun q => ne_b572_b582 (List.mem_singleton.mp q)))
    have F590 := ((((G574_3.ext E578).keep K580q (fun q => ne_r_574_b578 (List.mem_singleton.mp q))).ext E582).keep K584q (fun q => ne_r_574_b582 (List.mem_singleton.mp q)))
    have F591 := ((G580_0.ext E582).keep K584q)
    have F592 := ((G580_1.ext E582).keep K584q (fun q => ne_b578_b582 (List.mem_singleton.mp q)))
    have F593 := ((G580_2.ext E582).keep K584q (fun q => ne_b578_b582 (List.mem_singleton.mp q)))
    have F594 := ((G580_3.ext E582).keep K584q (fun q => ne_b578_b582 (List.mem_singleton.mp q)))
    obtain ⟨cq586, kq586, q586a, q586b, q586c⟩ := isOf hZ e584 F587
    obtain ⟨_, _, ⟨T586, L586, k586, n586⟩, -, X586, ⟨Lc586, hQ586, l586, y586, z586⟩, st586⟩ := X584.virtualBack hx (y := (⟨"com/example/unweave/unweave/abstraction/PathEncoding", "encode", "(Ljava/util/List;)Lcom/example/unweave/unweave/arith/Formula;"⟩ : MethodName)) (z := (⟨"com/example/unweave/unweave/abstraction/PathEncoding", "encode", "(Ljava/util/List;)Lcom/example/unweave/unweave/arith/Formula;"⟩ : MethodName)) hown (mvT hZ (hw _ (List.mem_of_getElem? (i := 46) rfl))) (mvT hZ (hw _ (List.mem_of_getElem? (i := 47) rfl))) (notFace_of_selects (args := #[]) (mvT hZ (hw _ (List.mem_of_getElem? (i := 49) rfl)))) (mvT hZ (hw _ (List.mem_of_getElem? (i := 49) rfl))) (mvT hZ (hw _ (List.mem_of_getElem? (i := 48) rfl))) (by decide) (backOf (W := 0) (rm7e0 l Z a0 hw [] b572 b578 h584 n0 (Nat.le_trans Z0 K585.1) r_574 zn N576n own_id (0 : Int32) dA tA fA dA F587 F588 F589 F590 F591 F592 F593 F594 (own_stakeepW (ws := []) Q2 (fun x hx => nomatch hx) K585) (own_stakeepW (ws := []) Q3 (fun x hx => nomatch hx) K585) (own_stakeepW (ws := []) Q0 (fun x hx => nomatch hx) K585)) hZ (hw _ (List.mem_of_getElem? (i := 50) rfl)) (hw _ (List.mem_of_getElem? (i := 3) rfl)) (by decide) (by decide)) q586a q586c (g := (mkF m 133 #[.val (.int p0), .val (.int p1), .val (.int p2), .val (.int p3), .val (.int p4), .val (.int zn), .val (.int zk), .val (.int zh1), .val (.int zh2), .val (.int (0 : Int32)), .val (.ref b572), .val (.int zb), .val (.ref b578), .val (.ref b582), .unset, .unset] [(.ref b578), (.ref b572)])) rfl (by rw [hml]; rfl) (Steps.refl _) (argsL := [(.ref b578)]) (rest := []) (lenOf pd_14 rfl) rfl (by show 2 * 0 + _ ≤ _; exact Nat.le_of_eq rfl) (hb hby at_133) (fun _ _ => ⟨rfl, e584, (by decide : 4 + 6 ≤ _), (by decide : 13 + 32 ≤ _)⟩)
    dsimp only [Pt.U, Pt.locs, Pt.cells, Pt.slots] at X586 l586 y586 z586 st586 hQ586
    rw [y586, z586] at X586
    have X586 : Stand _ _ _ _ _ _ _ _ _ _ T586 L586 10 45 := X586
    obtain ⟨h586, e586⟩ : ∃ h, T586.heap = h := ⟨_, rfl⟩
    rw [e586] at hQ586
    obtain ⟨rfl, N586q, K586q, G586_0⟩ := hQ586
    have N586 : Fr n0 L586 := by rw [l586]; exact Fr.app N584 N586q
    have K595 : Keep h0 h586 [] := K585.trans K586q (fun x hx => nomatch hx)
    refine own_via (T586.setTop (mkF m 136 #[.val (.int p0), .val (.int p1), .val (.int p2), .val (.int p3), .val (.int p4), .val (.int zn), .val (.int zk), .val (.int zh1), .val (.int zh2), .val (.int (0 : Int32)), .val (.ref b572), .val (.int zb), .val (.ref b578), .val (.ref b582), .unset, .unset] [(.ref tA)])) (fun t k => st586.trans k) ?_
    refine own_via (T586.setTop (mkF m 137 #[.val (.int p0), .val (.int p1), .val (.int p2), .val (.int p3), .val (.int p4), .val (.int zn), .val (.int zk), .val (.int zh1), .val (.int zh2), .val (.int (0 : Int32)), .val (.ref b572), .val (.int zb), .val (.ref b578), .val (.ref b582), .unset, .unset] [])) (fun t k => XS.pop X586.here hx rfl (hb hby at_136) rfl rfl k) ?_
    refine own_via (T586.setTop (mkF m 139 #[.val (.int p0), .val (.int p1), .val (.int p2), .val (.int p3), .val (.int p4), .val (.int zn), .val (.int zk), .val (.int zh1), .val (.int zh2), .val (.int (0 : Int32)), .val (.ref b572), .val (.int zb), .val (.ref b578), .val (.ref b582), .unset, .unset] [(.int (0 : Int32))])) (fun t k => XS.iload X586.here hx rfl (hb hby at_137) rfl  k) ?_
    refine own_via (T586.setTop (mkF m 140 #[.val (.int p0), .val (.int p1), .val (.int p2), .val (.int p3), .val (.int p4), .val (.int zn), .val (.int zk), .val (.int zh1), .val (.int zh2), .val (.int (0 : Int32)), .val (.ref b572), .val (.int zb), .val (.ref b578), .val (.ref b582), .unset, .unset] [(.int (3 : Int32)), (.int (0 : Int32))])) (fun t k => XS.iconst X586.here hx rfl (hb hby at_139) k) ?_
    refine own_via (T586.setTop (mkF m 151 #[.val (.int p0), .val (.int p1), .val (.int p2), .val (.int p3), .val (.int p4), .val (.int zn), .val (.int zk), .val (.int zh1), .val (.int zh2), .val (.int (0 : Int32)), .val (.ref b572), .val (.int zb), .val (.ref b578), .val (.ref b582), .unset, .unset] [])) (fun t k => XS.icmpYes X586.here hx rfl (pc0 := 140) (pc' := 151) rfl (hb hby at_140) rfl (feq (by decide)).2 (by decide) (by decide) k) ?_
    refine own_via (T586.setTop (mkF m 153 #[.val (.int p0), .val (.int p1), .val (.int p2), .val (.int p3), .val (.int p4), .val (.int zn), .val (.int zk), .val (.int zh1), .val (.int zh2), .val (.int (0 : Int32)), .val (.ref b572), .val (.int zb), .val (.ref b578), .val (.ref b582), .unset, .unset] [(.ref b572)])) (fun t k => XS.aload X586.here hx rfl (hb hby at_151) rfl rfl k) ?_
    refine own_via (T586.setTop (mkF m 155 #[.val (.int p0), .val (.int p1), .val (.int p2), .val (.int p3), .val (.int p4), .val (.int zn), .val (.int zk), .val (.int zh1), .val (.int zh2), .val (.int (0 : Int32)), .val (.ref b572), .val (.int zb), .val (.ref b578), .val (.ref b582), .unset, .unset] [(.int zk), (.ref b572)])) (fun t k => XS.iload X586.here hx rfl (hb hby at_153) rfl  k) ?_
    have F597 := (F588.keep K586q (by simp))
    have F598 := (F590.keep K586q (by simp))
    obtain ⟨cq596, kq596, q596a, q596b, q596c⟩ := isOf hZ e586 G586_0
    obtain ⟨_, _, ⟨T596, L596, k596, n596⟩, -, X596, ⟨Lc596, hQ596, l596, y596, z596⟩, st596⟩ := X586.virtualBack hx (y := (⟨"com/example/unweave/unweave/abstraction/PathEncoding", "isChanged", "(I)Z"⟩ : MethodName)) (z := (⟨"com/example/unweave/unweave/abstraction/PathEncoding", "isChanged", "(I)Z"⟩ : MethodName)) hown (mvT hZ (hw _ (List.mem_of_getElem? (i := 17) rfl))) (mvT hZ (hw _ (List.mem_of_getElem? (i := 18) rfl))) (notFace_of_selects (args := #[]) (mvT hZ (hw _ (List.mem_of_getElem? (i := 20) rfl)))) (mvT hZ (hw _ (List.mem_of_getElem? (i := 20) rfl))) (mvT hZ (hw _ (List.mem_of_getElem? (i := 19) rfl))) (by decide) (backOf (W := 0) (rm3 l Z a0 hw [] b572 zk h586 n0 (Nat.le_trans Z0 K595.1) r_574 N576n own_id F597 F598 (own_kb hN576n hzn hzk)) hZ (hw _ (List.mem_of_getElem? (i := 21) rfl)) (hw _ (List.mem_of_getElem? (i := 3) rfl)) (by decide) (by decide)) q596a q596c (g := (mkF m 155 #[.val (.int p0), .val (.int p1), .val (.int p2), .val (.int p3), .val (.int p4), .val (.int zn), .val (.int zk), .val (.int zh1), .val (.int zh2), .val (.int (0 : Int32)), .val (.ref b572), .val (.int zb), .val (.ref b578), .val (.ref b582), .unset, .unset] [(.int zk), (.ref b572)])) rfl (by rw [hml]; rfl) (Steps.refl _) (argsL := [(.int zk)]) (rest := []) (lenOf pd_19 rfl) rfl (by show 2 * 0 + _ ≤ _; exact Nat.le_of_eq rfl) (hb hby at_155) (fun _ _ => ⟨rfl, e586, (by decide : 10 + 0 ≤ _), (by decide : 45 + 0 ≤ _)⟩)
    dsimp only [Pt.U, Pt.locs, Pt.cells, Pt.slots] at X596 l596 y596 z596 st596 hQ596
    rw [y596, z596] at X596
    have X596 : Stand _ _ _ _ _ _ _ _ _ _ T596 L596 10 45 := X596
    obtain ⟨rfl, N596q, e596⟩ := hQ596
    have N596 : Fr n0 L596 := by rw [l596]; exact Fr.app N586 N596q
    refine own_via (T596.setTop (mkF m 158 #[.val (.int p0), .val (.int p1), .val (.int p2), .val (.int p3), .val (.int p4), .val (.int zn), .val (.int zk), .val (.int zh1), .val (.int zh2), .val (.int (0 : Int32)), .val (.ref b572), .val (.int zb), .val (.ref b578), .val (.ref b582), .unset, .unset] [(.int (own_ch zk own_id))])) (fun t k => st596.trans k) ?_
    obtain ⟨za, hza⟩ : ∃ z : Int32, z = (own_ch zk own_id) := ⟨_, rfl⟩
    refine own_via (T596.setTop (mkF m 160 #[.val (.int p0), .val (.int p1), .val (.int p2), .val (.int p3), .val (.int p4), .val (.int zn), .val (.int zk), .val (.int zh1), .val (.int zh2), .val (.int (0 : Int32)), .val (.ref b572), .val (.int zb), .val (.ref b578), .val (.ref b582), .val (.int za), .unset] [])) (fun t k => XS.istore X596.here hx rfl (hb hby at_158) rfl (l' := #[.val (.int p0), .val (.int p1), .val (.int p2), .val (.int p3), .val (.int p4), .val (.int zn), .val (.int zk), .val (.int zh1), .val (.int zh2), .val (.int (0 : Int32)), .val (.ref b572), .val (.int zb), .val (.ref b578), .val (.ref b582), .val (.int za), .unset]) (by rw [hza]; rfl) k) ?_
    refine own_via (T596.setTop (mkF m 162 #[.val (.int p0), .val (.int p1), .val (.int p2), .val (.int p3), .val (.int p4), .val (.int zn), .val (.int zk), .val (.int zh1), .val (.int zh2), .val (.int (0 : Int32)), .val (.ref b572), .val (.int zb), .val (.ref b578), .val (.ref b582), .val (.int za), .unset] [(.int (0 : Int32))])) (fun t k => XS.iload X596.here hx rfl (hb hby at_160) rfl  k) ?_
    refine own_via (T596.setTop (mkF m 163 #[.val (.int p0), .val (.int p1), .val (.int p2), .val (.int p3), .val (.int p4), .val (.int zn), .val (.int zk), .val (.int zh1), .val (.int zh2), .val (.int (0 : Int32)), .val (.ref b572), .val (.int zb), .val (.ref b578), .val (.ref b582), .val (.int za), .unset] [(.int (1 : Int32)), (.int (0 : Int32))])) (fun t k => XS.iconst X596.here hx rfl (hb hby at_162) k) ?_
    refine own_via (T596.setTop (mkF m 173 #[.val (.int p0), .val (.int p1), .val (.int p2), .val (.int p3), .val (.int p4), .val (.int zn), .val (.int zk), .val (.int zh1), .val (.int zh2), .val (.int (0 : Int32)), .val (.ref b572), .val (.int zb), .val (.ref b578), .val (.ref b582), .val (.int za), .unset] [])) (fun t k => XS.icmpYes X596.here hx rfl (pc0 := 163) (pc' := 173) rfl (hb hby at_163) rfl (tlt (by decide)).1 (by decide) (by decide) k) ?_
    refine own_via (T596.setTop (mkF m 175 #[.val (.int p0), .val (.int p1), .val (.int p2), .val (.int p3), .val (.int p4), .val (.int zn), .val (.int zk), .val (.int zh1), .val (.int zh2), .val (.int (0 : Int32)), .val (.ref b572), .val (.int zb), .val (.ref b578), .val (.ref b582), .val (.int za), .unset] [(.int (0 : Int32))])) (fun t k => XS.iload X596.here hx rfl (hb hby at_173) rfl  k) ?_
    refine own_via (T596.setTop (mkF m 176 #[.val (.int p0), .val (.int p1), .val (.int p2), .val (.int p3), .val (.int p4), .val (.int zn), .val (.int zk), .val (.int zh1), .val (.int zh2), .val (.int (0 : Int32)), .val (.ref b572), .val (.int zb), .val (.ref b578), .val (.ref b582), .val (.int za), .unset] [(.int (2 : Int32)), (.int (0 : Int32))])) (fun t k => XS.iconst X596.here hx rfl (hb hby at_175) k) ?_
    refine own_via (T596.setTop (mkF m 190 #[.val (.int p0), .val (.int p1), .val (.int p2), .val (.int p3), .val (.int p4), .val (.int zn), .val (.int zk), .val (.int zh1), .val (.int zh2), .val (.int (0 : Int32)), .val (.ref b572), .val (.int zb), .val (.ref b578), .val (.ref b582), .val (.int za), .unset] [])) (fun t k => XS.icmpYes X596.here hx rfl (pc0 := 176) (pc' := 190) rfl (hb hby at_176) rfl (tlt (by decide)).1 (by decide) (by decide) k) ?_
    refine own_via (T596.setTop (mkF m 191 #[.val (.int p0), .val (.int p1), .val (.int p2), .val (.int p3), .val (.int p4), .val (.int zn), .val (.int zk), .val (.int zh1), .val (.int zh2), .val (.int (0 : Int32)), .val (.ref b572), .val (.int zb), .val (.ref b578), .val (.ref b582), .val (.int za), .unset] [(.int (0 : Int32))])) (fun t k => XS.iconst X596.here hx rfl (hb hby at_190) k) ?_
    refine own_via (T596.setTop (mkF m 193 #[.val (.int p0), .val (.int p1), .val (.int p2), .val (.int p3), .val (.int p4), .val (.int zn), .val (.int zk), .val (.int zh1), .val (.int zh2), .val (.int (0 : Int32)), .val (.ref b572), .val (.int zb), .val (.ref b578), .val (.ref b582), .val (.int za), .val (.int (0 : Int32))] [])) (fun t k => XS.istore X596.here hx rfl (hb hby at_191) rfl (l' := #[.val (.int p0), .val (.int p1), .val (.int p2), .val (.int p3), .val (.int p4), .val (.int zn), .val (.int zk), .val (.int zh1), .val (.int zh2), .val (.int (0 : Int32)), .val (.ref b572), .val (.int zb), .val (.ref b578), .val (.ref b582), .val (.int za), .val (.int (0 : Int32))]) rfl k) ?_
    have hbz : zb = 0 := hzb.trans (own_B (own_rem hzk (own_n hzn).1).1)
    have hlaw : za = (0 : Int32) := hza.trans (own_B (own_rem hzk (own_n hzn).1).1)
    refine own_via (T596.setTop (mkF m 195 #[.val (.int p0), .val (.int p1), .val (.int p2), .val (.int p3), .val (.int p4), .val (.int zn), .val (.int zk), .val (.int zh1), .val (.int zh2), .val (.int (0 : Int32)), .val (.ref b572), .val (.int zb), .val (.ref b578), .val (.ref b582), .val (.int za), .val (.int (0 : Int32))] [(.int zb)])) (fun t k => XS.iload X596.here hx rfl (hb hby at_193) rfl  k) ?_
    refine own_via (T596.setTop (mkF m 198 #[.val (.int p0), .val (.int p1), .val (.int p2), .val (.int p3), .val (.int p4), .val (.int zn), .val (.int zk), .val (.int zh1), .val (.int zh2), .val (.int (0 : Int32)), .val (.ref b572), .val (.int zb), .val (.ref b578), .val (.ref b582), .val (.int za), .val (.int (0 : Int32))] [])) (fun t k => XS.ifNo X596.here hx rfl (hb hby at_195) rfl ((if0 _ _).trans (teq hbz).2) k) ?_
    refine own_via (T596.setTop (mkF m 200 #[.val (.int p0), .val (.int p1), .val (.int p2), .val (.int p3), .val (.int p4), .val (.int zn), .val (.int zk), .val (.int zh1), .val (.int zh2), .val (.int (0 : Int32)), .val (.ref b572), .val (.int zb), .val (.ref b578), .val (.ref b582), .val (.int za), .val (.int (0 : Int32))] [(.int za)])) (fun t k => XS.iload X596.here hx rfl (hb hby at_198) rfl  k) ?_
    refine own_via (T596.setTop (mkF m 202 #[.val (.int p0), .val (.int p1), .val (.int p2), .val (.int p3), .val (.int p4), .val (.int zn), .val (.int zk), .val (.int zh1), .val (.int zh2), .val (.int (0 : Int32)), .val (.ref b572), .val (.int zb), .val (.ref b578), .val (.ref b582), .val (.int za), .val (.int (0 : Int32))] [(.int (0 : Int32)), (.int za)])) (fun t k => XS.iload X596.here hx rfl (hb hby at_200) rfl  k) ?_
    refine own_via (T596.setTop (mkF m 205 #[.val (.int p0), .val (.int p1), .val (.int p2), .val (.int p3), .val (.int p4), .val (.int zn), .val (.int zk), .val (.int zh1), .val (.int zh2), .val (.int (0 : Int32)), .val (.ref b572), .val (.int zb), .val (.ref b578), .val (.ref b582), .val (.int za), .val (.int (0 : Int32))] [])) (fun t k => XS.icmpNo X596.here hx rfl (hb hby at_202) rfl (teq hlaw).2 k) ?_
    refine own_via (T596.setTop (mkF m 206 #[.val (.int p0), .val (.int p1), .val (.int p2), .val (.int p3), .val (.int p4), .val (.int zn), .val (.int zk), .val (.int zh1), .val (.int zh2), .val (.int (0 : Int32)), .val (.ref b572), .val (.int zb), .val (.ref b578), .val (.ref b582), .val (.int za), .val (.int (0 : Int32))] [(.int (1 : Int32))])) (fun t k => XS.iconst X596.here hx rfl (hb hby at_205) k) ?_
    refine own_via (T596.setTop (mkF m 210 #[.val (.int p0), .val (.int p1), .val (.int p2), .val (.int p3), .val (.int p4), .val (.int zn), .val (.int zk), .val (.int zh1), .val (.int zh2), .val (.int (0 : Int32)), .val (.ref b572), .val (.int zb), .val (.ref b578), .val (.ref b582), .val (.int za), .val (.int (0 : Int32))] [(.int (1 : Int32))])) (fun t k => XS.goto X596.here hx rfl (pc0 := 206) (pc' := 210) rfl (hb hby at_206) (by decide) (by decide) k) ?_
    refine own_leave X596 Bd.notSynchronized (v := some (.int (1 : Int32))) (fun h => by rw [Bd.returns] at h; cases h) (fun fs hr => retN X596 hx (t := .boolean) Bd.returns (by simp) (hb hby at_210) hr) ?_ (by decide) (by decide)
    exact ⟨rfl, N596⟩
  · subst hm
    refine own_via (T584.setTop (mkF m 80 #[.val (.int p0), .val (.int p1), .val (.int p2), .val (.int p3), .val (.int p4), .val (.int zn), .val (.int zk), .val (.int zh1), .val (.int zh2), .val (.int (1 : Int32)), .val (.ref b572), .val (.int zb), .val (.ref b578), .val (.ref b582), .unset, .unset] [(.int (1 : Int32))])) (fun t k => XS.iload X584.here hx rfl (hb hby at_78) rfl  k) ?_
    refine own_via (T584.setTop (mkF m 81 #[.val (.int p0), .val (.int p1), .val (.int p2), .val (.int p3), .val (.int p4), .val (.int zn), .val (.int zk), .val (.int zh1), .val (.int zh2), .val (.int (1 : Int32)), .val (.ref b572), .val (.int zb), .val (.ref b578), .val (.ref b582), .unset, .unset] [(.int (1 : Int32)), (.int (1 : Int32))])) (fun t k => XS.iconst X584.here hx rfl (hb hby at_80) k) ?_
    refine own_via (T584.setTop (mkF m 84 #[.val (.int p0), .val (.int p1), .val (.int p2), .val (.int p3), .val (.int p4), .val (.int zn), .val (.int zk), .val (.int zh1), .val (.int zh2), .val (.int (1 : Int32)), .val (.ref b572), .val (.int zb), .val (.ref b578), .val (.ref b582), .unset, .unset] [])) (fun t k => XS.icmpNo X584.here hx rfl (hb hby at_81) rfl (flt (by decide)).1 k) ?_
    refine own_via (T584.setTop (mkF m 86 #[.val (.int p0), .val (.int p1), .val (.int p2), .val (.int p3), .val (.int p4), .val (.int zn), .val (.int zk), .val (.int zh1), .val (.int zh2), .val (.int (1 : Int32)), .val (.ref b572), .val (.int zb), .val (.ref b578), .val (.ref b582), .unset, .unset] [(.ref b578)])) (fun t k => XS.aload X584.here hx rfl (hb hby at_84) rfl rfl k) ?_
    refine own_via (T584.setTop (mkF m 88 #[.val (.int p0), .val (.int p1), .val (.int p2), .val (.int p3), .val (.int p4), .val (.int zn), .val (.int zk), .val (.int zh1), .val (.int zh2), .val (.int (1 : Int32)), .val (.ref b572), .val (.int zb), .val (.ref b578), .val (.ref b582), .unset, .unset] [(.int zh1), (.ref b578)])) (fun t k => XS.iload X584.here hx rfl (hb hby at_86) rfl  k) ?_
    obtain ⟨_, _, ⟨T599, L599, k599, n599⟩, -, X599, ⟨Lc599, hQ599, l599, y599, z599⟩, st599⟩ := Jvm.LawKit.callS X584 hx (y := (⟨"com/example/unweave/unweave/abstraction/Operation", "ofHavoc", "(I)Lcom/example/unweave/unweave/abstraction/Operation;"⟩ : MethodName)) hown (mvT hZ (hw _ (List.mem_of_getElem? (i := 192) rfl))) (mvT hZ (hw _ (List.mem_of_getElem? (i := 193) rfl))) (mvT hZ (hw _ (List.mem_of_getElem? (i := 194) rfl))) (mvT hZ (hw _ (List.mem_of_getElem? (i := 195) rfl))) (by decide) (backOf (W := 1) (rm25 l Z a0 hw [] zh1 h584 n0 (Nat.le_trans Z0 K585.1) kA (own_stakeepW (ws := []) Q4 (fun x hx => nomatch hx) K585)) hZ (hw _ (List.mem_of_getElem? (i := 195) rfl)) (hw _ (List.mem_of_getElem? (i := 194) rfl)) (by decide) (by decide)) (g := (mkF m 88 #[.val (.int p0), .val (.int p1), .val (.int p2), .val (.int p3), .val (.int p4), .val (.int zn), .val (.int zk), .val (.int zh1), .val (.int zh2), .val (.int (1 : Int32)), .val (.ref b572), .val (.int zb), .val (.ref b578), .val (.ref b582), .unset, .unset] [(.int zh1), (.ref b578)])) rfl (by rw [hml]; rfl) (argsL := [(.int zh1)]) (rest := [(.ref b578)]) (lenOf pd_20 rfl) rfl (by show 2 * 0 + _ ≤ _; exact Nat.le_of_eq rfl) (hb hby at_88) (fun _ _ => ⟨rfl, e584, (by decide : 4 + 1 ≤ _), (by decide : 13 + 4 ≤ _)⟩)
    dsimp only [Pt.U, Pt.locs, Pt.cells, Pt.slots] at X599 l599 y599 z599 st599 hQ599
    rw [y599, z599] at X599
    have X599 : Stand _ _ _ _ _ _ _ _ _ _ T599 L599 5 17 := X599
    obtain ⟨h599, e599⟩ : ∃ h, T599.heap = h := ⟨_, rfl⟩
    rw [e599] at hQ599
    obtain ⟨r_599, rfl, N599q, K599q, gg_r_599, sq_r_599, G599_0, G599_1, G599_2⟩ := hQ599
    have N599 : Fr n0 L599 := by rw [l599]; exact Fr.app N584 N599q
    have sz_r_599 : h0.size ≤ r_599 := Nat.le_trans K585.1 sq_r_599
    have ne_dA_r_599 : dA ≠ r_599 := Nat.ne_of_lt (Nat.lt_of_lt_of_le ((((((Q1.ext E572).keep K574q (fun q => ne_dA_b572 (List.mem_singleton.mp q))).ext E578).keep K580q (fun q => ne_dA_b578 (List.mem_singleton.mp q))).ext E582).keep K584q (fun q => ne_dA_b582 (List.mem_singleton.mp q))).lt sq_r_599)
    have ne_kA_r_599 : kA ≠ r_599 := Nat.ne_of_lt (Nat.lt_of_lt_of_le ((((((Q5.ext E572).keep K574q).ext E578).keep K580q).ext E582).keep K584q).lt sq_r_599)
    have ne_swA_r_599 : swA ≠ r_599 := Nat.ne_of_lt (Nat.lt_of_lt_of_le ((((((Q8.ext E572).keep K574q (fun q => ne_swA_b572 (List.mem_singleton.mp q))).ext E578).keep K580q (fun q => ne_swA_b578 (List.mem_singleton.mp q))).ext E582).keep K584q (fun q => ne_swA_b582 (List.mem_singleton.mp q))).lt sq_r_599)
    have ne_b572_r_599 : b572 ≠ r_599 := Nat.ne_of_lt (Nat.lt_of_lt_of_le ((((G574_0.ext E578).keep K580q).ext E582).keep K584q).lt sq_r_599)
    have ne_r_574_r_599 : r_574 ≠ r_599 := Nat.ne_of_lt (Nat.lt_of_lt_of_le ((((G574_3.ext E578).keep K580q (fun q => ne_r_574_b578 (List.mem_singleton.mp q))).ext E582).keep K584q (fun q => ne_r_574_b582 (List.mem_singleton.mp q))).lt sq_r_599)
    have ne_b578_r_599 : b578 ≠ r_599 := Nat.ne_of_lt (Nat.lt_of_lt_of_le ((G580_0.ext E582).keep K584q).lt sq_r_599)
    have ne_b582_r_599 : b582 ≠ r_599 := Nat.ne_of_lt (Nat.lt_of_lt_of_le G584_0.lt sq_r_599)
    have K600 : Keep h0 h599 [] := K585.trans K599q (fun x hx => nomatch hx)
    refine own_via (T599.setTop (mkF m 91 #[.val (.int p0), .val (.int p1), .val (.int p2), .val (.int p3), .val (.int p4), .val (.int zn), .val (.int zk), .val (.int zh1), .val (.int zh2), .val (.int (1 : Int32)), .val (.ref b572), .val (.int zb), .val (.ref b578), .val (.ref b582), .unset, .unset] [(.ref r_599), (.ref b578)])) (fun t k => st599 t k) ?_
    have F602 := (((G580_0.ext E582).keep K584q).keep K599q)
    have F603 := (((G580_1.ext E582).keep K584q (fun q => ne_b578_b582 (List.mem_singleton.mp q))).keep K599q (by simp))
    have F604 := (((G580_2.ext E582).keep K584q (fun q => ne_b578_b582 (List.mem_singleton.mp q))).keep K599q (by simp))
    have F605 := (((G580_3.ext E582).keep K584q (fun q => ne_b578_b582 (List.mem_singleton.mp q))).keep K599q (by simp))
    have F606 := (((((((Q1.ext E572).keep K574q (fun q => ne_dA_b572 (List.mem_singleton.mp q))).ext E578).keep K580q (fun q => ne_dA_b578 (List.mem_singleton.mp q))).ext E582).keep K584q (fun q => ne_dA_b582 (List.mem_singleton.mp q))).keep K599q (by simp))
    obtain ⟨cq601, kq601, q601a, q601b, q601c⟩ := isOf hZ e599 F602
    obtain ⟨_, _, ⟨T601, L601, k601, n601⟩, -, X601, ⟨Lc601, hQ601, l601, y601, z601⟩, st601⟩ := X599.virtualBack hx (y := (⟨"java/util/ArrayList", "add", "(Ljava/lang/Object;)Z"⟩ : MethodName)) (z := (⟨"java/util/ArrayList", "add", "(Ljava/lang/Object;)Z"⟩ : MethodName)) hown (mvT hZ (hw _ (List.mem_of_getElem? (i := 213) rfl))) (mvT hZ (hw _ (List.mem_of_getElem? (i := 214) rfl))) (notFace_of_selects (args := #[]) (mvT hZ (hw _ (List.mem_of_getElem? (i := 216) rfl)))) (mvT hZ (hw _ (List.mem_of_getElem? (i := 216) rfl))) (mvT hZ (hw _ (List.mem_of_getElem? (i := 215) rfl))) (by decide) (backOf (W := 0) (rm27z l Z a0 hw [] b578 r_599 h599 n0 (Nat.le_trans Z0 K600.1) (0 : Int32) dA F602 F603 F604 F605 G599_0 (own_stakeepW (ws := []) Q0 (fun x hx => nomatch hx) K600) F606 gg_b578 ne_dA_b578) hZ (hw _ (List.mem_of_getElem? (i := 217) rfl)) (hw _ (List.mem_of_getElem? (i := 24) rfl)) (by decide) (by decide)) q601a q601c (g := (mkF m 91 #[.val (.int p0), .val (.int p1), .val (.int p2), .val (.int p3), .val (.int p4), .val (.int zn), .val (.int zk), .val (.int zh1), .val (.int zh2), .val (.int (1 : Int32)), .val (.ref b572), .val (.int zb), .val (.ref b578), .val (.ref b582), .unset, .unset] [(.ref r_599), (.ref b578)])) rfl (by rw [hml]; rfl) (Steps.refl _) (argsL := [(.ref r_599)]) (rest := []) (lenOf pd_21 rfl) rfl (by show 2 * 0 + _ ≤ _; exact Nat.le_of_eq rfl) (hb hby at_91) (fun _ _ => ⟨rfl, e599, (by decide : 5 + 1 ≤ _), (by decide : 17 + 10 ≤ _)⟩)
    dsimp only [Pt.U, Pt.locs, Pt.cells, Pt.slots] at X601 l601 y601 z601 st601 hQ601
    rw [y601, z601] at X601
    have X601 : Stand _ _ _ _ _ _ _ _ _ _ T601 L601 6 27 := X601
    obtain ⟨h601, e601⟩ : ∃ h, T601.heap = h := ⟨_, rfl⟩
    rw [e601] at hQ601
    obtain ⟨r_601, rfl, N601q, K601q, gg_r_601, sq_r_601, G601_0, G601_1, G601_2, G601_3, G601_4⟩ := hQ601
    have N601 : Fr n0 L601 := by rw [l601]; exact Fr.app N599 N601q
    have sz_r_601 : h0.size ≤ r_601 := Nat.le_trans K600.1 sq_r_601
    have ne_dA_r_601 : dA ≠ r_601 := Nat.ne_of_lt (Nat.lt_of_lt_of_le F606.lt sq_r_601)
    have ne_kA_r_601 : kA ≠ r_601 := Nat.ne_of_lt (Nat.lt_of_lt_of_le (((((((Q5.ext E572).keep K574q).ext E578).keep K580q).ext E582).keep K584q).keep K599q).lt sq_r_601)
    have ne_swA_r_601 : swA ≠ r_601 := Nat.ne_of_lt (Nat.lt_of_lt_of_le (((((((Q8.ext E572).keep K574q (fun q => ne_swA_b572 (List.mem_singleton.mp q))).ext E578).keep K580q (fun q => ne_swA_b578 (List.mem_singleton.mp q))).ext E582).keep K584q (fun q => ne_swA_b582 (List.mem_singleton.mp q))).keep K599q (by simp)).lt sq_r_601)
    have ne_b572_r_601 : b572 ≠ r_601 := Nat.ne_of_lt (Nat.lt_of_lt_of_le (((((G574_0.ext E578).keep K580q).ext E582).keep K584q).keep K599q).lt sq_r_601)
    have ne_r_574_r_601 : r_574 ≠ r_601 := Nat.ne_of_lt (Nat.lt_of_lt_of_le (((((G574_3.ext E578).keep K580q (fun q => ne_r_574_b578 (List.mem_singleton.mp q))).ext E582).keep K584q (fun q => ne_r_574_b582 (List.mem_singleton.mp q))).keep K599q (by simp)).lt sq_r_601)
    have ne_b578_r_601 : b578 ≠ r_601 := Nat.ne_of_lt (Nat.lt_of_lt_of_le F602.lt sq_r_601)
    have ne_b582_r_601 : b582 ≠ r_601 := Nat.ne_of_lt (Nat.lt_of_lt_of_le (G584_0.keep K599q).lt sq_r_601)
    have ne_r_599_r_601 : r_599 ≠ r_601 := Nat.ne_of_lt (Nat.lt_of_lt_of_le G599_0.lt sq_r_601)
    have K607 : Keep h0 h601 [] := K600.trans K601q (fun x hx => (List.mem_cons.mp hx).elim (fun e => e ▸ Or.inr sz_b578) (fun hx => nomatch hx))
    obtain ⟨z608, hz608⟩ : ∃ z : Int32, z = ((0 : Int32) + (1 : Int32)) := ⟨_, rfl⟩
    rw [← hz608] at G601_1
    refine own_via (T601.setTop (mkF m 94 #[.val (.int p0), .val (.int p1), .val (.int p2), .val (.int p3), .val (.int p4), .val (.int zn), .val (.int zk), .val (.int zh1), .val (.int zh2), .val (.int (1 : Int32)), .val (.ref b572), .val (.int zb), .val (.ref b578), .val (.ref b582), .unset, .unset] [(.int (1 : Int32))])) (fun t k => st601.trans k) ?_
    refine own_via (T601.setTop (mkF m 95 #[.val (.int p0), .val (.int p1), .val (.int p2), .val (.int p3), .val (.int p4), .val (.int zn), .val (.int zk), .val (.int zh1), .val (.int zh2), .val (.int (1 : Int32)), .val (.ref b572), .val (.int zb), .val (.ref b578), .val (.ref b582), .unset, .unset] [])) (fun t k => XS.pop X601.here hx rfl (hb hby at_94) rfl rfl k) ?_
    refine own_via (T601.setTop (mkF m 97 #[.val (.int p0), .val (.int p1), .val (.int p2), .val (.int p3), .val (.int p4), .val (.int zn), .val (.int zk), .val (.int zh1), .val (.int zh2), .val (.int (1 : Int32)), .val (.ref b572), .val (.int zb), .val (.ref b578), .val (.ref b582), .unset, .unset] [(.int (1 : Int32))])) (fun t k => XS.iload X601.here hx rfl (hb hby at_95) rfl  k) ?_
    refine own_via (T601.setTop (mkF m 98 #[.val (.int p0), .val (.int p1), .val (.int p2), .val (.int p3), .val (.int p4), .val (.int zn), .val (.int zk), .val (.int zh1), .val (.int zh2), .val (.int (1 : Int32)), .val (.ref b572), .val (.int zb), .val (.ref b578), .val (.ref b582), .unset, .unset] [(.int (2 : Int32)), (.int (1 : Int32))])) (fun t k => XS.iconst X601.here hx rfl (hb hby at_97) k) ?_
    refine own_via (T601.setTop (mkF m 112 #[.val (.int p0), .val (.int p1), .val (.int p2), .val (.int p3), .val (.int p4), .val (.int zn), .val (.int zk), .val (.int zh1), .val (.int zh2), .val (.int (1 : Int32)), .val (.ref b572), .val (.int zb), .val (.ref b578), .val (.ref b582), .unset, .unset] [])) (fun t k => XS.icmpYes X601.here hx rfl (pc0 := 98) (pc' := 112) rfl (hb hby at_98) rfl (feq (by decide)).2 (by decide) (by decide) k) ?_
    refine own_via (T601.setTop (mkF m 114 #[.val (.int p0), .val (.int p1), .val (.int p2), .val (.int p3), .val (.int p4), .val (.int zn), .val (.int zk), .val (.int zh1), .val (.int zh2), .val (.int (1 : Int32)), .val (.ref b572), .val (.int zb), .val (.ref b578), .val (.ref b582), .unset, .unset] [(.int (1 : Int32))])) (fun t k => XS.iload X601.here hx rfl (hb hby at_112) rfl  k) ?_
    refine own_via (T601.setTop (mkF m 115 #[.val (.int p0), .val (.int p1), .val (.int p2), .val (.int p3), .val (.int p4), .val (.int zn), .val (.int zk), .val (.int zh1), .val (.int zh2), .val (.int (1 : Int32)), .val (.ref b572), .val (.int zb), .val (.ref b578), .val (.ref b582), .unset, .unset] [(.int (3 : Int32)), (.int (1 : Int32))])) (fun t k => XS.iconst X601.here hx rfl (hb hby at_114) k) ?_
    refine own_via (T601.setTop (mkF m 129 #[.val (.int p0), .val (.int p1), .val (.int p2), .val (.int p3), .val (.int p4), .val (.int zn), .val (.int zk), .val (.int zh1), .val (.int zh2), .val (.int (1 : Int32)), .val (.ref b572), .val (.int zb), .val (.ref b578), .val (.ref b582), .unset, .unset] [])) (fun t k => XS.icmpYes X601.here hx rfl (pc0 := 115) (pc' := 129) rfl (hb hby at_115) rfl (feq (by decide)).2 (by decide) (by decide) k) ?_
    refine own_via (T601.setTop (mkF m 131 #[.val (.int p0), .val (.int p1), .val (.int p2), .val (.int p3), .val (.int p4), .val (.int zn), .val (.int zk), .val (.int zh1), .val (.int zh2), .val (.int (1 : Int32)), .val (.ref b572), .val (.int zb), .val (.ref b578), .val (.ref b582), .unset, .unset] [(.ref b572)])) (fun t k => XS.aload X601.here hx rfl (hb hby at_129) rfl rfl k) ?_
    refine own_via (T601.setTop (mkF m 133 #[.val (.int p0), .val (.int p1), .val (.int p2), .val (.int p3), .val (.int p4), .val (.int zn), .val (.int zk), .val (.int zh1), .val (.int zh2), .val (.int (1 : Int32)), .val (.ref b572), .val (.int zb), .val (.ref b578), .val (.ref b582), .unset, .unset] [(.ref b578), (.ref b572)])) (fun t k => XS.aload X601.here hx rfl (hb hby at_131) rfl rfl k) ?_
    have F610 := ((((((G574_0.ext E578).keep K580q).ext E582).keep K584q).keep K599q).keep K601q)
    have F611 := ((((((G574_1.ext E578).keep K580q (fun q => ne_b572_b578 (List.mem_singleton.mp q))).ext E582).keep K584q (fun q => ne_b572_b582 (List.mem_singleton.mp q))).keep K599q (by simp)).keep K601q (fun q => ne_b572_b578 (List.mem_singleton.mp q)))
    have F612 := ((((((G574_2.ext E578).keep K580q (fun q => ne_b572_b578 (List.mem_singleton.mp q))).ext E582).keep K584q (fun q => ne_b572_b582 (List.mem_singleton.mp q))).keep K599q (by simp)).keep K601q (fun q => ne_b572_b578 (List.mem_singleton.mp q)))
    have F613 := ((((((G574_3.ext E578).keep K580q (fun q => ne_r_574_b578 (List.mem_singleton.mp q))).ext E582).keep K584q (fun q => ne_r_574_b582 (List.mem_singleton.mp q))).keep K599q (by simp)).keep K601q (fun q => ne_r_574_b578 (List.mem_singleton.mp q)))
    have F614 := (G599_0.keep K601q)
    have F615 := (G599_1.keep K601q (fun q => (Ne.symm ne_b578_r_599) (List.mem_singleton.mp q)))
    have F616 := (G599_2.keep K601q (fun q => (Ne.symm ne_b578_r_599) (List.mem_singleton.mp q)))
    have F617 := ((((((((Q5.ext E572).keep K574q).ext E578).keep K580q).ext E582).keep K584q).keep K599q).keep K601q)
    have F618 := ((((((((Q6.ext E572).keep K574q (fun q => ne_kA_b572 (List.mem_singleton.mp q))).ext E578).keep K580q (fun q => ne_kA_b578 (List.mem_singleton.mp q))).ext E582).keep K584q (fun q => ne_kA_b582 (List.mem_singleton.mp q))).keep K599q (by simp)).keep K601q (fun q => ne_kA_b578 (List.mem_singleton.mp q)))
    have F619 := ((((((((Q8.ext E572).keep K574q (fun q => ne_swA_b572 (List.mem_singleton.mp q))).ext E578).keep K580q (fun q => ne_swA_b578 (List.mem_singleton.mp q))).ext E582).keep K584q (fun q => ne_swA_b582 (List.mem_singleton.mp q))).keep K599q (by simp)).keep K601q (fun q => ne_swA_b578 (List.mem_singleton.mp q)))
    obtain ⟨cq609, kq609, q609a, q609b, q609c⟩ := isOf hZ e601 F610
    obtain ⟨_, _, ⟨T609, L609, k609, n609⟩, -, X609, ⟨Lc609, hQ609, l609, y609, z609⟩, st609⟩ := X601.virtualBack hx (y := (⟨"com/example/unweave/unweave/abstraction/PathEncoding", "encode", "(Ljava/util/List;)Lcom/example/unweave/unweave/arith/Formula;"⟩ : MethodName)) (z := (⟨"com/example/unweave/unweave/abstraction/PathEncoding", "encode", "(Ljava/util/List;)Lcom/example/unweave/unweave/arith/Formula;"⟩ : MethodName)) hown (mvT hZ (hw _ (List.mem_of_getElem? (i := 46) rfl))) (mvT hZ (hw _ (List.mem_of_getElem? (i := 47) rfl))) (notFace_of_selects (args := #[]) (mvT hZ (hw _ (List.mem_of_getElem? (i := 49) rfl)))) (mvT hZ (hw _ (List.mem_of_getElem? (i := 49) rfl))) (mvT hZ (hw _ (List.mem_of_getElem? (i := 48) rfl))) (by decide) (backOf (W := 0) (rm7e1 l Z a0 hw [] b572 b578 h601 n0 (Nat.le_trans Z0 K607.1) r_574 zn N576n own_id z608 r_601 tA fA dA r_599 kA swA sw zh1 F610 F611 F612 F613 G601_0 G601_1 G601_2 G601_3 (own_stakeepW (ws := []) Q2 (fun x hx => nomatch hx) K607) (own_stakeepW (ws := []) Q3 (fun x hx => nomatch hx) K607) (own_stakeepW (ws := []) Q0 (fun x hx => nomatch hx) K607) G601_4 F614 F615 F616 F617 F618 (own_stakeepW (ws := []) Q7 (fun x hx => nomatch hx) K607) F619 gg_b572 gg_r_574 (own_kb hN576n hzn hzh1) hsw (Ne.symm ne_b572_b578) (Ne.symm ne_r_574_b578) (Ne.symm ne_b572_r_601) (Ne.symm ne_r_574_r_601) ne_kA_b572 ne_kA_r_574 ne_swA_b572 ne_swA_r_574 (Ne.symm ne_b572_r_599) (Ne.symm ne_r_574_r_599) (Ne.symm ne_b572_r_574)) hZ (hw _ (List.mem_of_getElem? (i := 50) rfl)) (hw _ (List.mem_of_getElem? (i := 3) rfl)) (by decide) (by decide)) q609a q609c (g := (mkF m 133 #[.val (.int p0), .val (.int p1), .val (.int p2), .val (.int p3), .val (.int p4), .val (.int zn), .val (.int zk), .val (.int zh1), .val (.int zh2), .val (.int (1 : Int32)), .val (.ref b572), .val (.int zb), .val (.ref b578), .val (.ref b582), .unset, .unset] [(.ref b578), (.ref b572)])) rfl (by rw [hml]; rfl) (Steps.refl _) (argsL := [(.ref b578)]) (rest := []) (lenOf pd_14 rfl) rfl (by show 2 * 0 + _ ≤ _; exact Nat.le_of_eq rfl) (hb hby at_133) (fun _ _ => ⟨rfl, e601, (by decide : 6 + 6 ≤ _), (by decide : 27 + 32 ≤ _)⟩)
    dsimp only [Pt.U, Pt.locs, Pt.cells, Pt.slots] at X609 l609 y609 z609 st609 hQ609
    rw [y609, z609] at X609
    have X609 : Stand _ _ _ _ _ _ _ _ _ _ T609 L609 12 59 := X609
    obtain ⟨h609, e609⟩ : ∃ h, T609.heap = h := ⟨_, rfl⟩
    rw [e609] at hQ609
    obtain ⟨rfl, N609q, K609q, G609_0, G609_1, G609_2, G609_3⟩ := hQ609
    have N609 : Fr n0 L609 := by rw [l609]; exact Fr.app N601 N609q
    have mq609 : ∀ x ∈ [b572, r_574], x ∈ [] ∨ h0.size ≤ x := by
      intro x hx
      rcases List.mem_cons.mp hx with e | hx
      · rw [e]; exact Or.inr sz_b572
      rw [List.mem_singleton.mp hx]; exact Or.inr sz_r_574
    have K620 : Keep h0 h609 [] := K607.trans K609q mq609
    obtain ⟨z621, hz621⟩ : ∃ z : Int32, z = (zn + (1 : Int32)) := ⟨_, rfl⟩
    rw [← hz621] at G609_2
    obtain ⟨f622, hf622⟩ : ∃ g : Nat → Int32, g = (own_up own_id zh1.toInt.toNat zn) := ⟨_, rfl⟩
    rw [← hf622] at G609_3
    refine own_via (T609.setTop (mkF m 136 #[.val (.int p0), .val (.int p1), .val (.int p2), .val (.int p3), .val (.int p4), .val (.int zn), .val (.int zk), .val (.int zh1), .val (.int zh2), .val (.int (1 : Int32)), .val (.ref b572), .val (.int zb), .val (.ref b578), .val (.ref b582), .unset, .unset] [(.ref tA)])) (fun t k => st609.trans k) ?_
    refine own_via (T609.setTop (mkF m 137 #[.val (.int p0), .val (.int p1), .val (.int p2), .val (.int p3), .val (.int p4), .val (.int zn), .val (.int zk), .val (.int zh1), .val (.int zh2), .val (.int (1 : Int32)), .val (.ref b572), .val (.int zb), .val (.ref b578), .val (.ref b582), .unset, .unset] [])) (fun t k => XS.pop X609.here hx rfl (hb hby at_136) rfl rfl k) ?_
    refine own_via (T609.setTop (mkF m 139 #[.val (.int p0), .val (.int p1), .val (.int p2), .val (.int p3), .val (.int p4), .val (.int zn), .val (.int zk), .val (.int zh1), .val (.int zh2), .val (.int (1 : Int32)), .val (.ref b572), .val (.int zb), .val (.ref b578), .val (.ref b582), .unset, .unset] [(.int (1 : Int32))])) (fun t k => XS.iload X609.here hx rfl (hb hby at_137) rfl  k) ?_
    refine own_via (T609.setTop (mkF m 140 #[.val (.int p0), .val (.int p1), .val (.int p2), .val (.int p3), .val (.int p4), .val (.int zn), .val (.int zk), .val (.int zh1), .val (.int zh2), .val (.int (1 : Int32)), .val (.ref b572), .val (.int zb), .val (.ref b578), .val (.ref b582), .unset, .unset] [(.int (3 : Int32)), (.int (1 : Int32))])) (fun t k => XS.iconst X609.here hx rfl (hb hby at_139) k) ?_
    refine own_via (T609.setTop (mkF m 151 #[.val (.int p0), .val (.int p1), .val (.int p2), .val (.int p3), .val (.int p4), .val (.int zn), .val (.int zk), .val (.int zh1), .val (.int zh2), .val (.int (1 : Int32)), .val (.ref b572), .val (.int zb), .val (.ref b578), .val (.ref b582), .unset, .unset] [])) (fun t k => XS.icmpYes X609.here hx rfl (pc0 := 140) (pc' := 151) rfl (hb hby at_140) rfl (feq (by decide)).2 (by decide) (by decide) k) ?_
    refine own_via (T609.setTop (mkF m 153 #[.val (.int p0), .val (.int p1), .val (.int p2), .val (.int p3), .val (.int p4), .val (.int zn), .val (.int zk), .val (.int zh1), .val (.int zh2), .val (.int (1 : Int32)), .val (.ref b572), .val (.int zb), .val (.ref b578), .val (.ref b582), .unset, .unset] [(.ref b572)])) (fun t k => XS.aload X609.here hx rfl (hb hby at_151) rfl rfl k) ?_
    refine own_via (T609.setTop (mkF m 155 #[.val (.int p0), .val (.int p1), .val (.int p2), .val (.int p3), .val (.int p4), .val (.int zn), .val (.int zk), .val (.int zh1), .val (.int zh2), .val (.int (1 : Int32)), .val (.ref b572), .val (.int zb), .val (.ref b578), .val (.ref b582), .unset, .unset] [(.int zk), (.ref b572)])) (fun t k => XS.iload X609.here hx rfl (hb hby at_153) rfl  k) ?_
    obtain ⟨cq623, kq623, q623a, q623b, q623c⟩ := isOf hZ e609 G609_0
    obtain ⟨_, _, ⟨T623, L623, k623, n623⟩, -, X623, ⟨Lc623, hQ623, l623, y623, z623⟩, st623⟩ := X609.virtualBack hx (y := (⟨"com/example/unweave/unweave/abstraction/PathEncoding", "isChanged", "(I)Z"⟩ : MethodName)) (z := (⟨"com/example/unweave/unweave/abstraction/PathEncoding", "isChanged", "(I)Z"⟩ : MethodName)) hown (mvT hZ (hw _ (List.mem_of_getElem? (i := 17) rfl))) (mvT hZ (hw _ (List.mem_of_getElem? (i := 18) rfl))) (notFace_of_selects (args := #[]) (mvT hZ (hw _ (List.mem_of_getElem? (i := 20) rfl)))) (mvT hZ (hw _ (List.mem_of_getElem? (i := 20) rfl))) (mvT hZ (hw _ (List.mem_of_getElem? (i := 19) rfl))) (by decide) (backOf (W := 0) (rm3 l Z a0 hw [] b572 zk h609 n0 (Nat.le_trans Z0 K620.1) r_574 N576n f622 G609_1 G609_3 (own_kb hN576n hzn hzk)) hZ (hw _ (List.mem_of_getElem? (i := 21) rfl)) (hw _ (List.mem_of_getElem? (i := 3) rfl)) (by decide) (by decide)) q623a q623c (g := (mkF m 155 #[.val (.int p0), .val (.int p1), .val (.int p2), .val (.int p3), .val (.int p4), .val (.int zn), .val (.int zk), .val (.int zh1), .val (.int zh2), .val (.int (1 : Int32)), .val (.ref b572), .val (.int zb), .val (.ref b578), .val (.ref b582), .unset, .unset] [(.int zk), (.ref b572)])) rfl (by rw [hml]; rfl) (Steps.refl _) (argsL := [(.int zk)]) (rest := []) (lenOf pd_19 rfl) rfl (by show 2 * 0 + _ ≤ _; exact Nat.le_of_eq rfl) (hb hby at_155) (fun _ _ => ⟨rfl, e609, (by decide : 12 + 0 ≤ _), (by decide : 59 + 0 ≤ _)⟩)
    dsimp only [Pt.U, Pt.locs, Pt.cells, Pt.slots] at X623 l623 y623 z623 st623 hQ623
    rw [y623, z623] at X623
    have X623 : Stand _ _ _ _ _ _ _ _ _ _ T623 L623 12 59 := X623
    obtain ⟨rfl, N623q, e623⟩ := hQ623
    have N623 : Fr n0 L623 := by rw [l623]; exact Fr.app N609 N623q
    refine own_via (T623.setTop (mkF m 158 #[.val (.int p0), .val (.int p1), .val (.int p2), .val (.int p3), .val (.int p4), .val (.int zn), .val (.int zk), .val (.int zh1), .val (.int zh2), .val (.int (1 : Int32)), .val (.ref b572), .val (.int zb), .val (.ref b578), .val (.ref b582), .unset, .unset] [(.int (own_ch zk f622))])) (fun t k => st623.trans k) ?_
    obtain ⟨za, hza⟩ : ∃ z : Int32, z = (own_ch zk f622) := ⟨_, rfl⟩
    refine own_via (T623.setTop (mkF m 160 #[.val (.int p0), .val (.int p1), .val (.int p2), .val (.int p3), .val (.int p4), .val (.int zn), .val (.int zk), .val (.int zh1), .val (.int zh2), .val (.int (1 : Int32)), .val (.ref b572), .val (.int zb), .val (.ref b578), .val (.ref b582), .val (.int za), .unset] [])) (fun t k => XS.istore X623.here hx rfl (hb hby at_158) rfl (l' := #[.val (.int p0), .val (.int p1), .val (.int p2), .val (.int p3), .val (.int p4), .val (.int zn), .val (.int zk), .val (.int zh1), .val (.int zh2), .val (.int (1 : Int32)), .val (.ref b572), .val (.int zb), .val (.ref b578), .val (.ref b582), .val (.int za), .unset]) (by rw [hza]; rfl) k) ?_
    refine own_via (T623.setTop (mkF m 162 #[.val (.int p0), .val (.int p1), .val (.int p2), .val (.int p3), .val (.int p4), .val (.int zn), .val (.int zk), .val (.int zh1), .val (.int zh2), .val (.int (1 : Int32)), .val (.ref b572), .val (.int zb), .val (.ref b578), .val (.ref b582), .val (.int za), .unset] [(.int (1 : Int32))])) (fun t k => XS.iload X623.here hx rfl (hb hby at_160) rfl  k) ?_
    refine own_via (T623.setTop (mkF m 163 #[.val (.int p0), .val (.int p1), .val (.int p2), .val (.int p3), .val (.int p4), .val (.int zn), .val (.int zk), .val (.int zh1), .val (.int zh2), .val (.int (1 : Int32)), .val (.ref b572), .val (.int zb), .val (.ref b578), .val (.ref b582), .val (.int za), .unset] [(.int (1 : Int32)), (.int (1 : Int32))])) (fun t k => XS.iconst X623.here hx rfl (hb hby at_162) k) ?_
    refine own_via (T623.setTop (mkF m 166 #[.val (.int p0), .val (.int p1), .val (.int p2), .val (.int p3), .val (.int p4), .val (.int zn), .val (.int zk), .val (.int zh1), .val (.int zh2), .val (.int (1 : Int32)), .val (.ref b572), .val (.int zb), .val (.ref b578), .val (.ref b582), .val (.int za), .unset] [])) (fun t k => XS.icmpNo X623.here hx rfl (hb hby at_163) rfl (flt (by decide)).1 k) ?_
    refine own_via (T623.setTop (mkF m 168 #[.val (.int p0), .val (.int p1), .val (.int p2), .val (.int p3), .val (.int p4), .val (.int zn), .val (.int zk), .val (.int zh1), .val (.int zh2), .val (.int (1 : Int32)), .val (.ref b572), .val (.int zb), .val (.ref b578), .val (.ref b582), .val (.int za), .unset] [(.int zk)])) (fun t k => XS.iload X623.here hx rfl (hb hby at_166) rfl  k) ?_
    refine own_via (T623.setTop (mkF m 170 #[.val (.int p0), .val (.int p1), .val (.int p2), .val (.int p3), .val (.int p4), .val (.int zn), .val (.int zk), .val (.int zh1), .val (.int zh2), .val (.int (1 : Int32)), .val (.ref b572), .val (.int zb), .val (.ref b578), .val (.ref b582), .val (.int za), .unset] [(.int zh1), (.int zk)])) (fun t k => XS.iload X623.here hx rfl (hb hby at_168) rfl  k) ?_
    obtain ⟨zex, hzex⟩ : ∃ z : Int32, z = (if zk = zh1 then (1 : Int32) else (0 : Int32)) := ⟨_, rfl⟩
    refine own_via (T623.setTop (mkF m 191 #[.val (.int p0), .val (.int p1), .val (.int p2), .val (.int p3), .val (.int p4), .val (.int zn), .val (.int zk), .val (.int zh1), .val (.int zh2), .val (.int (1 : Int32)), .val (.ref b572), .val (.int zb), .val (.ref b578), .val (.ref b582), .val (.int za), .unset] [(.int zex)])) (fun t k => ?_) ?_
    · skip
      by_cases hj170_624 : zk = zh1
      · refine XS.icmpYes X623.here hx rfl (pc0 := 170) (pc' := 186) rfl (hb hby at_170) rfl (teq hj170_624).1 (by decide) (by decide) (?_ : Steps p.tables e below (T623.setTop (mkF m 186 #[.val (.int p0), .val (.int p1), .val (.int p2), .val (.int p3), .val (.int p4), .val (.int zn), .val (.int zk), .val (.int zh1), .val (.int zh2), .val (.int (1 : Int32)), .val (.ref b572), .val (.int zb), .val (.ref b578), .val (.ref b582), .val (.int za), .unset] [])) t)
        refine XS.iconst X623.here hx rfl (hb hby at_186) (?_ : Steps p.tables e below (T623.setTop (mkF m 187 #[.val (.int p0), .val (.int p1), .val (.int p2), .val (.int p3), .val (.int p4), .val (.int zn), .val (.int zk), .val (.int zh1), .val (.int zh2), .val (.int (1 : Int32)), .val (.ref b572), .val (.int zb), .val (.ref b578), .val (.ref b582), .val (.int za), .unset] [(.int (1 : Int32))])) t)
        refine XS.goto X623.here hx rfl (pc0 := 187) (pc' := 191) rfl (hb hby at_187) (by decide) (by decide) (?_ : Steps p.tables e below (T623.setTop (mkF m 191 #[.val (.int p0), .val (.int p1), .val (.int p2), .val (.int p3), .val (.int p4), .val (.int zn), .val (.int zk), .val (.int zh1), .val (.int zh2), .val (.int (1 : Int32)), .val (.ref b572), .val (.int zb), .val (.ref b578), .val (.ref b582), .val (.int za), .unset] [(.int (1 : Int32))])) t)
        have q_zex := (hzex.trans (if_pos hj170_624))
        subst q_zex
        exact k
      · refine XS.icmpNo X623.here hx rfl (hb hby at_170) rfl (feq hj170_624).1 (?_ : Steps p.tables e below (T623.setTop (mkF m 173 #[.val (.int p0), .val (.int p1), .val (.int p2), .val (.int p3), .val (.int p4), .val (.int zn), .val (.int zk), .val (.int zh1), .val (.int zh2), .val (.int (1 : Int32)), .val (.ref b572), .val (.int zb), .val (.ref b578), .val (.ref b582), .val (.int za), .unset] [])) t)
        refine XS.iload X623.here hx rfl (hb hby at_173) rfl  (?_ : Steps p.tables e below (T623.setTop (mkF m 175 #[.val (.int p0), .val (.int p1), .val (.int p2), .val (.int p3), .val (.int p4), .val (.int zn), .val (.int zk), .val (.int zh1), .val (.int zh2), .val (.int (1 : Int32)), .val (.ref b572), .val (.int zb), .val (.ref b578), .val (.ref b582), .val (.int za), .unset] [(.int (1 : Int32))])) t)
        refine XS.iconst X623.here hx rfl (hb hby at_175) (?_ : Steps p.tables e below (T623.setTop (mkF m 176 #[.val (.int p0), .val (.int p1), .val (.int p2), .val (.int p3), .val (.int p4), .val (.int zn), .val (.int zk), .val (.int zh1), .val (.int zh2), .val (.int (1 : Int32)), .val (.ref b572), .val (.int zb), .val (.ref b578), .val (.ref b582), .val (.int za), .unset] [(.int (2 : Int32)), (.int (1 : Int32))])) t)
        refine XS.icmpYes X623.here hx rfl (pc0 := 176) (pc' := 190) rfl (hb hby at_176) rfl (tlt (by decide)).1 (by decide) (by decide) (?_ : Steps p.tables e below (T623.setTop (mkF m 190 #[.val (.int p0), .val (.int p1), .val (.int p2), .val (.int p3), .val (.int p4), .val (.int zn), .val (.int zk), .val (.int zh1), .val (.int zh2), .val (.int (1 : Int32)), .val (.ref b572), .val (.int zb), .val (.ref b578), .val (.ref b582), .val (.int za), .unset] [])) t)
        refine XS.iconst X623.here hx rfl (hb hby at_190) (?_ : Steps p.tables e below (T623.setTop (mkF m 191 #[.val (.int p0), .val (.int p1), .val (.int p2), .val (.int p3), .val (.int p4), .val (.int zn), .val (.int zk), .val (.int zh1), .val (.int zh2), .val (.int (1 : Int32)), .val (.ref b572), .val (.int zb), .val (.ref b578), .val (.ref b582), .val (.int za), .unset] [(.int (0 : Int32))])) t)
        have q_zex := (hzex.trans (if_neg hj170_624))
        subst q_zex
        exact k
    refine own_via (T623.setTop (mkF m 193 #[.val (.int p0), .val (.int p1), .val (.int p2), .val (.int p3), .val (.int p4), .val (.int zn), .val (.int zk), .val (.int zh1), .val (.int zh2), .val (.int (1 : Int32)), .val (.ref b572), .val (.int zb), .val (.ref b578), .val (.ref b582), .val (.int za), .val (.int zex)] [])) (fun t k => XS.istore X623.here hx rfl (hb hby at_191) rfl (l' := #[.val (.int p0), .val (.int p1), .val (.int p2), .val (.int p3), .val (.int p4), .val (.int zn), .val (.int zk), .val (.int zh1), .val (.int zh2), .val (.int (1 : Int32)), .val (.ref b572), .val (.int zb), .val (.ref b578), .val (.ref b582), .val (.int za), .val (.int zex)]) rfl k) ?_
    have hbz : zb = 0 := hzb.trans (own_B (own_rem hzk (own_n hzn).1).1)
    have hlaw : za = zex := by rw [hza, hf622, hzex]; exact own_L1 (own_rem hzk (own_n hzn).1) (own_rem hzh1 (own_n hzn).1)
    refine own_via (T623.setTop (mkF m 195 #[.val (.int p0), .val (.int p1), .val (.int p2), .val (.int p3), .val (.int p4), .val (.int zn), .val (.int zk), .val (.int zh1), .val (.int zh2), .val (.int (1 : Int32)), .val (.ref b572), .val (.int zb), .val (.ref b578), .val (.ref b582), .val (.int za), .val (.int zex)] [(.int zb)])) (fun t k => XS.iload X623.here hx rfl (hb hby at_193) rfl  k) ?_
    refine own_via (T623.setTop (mkF m 198 #[.val (.int p0), .val (.int p1), .val (.int p2), .val (.int p3), .val (.int p4), .val (.int zn), .val (.int zk), .val (.int zh1), .val (.int zh2), .val (.int (1 : Int32)), .val (.ref b572), .val (.int zb), .val (.ref b578), .val (.ref b582), .val (.int za), .val (.int zex)] [])) (fun t k => XS.ifNo X623.here hx rfl (hb hby at_195) rfl ((if0 _ _).trans (teq hbz).2) k) ?_
    refine own_via (T623.setTop (mkF m 200 #[.val (.int p0), .val (.int p1), .val (.int p2), .val (.int p3), .val (.int p4), .val (.int zn), .val (.int zk), .val (.int zh1), .val (.int zh2), .val (.int (1 : Int32)), .val (.ref b572), .val (.int zb), .val (.ref b578), .val (.ref b582), .val (.int za), .val (.int zex)] [(.int za)])) (fun t k => XS.iload X623.here hx rfl (hb hby at_198) rfl  k) ?_
    refine own_via (T623.setTop (mkF m 202 #[.val (.int p0), .val (.int p1), .val (.int p2), .val (.int p3), .val (.int p4), .val (.int zn), .val (.int zk), .val (.int zh1), .val (.int zh2), .val (.int (1 : Int32)), .val (.ref b572), .val (.int zb), .val (.ref b578), .val (.ref b582), .val (.int za), .val (.int zex)] [(.int zex), (.int za)])) (fun t k => XS.iload X623.here hx rfl (hb hby at_200) rfl  k) ?_
    refine own_via (T623.setTop (mkF m 205 #[.val (.int p0), .val (.int p1), .val (.int p2), .val (.int p3), .val (.int p4), .val (.int zn), .val (.int zk), .val (.int zh1), .val (.int zh2), .val (.int (1 : Int32)), .val (.ref b572), .val (.int zb), .val (.ref b578), .val (.ref b582), .val (.int za), .val (.int zex)] [])) (fun t k => XS.icmpNo X623.here hx rfl (hb hby at_202) rfl (teq hlaw).2 k) ?_
    refine own_via (T623.setTop (mkF m 206 #[.val (.int p0), .val (.int p1), .val (.int p2), .val (.int p3), .val (.int p4), .val (.int zn), .val (.int zk), .val (.int zh1), .val (.int zh2), .val (.int (1 : Int32)), .val (.ref b572), .val (.int zb), .val (.ref b578), .val (.ref b582), .val (.int za), .val (.int zex)] [(.int (1 : Int32))])) (fun t k => XS.iconst X623.here hx rfl (hb hby at_205) k) ?_
    refine own_via (T623.setTop (mkF m 210 #[.val (.int p0), .val (.int p1), .val (.int p2), .val (.int p3), .val (.int p4), .val (.int zn), .val (.int zk), .val (.int zh1), .val (.int zh2), .val (.int (1 : Int32)), .val (.ref b572), .val (.int zb), .val (.ref b578), .val (.ref b582), .val (.int za), .val (.int zex)] [(.int (1 : Int32))])) (fun t k => XS.goto X623.here hx rfl (pc0 := 206) (pc' := 210) rfl (hb hby at_206) (by decide) (by decide) k) ?_
    refine own_leave X623 Bd.notSynchronized (v := some (.int (1 : Int32))) (fun h => by rw [Bd.returns] at h; cases h) (fun fs hr => retN X623 hx (t := .boolean) Bd.returns (by simp) (hb hby at_210) hr) ?_ (by decide) (by decide)
    exact ⟨rfl, N623⟩
  · subst hm
    refine own_via (T584.setTop (mkF m 80 #[.val (.int p0), .val (.int p1), .val (.int p2), .val (.int p3), .val (.int p4), .val (.int zn), .val (.int zk), .val (.int zh1), .val (.int zh2), .val (.int (2 : Int32)), .val (.ref b572), .val (.int zb), .val (.ref b578), .val (.ref b582), .unset, .unset] [(.int (2 : Int32))])) (fun t k => XS.iload X584.here hx rfl (hb hby at_78) rfl  k) ?_
    refine own_via (T584.setTop (mkF m 81 #[.val (.int p0), .val (.int p1), .val (.int p2), .val (.int p3), .val (.int p4), .val (.int zn), .val (.int zk), .val (.int zh1), .val (.int zh2), .val (.int (2 : Int32)), .val (.ref b572), .val (.int zb), .val (.ref b578), .val (.ref b582), .unset, .unset] [(.int (1 : Int32)), (.int (2 : Int32))])) (fun t k => XS.iconst X584.here hx rfl (hb hby at_80) k) ?_
    refine own_via (T584.setTop (mkF m 84 #[.val (.int p0), .val (.int p1), .val (.int p2), .val (.int p3), .val (.int p4), .val (.int zn), .val (.int zk), .val (.int zh1), .val (.int zh2), .val (.int (2 : Int32)), .val (.ref b572), .val (.int zb), .val (.ref b578), .val (.ref b582), .unset, .unset] [])) (fun t k => XS.icmpNo X584.here hx rfl (hb hby at_81) rfl (flt (by decide)).1 k) ?_
    refine own_via (T584.setTop (mkF m 86 #[.val (.int p0), .val (.int p1), .val (.int p2), .val (.int p3), .val (.int p4), .val (.int zn), .val (.int zk), .val (.int zh1), .val (.int zh2), .val (.int (2 : Int32)), .val (.ref b572), .val (.int zb), .val (.ref b578), .val (.ref b582), .unset, .unset] [(.ref b578)])) (fun t k => XS.aload X584.here hx rfl (hb hby at_84) rfl rfl k) ?_
    refine own_via (T584.setTop (mkF m 88 #[.val (.int p0), .val (.int p1), .val (.int p2), .val (.int p3), .val (.int p4), .val (.int zn), .val (.int zk), .val (.int zh1), .val (.int zh2), .val (.int (2 : Int32)), .val (.ref b572), .val (.int zb), .val (.ref b578), .val (.ref b582), .unset, .unset] [(.int zh1), (.ref b578)])) (fun t k => XS.iload X584.here hx rfl (hb hby at_86) rfl  k) ?_
    obtain ⟨_, _, ⟨T625, L625, k625, n625⟩, -, X625, ⟨Lc625, hQ625, l625, y625, z625⟩, st625⟩ := Jvm.LawKit.callS X584 hx (y := (⟨"com/example/unweave/unweave/abstraction/Operation", "ofHavoc", "(I)Lcom/example/unweave/unweave/abstraction/Operation;"⟩ : MethodName)) hown (mvT hZ (hw _ (List.mem_of_getElem? (i := 192) rfl))) (mvT hZ (hw _ (List.mem_of_getElem? (i := 193) rfl))) (mvT hZ (hw _ (List.mem_of_getElem? (i := 194) rfl))) (mvT hZ (hw _ (List.mem_of_getElem? (i := 195) rfl))) (by decide) (backOf (W := 1) (rm25 l Z a0 hw [] zh1 h584 n0 (Nat.le_trans Z0 K585.1) kA (own_stakeepW (ws := []) Q4 (fun x hx => nomatch hx) K585)) hZ (hw _ (List.mem_of_getElem? (i := 195) rfl)) (hw _ (List.mem_of_getElem? (i := 194) rfl)) (by decide) (by decide)) (g := (mkF m 88 #[.val (.int p0), .val (.int p1), .val (.int p2), .val (.int p3), .val (.int p4), .val (.int zn), .val (.int zk), .val (.int zh1), .val (.int zh2), .val (.int (2 : Int32)), .val (.ref b572), .val (.int zb), .val (.ref b578), .val (.ref b582), .unset, .unset] [(.int zh1), (.ref b578)])) rfl (by rw [hml]; rfl) (argsL := [(.int zh1)]) (rest := [(.ref b578)]) (lenOf pd_20 rfl) rfl (by show 2 * 0 + _ ≤ _; exact Nat.le_of_eq rfl) (hb hby at_88) (fun _ _ => ⟨rfl, e584, (by decide : 4 + 1 ≤ _), (by decide : 13 + 4 ≤ _)⟩)
    dsimp only [Pt.U, Pt.locs, Pt.cells, Pt.slots] at X625 l625 y625 z625 st625 hQ625
    rw [y625, z625] at X625
    have X625 : Stand _ _ _ _ _ _ _ _ _ _ T625 L625 5 17 := X625
    obtain ⟨h625, e625⟩ : ∃ h, T625.heap = h := ⟨_, rfl⟩
    rw [e625] at hQ625
    obtain ⟨r_625, rfl, N625q, K625q, gg_r_625, sq_r_625, G625_0, G625_1, G625_2⟩ := hQ625
    have N625 : Fr n0 L625 := by rw [l625]; exact Fr.app N584 N625q
    have sz_r_625 : h0.size ≤ r_625 := Nat.le_trans K585.1 sq_r_625
    have ne_dA_r_625 : dA ≠ r_625 := Nat.ne_of_lt (Nat.lt_of_lt_of_le ((((((Q1.ext E572).keep K574q (fun q => ne_dA_b572 (List.mem_singleton.mp q))).ext E578).keep K580q (fun q => ne_dA_b578 (List.mem_singleton.mp q))).ext E582).keep K584q (fun q => ne_dA_b582 (List.mem_singleton.mp q))).lt sq_r_625)
    have ne_kA_r_625 : kA ≠ r_625 := Nat.ne_of_lt (Nat.lt_of_lt_of_le ((((((Q5.ext E572).keep K574q).ext E578).keep K580q).ext E582).keep K584q).lt sq_r_625)
    have ne_swA_r_625 : swA ≠ r_625 := Nat.ne_of_lt (Nat.lt_of_lt_of_le ((((((Q8.ext E572).keep K574q (fun q => ne_swA_b572 (List.mem_singleton.mp q))).ext E578).keep K580q (fun q => ne_swA_b578 (List.mem_singleton.mp q))).ext E582).keep K584q (fun q => ne_swA_b582 (List.mem_singleton.mp q))).lt sq_r_625)
    have ne_b572_r_625 : b572 ≠ r_625 := Nat.ne_of_lt (Nat.lt_of_lt_of_le ((((G574_0.ext E578).keep K580q).ext E582).keep K584q).lt sq_r_625)
    have ne_r_574_r_625 : r_574 ≠ r_625 := Nat.ne_of_lt (Nat.lt_of_lt_of_le ((((G574_3.ext E578).keep K580q (fun q => ne_r_574_b578 (List.mem_singleton.mp q))).ext E582).keep K584q (fun q => ne_r_574_b582 (List.mem_singleton.mp q))).lt sq_r_625)
    have ne_b578_r_625 : b578 ≠ r_625 := Nat.ne_of_lt (Nat.lt_of_lt_of_le ((G580_0.ext E582).keep K584q).lt sq_r_625)
    have ne_b582_r_625 : b582 ≠ r_625 := Nat.ne_of_lt (Nat.lt_of_lt_of_le G584_0.lt sq_r_625)
    have K626 : Keep h0 h625 [] := K585.trans K625q (fun x hx => nomatch hx)
    refine own_via (T625.setTop (mkF m 91 #[.val (.int p0), .val (.int p1), .val (.int p2), .val (.int p3), .val (.int p4), .val (.int zn), .val (.int zk), .val (.int zh1), .val (.int zh2), .val (.int (2 : Int32)), .val (.ref b572), .val (.int zb), .val (.ref b578), .val (.ref b582), .unset, .unset] [(.ref r_625), (.ref b578)])) (fun t k => st625 t k) ?_
    have F628 := (((G580_0.ext E582).keep K584q).keep K625q)
    have F629 := (((G580_1.ext E582).keep K584q (fun q => ne_b578_b582 (List.mem_singleton.mp q))).keep K625q (by simp))
    have F630 := (((G580_2.ext E582).keep K584q (fun q => ne_b578_b582 (List.mem_singleton.mp q))).keep K625q (by simp))
    have F631 := (((G580_3.ext E582).keep K584q (fun q => ne_b578_b582 (List.mem_singleton.mp q))).keep K625q (by simp))
    have F632 := (((((((Q1.ext E572).keep K574q (fun q => ne_dA_b572 (List.mem_singleton.mp q))).ext E578).keep K580q (fun q => ne_dA_b578 (List.mem_singleton.mp q))).ext E582).keep K584q (fun q => ne_dA_b582 (List.mem_singleton.mp q))).keep K625q (by simp))
    obtain ⟨cq627, kq627, q627a, q627b, q627c⟩ := isOf hZ e625 F628
    obtain ⟨_, _, ⟨T627, L627, k627, n627⟩, -, X627, ⟨Lc627, hQ627, l627, y627, z627⟩, st627⟩ := X625.virtualBack hx (y := (⟨"java/util/ArrayList", "add", "(Ljava/lang/Object;)Z"⟩ : MethodName)) (z := (⟨"java/util/ArrayList", "add", "(Ljava/lang/Object;)Z"⟩ : MethodName)) hown (mvT hZ (hw _ (List.mem_of_getElem? (i := 213) rfl))) (mvT hZ (hw _ (List.mem_of_getElem? (i := 214) rfl))) (notFace_of_selects (args := #[]) (mvT hZ (hw _ (List.mem_of_getElem? (i := 216) rfl)))) (mvT hZ (hw _ (List.mem_of_getElem? (i := 216) rfl))) (mvT hZ (hw _ (List.mem_of_getElem? (i := 215) rfl))) (by decide) (backOf (W := 0) (rm27z l Z a0 hw [] b578 r_625 h625 n0 (Nat.le_trans Z0 K626.1) (0 : Int32) dA F628 F629 F630 F631 G625_0 (own_stakeepW (ws := []) Q0 (fun x hx => nomatch hx) K626) F632 gg_b578 ne_dA_b578) hZ (hw _ (List.mem_of_getElem? (i := 217) rfl)) (hw _ (List.mem_of_getElem? (i := 24) rfl)) (by decide) (by decide)) q627a q627c (g := (mkF m 91 #[.val (.int p0), .val (.int p1), .val (.int p2), .val (.int p3), .val (.int p4), .val (.int zn), .val (.int zk), .val (.int zh1), .val (.int zh2), .val (.int (2 : Int32)), .val (.ref b572), .val (.int zb), .val (.ref b578), .val (.ref b582), .unset, .unset] [(.ref r_625), (.ref b578)])) rfl (by rw [hml]; rfl) (Steps.refl _) (argsL := [(.ref r_625)]) (rest := []) (lenOf pd_21 rfl) rfl (by show 2 * 0 + _ ≤ _; exact Nat.le_of_eq rfl) (hb hby at_91) (fun _ _ => ⟨rfl, e625, (by decide : 5 + 1 ≤ _), (by decide : 17 + 10 ≤ _)⟩)
    dsimp only [Pt.U, Pt.locs, Pt.cells, Pt.slots] at X627 l627 y627 z627 st627 hQ627
    rw [y627, z627] at X627
    have X627 : Stand _ _ _ _ _ _ _ _ _ _ T627 L627 6 27 := X627
    obtain ⟨h627, e627⟩ : ∃ h, T627.heap = h := ⟨_, rfl⟩
    rw [e627] at hQ627
    obtain ⟨r_627, rfl, N627q, K627q, gg_r_627, sq_r_627, G627_0, G627_1, G627_2, G627_3, G627_4⟩ := hQ627
    have N627 : Fr n0 L627 := by rw [l627]; exact Fr.app N625 N627q
    have sz_r_627 : h0.size ≤ r_627 := Nat.le_trans K626.1 sq_r_627
    have ne_dA_r_627 : dA ≠ r_627 := Nat.ne_of_lt (Nat.lt_of_lt_of_le F632.lt sq_r_627)
    have ne_kA_r_627 : kA ≠ r_627 := Nat.ne_of_lt (Nat.lt_of_lt_of_le (((((((Q5.ext E572).keep K574q).ext E578).keep K580q).ext E582).keep K584q).keep K625q).lt sq_r_627)
    have ne_swA_r_627 : swA ≠ r_627 := Nat.ne_of_lt (Nat.lt_of_lt_of_le (((((((Q8.ext E572).keep K574q (fun q => ne_swA_b572 (List.mem_singleton.mp q))).ext E578).keep K580q (fun q => ne_swA_b578 (List.mem_singleton.mp q))).ext E582).keep K584q (fun q => ne_swA_b582 (List.mem_singleton.mp q))).keep K625q (by simp)).lt sq_r_627)
    have ne_b572_r_627 : b572 ≠ r_627 := Nat.ne_of_lt (Nat.lt_of_lt_of_le (((((G574_0.ext E578).keep K580q).ext E582).keep K584q).keep K625q).lt sq_r_627)
    have ne_r_574_r_627 : r_574 ≠ r_627 := Nat.ne_of_lt (Nat.lt_of_lt_of_le (((((G574_3.ext E578).keep K580q (fun q => ne_r_574_b578 (List.mem_singleton.mp q))).ext E582).keep K584q (fun q => ne_r_574_b582 (List.mem_singleton.mp q))).keep K625q (by simp)).lt sq_r_627)
    have ne_b578_r_627 : b578 ≠ r_627 := Nat.ne_of_lt (Nat.lt_of_lt_of_le F628.lt sq_r_627)
    have ne_b582_r_627 : b582 ≠ r_627 := Nat.ne_of_lt (Nat.lt_of_lt_of_le (G584_0.keep K625q).lt sq_r_627)
    have ne_r_625_r_627 : r_625 ≠ r_627 := Nat.ne_of_lt (Nat.lt_of_lt_of_le G625_0.lt sq_r_627)
    have K633 : Keep h0 h627 [] := K626.trans K627q (fun x hx => (List.mem_cons.mp hx).elim (fun e => e ▸ Or.inr sz_b578) (fun hx => nomatch hx))
    obtain ⟨z634, hz634⟩ : ∃ z : Int32, z = ((0 : Int32) + (1 : Int32)) := ⟨_, rfl⟩
    rw [← hz634] at G627_1
    refine own_via (T627.setTop (mkF m 94 #[.val (.int p0), .val (.int p1), .val (.int p2), .val (.int p3), .val (.int p4), .val (.int zn), .val (.int zk), .val (.int zh1), .val (.int zh2), .val (.int (2 : Int32)), .val (.ref b572), .val (.int zb), .val (.ref b578), .val (.ref b582), .unset, .unset] [(.int (1 : Int32))])) (fun t k => st627.trans k) ?_
    refine own_via (T627.setTop (mkF m 95 #[.val (.int p0), .val (.int p1), .val (.int p2), .val (.int p3), .val (.int p4), .val (.int zn), .val (.int zk), .val (.int zh1), .val (.int zh2), .val (.int (2 : Int32)), .val (.ref b572), .val (.int zb), .val (.ref b578), .val (.ref b582), .unset, .unset] [])) (fun t k => XS.pop X627.here hx rfl (hb hby at_94) rfl rfl k) ?_
    refine own_via (T627.setTop (mkF m 97 #[.val (.int p0), .val (.int p1), .val (.int p2), .val (.int p3), .val (.int p4), .val (.int zn), .val (.int zk), .val (.int zh1), .val (.int zh2), .val (.int (2 : Int32)), .val (.ref b572), .val (.int zb), .val (.ref b578), .val (.ref b582), .unset, .unset] [(.int (2 : Int32))])) (fun t k => XS.iload X627.here hx rfl (hb hby at_95) rfl  k) ?_
    refine own_via (T627.setTop (mkF m 98 #[.val (.int p0), .val (.int p1), .val (.int p2), .val (.int p3), .val (.int p4), .val (.int zn), .val (.int zk), .val (.int zh1), .val (.int zh2), .val (.int (2 : Int32)), .val (.ref b572), .val (.int zb), .val (.ref b578), .val (.ref b582), .unset, .unset] [(.int (2 : Int32)), (.int (2 : Int32))])) (fun t k => XS.iconst X627.here hx rfl (hb hby at_97) k) ?_
    refine own_via (T627.setTop (mkF m 101 #[.val (.int p0), .val (.int p1), .val (.int p2), .val (.int p3), .val (.int p4), .val (.int zn), .val (.int zk), .val (.int zh1), .val (.int zh2), .val (.int (2 : Int32)), .val (.ref b572), .val (.int zb), .val (.ref b578), .val (.ref b582), .unset, .unset] [])) (fun t k => XS.icmpNo X627.here hx rfl (hb hby at_98) rfl (teq (by decide)).2 k) ?_
    refine own_via (T627.setTop (mkF m 103 #[.val (.int p0), .val (.int p1), .val (.int p2), .val (.int p3), .val (.int p4), .val (.int zn), .val (.int zk), .val (.int zh1), .val (.int zh2), .val (.int (2 : Int32)), .val (.ref b572), .val (.int zb), .val (.ref b578), .val (.ref b582), .unset, .unset] [(.ref b578)])) (fun t k => XS.aload X627.here hx rfl (hb hby at_101) rfl rfl k) ?_
    refine own_via (T627.setTop (mkF m 105 #[.val (.int p0), .val (.int p1), .val (.int p2), .val (.int p3), .val (.int p4), .val (.int zn), .val (.int zk), .val (.int zh1), .val (.int zh2), .val (.int (2 : Int32)), .val (.ref b572), .val (.int zb), .val (.ref b578), .val (.ref b582), .unset, .unset] [(.int zh2), (.ref b578)])) (fun t k => XS.iload X627.here hx rfl (hb hby at_103) rfl  k) ?_
    obtain ⟨_, _, ⟨T635, L635, k635, n635⟩, -, X635, ⟨Lc635, hQ635, l635, y635, z635⟩, st635⟩ := Jvm.LawKit.callS X627 hx (y := (⟨"com/example/unweave/unweave/abstraction/Operation", "ofHavoc", "(I)Lcom/example/unweave/unweave/abstraction/Operation;"⟩ : MethodName)) hown (mvT hZ (hw _ (List.mem_of_getElem? (i := 192) rfl))) (mvT hZ (hw _ (List.mem_of_getElem? (i := 193) rfl))) (mvT hZ (hw _ (List.mem_of_getElem? (i := 194) rfl))) (mvT hZ (hw _ (List.mem_of_getElem? (i := 195) rfl))) (by decide) (backOf (W := 1) (rm25 l Z a0 hw [] zh2 h627 n0 (Nat.le_trans Z0 K633.1) kA (own_stakeepW (ws := []) Q4 (fun x hx => nomatch hx) K633)) hZ (hw _ (List.mem_of_getElem? (i := 195) rfl)) (hw _ (List.mem_of_getElem? (i := 194) rfl)) (by decide) (by decide)) (g := (mkF m 105 #[.val (.int p0), .val (.int p1), .val (.int p2), .val (.int p3), .val (.int p4), .val (.int zn), .val (.int zk), .val (.int zh1), .val (.int zh2), .val (.int (2 : Int32)), .val (.ref b572), .val (.int zb), .val (.ref b578), .val (.ref b582), .unset, .unset] [(.int zh2), (.ref b578)])) rfl (by rw [hml]; rfl) (argsL := [(.int zh2)]) (rest := [(.ref b578)]) (lenOf pd_20 rfl) rfl (by show 2 * 0 + _ ≤ _; exact Nat.le_of_eq rfl) (hb hby at_105) (fun _ _ => ⟨rfl, e627, (by decide : 6 + 1 ≤ _), (by decide : 27 + 4 ≤ _)⟩)
    dsimp only [Pt.U, Pt.locs, Pt.cells, Pt.slots] at X635 l635 y635 z635 st635 hQ635
    rw [y635, z635] at X635
    have X635 : Stand _ _ _ _ _ _ _ _ _ _ T635 L635 7 31 := X635
    obtain ⟨h635, e635⟩ : ∃ h, T635.heap = h := ⟨_, rfl⟩
    rw [e635] at hQ635
    obtain ⟨r_635, rfl, N635q, K635q, gg_r_635, sq_r_635, G635_0, G635_1, G635_2⟩ := hQ635
    have N635 : Fr n0 L635 := by rw [l635]; exact Fr.app N627 N635q
    have sz_r_635 : h0.size ≤ r_635 := Nat.le_trans K633.1 sq_r_635
    have ne_dA_r_635 : dA ≠ r_635 := Nat.ne_of_lt (Nat.lt_of_lt_of_le (F632.keep K627q (fun q => ne_dA_b578 (List.mem_singleton.mp q))).lt sq_r_635)
    have ne_kA_r_635 : kA ≠ r_635 := Nat.ne_of_lt (Nat.lt_of_lt_of_le ((((((((Q5.ext E572).keep K574q).ext E578).keep K580q).ext E582).keep K584q).keep K625q).keep K627q).lt sq_r_635)
    have ne_swA_r_635 : swA ≠ r_635 := Nat.ne_of_lt (Nat.lt_of_lt_of_le ((((((((Q8.ext E572).keep K574q (fun q => ne_swA_b572 (List.mem_singleton.mp q))).ext E578).keep K580q (fun q => ne_swA_b578 (List.mem_singleton.mp q))).ext E582).keep K584q (fun q => ne_swA_b582 (List.mem_singleton.mp q))).keep K625q (by simp)).keep K627q (fun q => ne_swA_b578 (List.mem_singleton.mp q))).lt sq_r_635)
    have ne_b572_r_635 : b572 ≠ r_635 := Nat.ne_of_lt (Nat.lt_of_lt_of_le ((((((G574_0.ext E578).keep K580q).ext E582).keep K584q).keep K625q).keep K627q).lt sq_r_635)
    have ne_r_574_r_635 : r_574 ≠ r_635 := Nat.ne_of_lt (Nat.lt_of_lt_of_le ((((((G574_3.ext E578).keep K580q (fun q => ne_r_574_b578 (List.mem_singleton.mp q))).ext E582).keep K584q (fun q => ne_r_574_b582 (List.mem_singleton.mp q))).keep K625q (by simp)).keep K627q (fun q => ne_r_574_b578 (List.mem_singleton.mp q))).lt sq_r_635)
    have ne_b578_r_635 : b578 ≠ r_635 := Nat.ne_of_lt (Nat.lt_of_lt_of_le G627_0.lt sq_r_635)
    have ne_b582_r_635 : b582 ≠ r_635 := Nat.ne_of_lt (Nat.lt_of_lt_of_le ((G584_0.keep K625q).keep K627q).lt sq_r_635)
    have ne_r_625_r_635 : r_625 ≠ r_635 := Nat.ne_of_lt (Nat.lt_of_lt_of_le (G625_0.keep K627q).lt sq_r_635)
    have ne_r_627_r_635 : r_627 ≠ r_635 := Nat.ne_of_lt (Nat.lt_of_lt_of_le G627_4.lt sq_r_635)
    have K636 : Keep h0 h635 [] := K633.trans K635q (fun x hx => nomatch hx)
    refine own_via (T635.setTop (mkF m 108 #[.val (.int p0), .val (.int p1), .val (.int p2), .val (.int p3), .val (.int p4), .val (.int zn), .val (.int zk), .val (.int zh1), .val (.int zh2), .val (.int (2 : Int32)), .val (.ref b572), .val (.int zb), .val (.ref b578), .val (.ref b582), .unset, .unset] [(.ref r_635), (.ref b578)])) (fun t k => st635 t k) ?_
    have F638 := (G627_0.keep K635q)
    have F639 := (G627_1.keep K635q (by simp))
    have F640 := (G627_2.keep K635q (by simp))
    have F641 := (G627_3.keep K635q (by simp))
    have F642 := (G627_4.keep K635q (by simp))
    obtain ⟨cq637, kq637, q637a, q637b, q637c⟩ := isOf hZ e635 F638
    obtain ⟨_, _, ⟨T637, L637, k637, n637⟩, -, X637, ⟨Lc637, hQ637, l637, y637, z637⟩, st637⟩ := X635.virtualBack hx (y := (⟨"java/util/ArrayList", "add", "(Ljava/lang/Object;)Z"⟩ : MethodName)) (z := (⟨"java/util/ArrayList", "add", "(Ljava/lang/Object;)Z"⟩ : MethodName)) hown (mvT hZ (hw _ (List.mem_of_getElem? (i := 213) rfl))) (mvT hZ (hw _ (List.mem_of_getElem? (i := 214) rfl))) (notFace_of_selects (args := #[]) (mvT hZ (hw _ (List.mem_of_getElem? (i := 216) rfl)))) (mvT hZ (hw _ (List.mem_of_getElem? (i := 216) rfl))) (mvT hZ (hw _ (List.mem_of_getElem? (i := 215) rfl))) (by decide) (backOf (W := 0) (rm27o l Z a0 hw [] b578 r_635 h635 n0 (Nat.le_trans Z0 K636.1) z634 r_627 r_625 F638 F639 F640 F641 G635_0 F642 gg_b578 gg_r_627 (Ne.symm ne_b578_r_627)) hZ (hw _ (List.mem_of_getElem? (i := 217) rfl)) (hw _ (List.mem_of_getElem? (i := 24) rfl)) (by decide) (by decide)) q637a q637c (g := (mkF m 108 #[.val (.int p0), .val (.int p1), .val (.int p2), .val (.int p3), .val (.int p4), .val (.int zn), .val (.int zk), .val (.int zh1), .val (.int zh2), .val (.int (2 : Int32)), .val (.ref b572), .val (.int zb), .val (.ref b578), .val (.ref b582), .unset, .unset] [(.ref r_635), (.ref b578)])) rfl (by rw [hml]; rfl) (Steps.refl _) (argsL := [(.ref r_635)]) (rest := []) (lenOf pd_21 rfl) rfl (by show 2 * 0 + _ ≤ _; exact Nat.le_of_eq rfl) (hb hby at_108) (fun _ _ => ⟨rfl, e635, (by decide : 7 + 0 ≤ _), (by decide : 31 + 0 ≤ _)⟩)
    dsimp only [Pt.U, Pt.locs, Pt.cells, Pt.slots] at X637 l637 y637 z637 st637 hQ637
    rw [y637, z637] at X637
    have X637 : Stand _ _ _ _ _ _ _ _ _ _ T637 L637 7 31 := X637
    obtain ⟨h637, e637⟩ : ∃ h, T637.heap = h := ⟨_, rfl⟩
    rw [e637] at hQ637
    obtain ⟨rfl, N637q, K637q, G637_0, G637_1, G637_2, G637_3, G637_4⟩ := hQ637
    have N637 : Fr n0 L637 := by rw [l637]; exact Fr.app N635 N637q
    have mq637 : ∀ x ∈ [b578, r_627], x ∈ [] ∨ h0.size ≤ x := by
      intro x hx
      rcases List.mem_cons.mp hx with e | hx
      · rw [e]; exact Or.inr sz_b578
      rw [List.mem_singleton.mp hx]; exact Or.inr sz_r_627
    have K643 : Keep h0 h637 [] := K636.trans K637q mq637
    obtain ⟨z644, hz644⟩ : ∃ z : Int32, z = (z634 + (1 : Int32)) := ⟨_, rfl⟩
    rw [← hz644] at G637_1
    refine own_via (T637.setTop (mkF m 111 #[.val (.int p0), .val (.int p1), .val (.int p2), .val (.int p3), .val (.int p4), .val (.int zn), .val (.int zk), .val (.int zh1), .val (.int zh2), .val (.int (2 : Int32)), .val (.ref b572), .val (.int zb), .val (.ref b578), .val (.ref b582), .unset, .unset] [(.int (1 : Int32))])) (fun t k => st637.trans k) ?_
    refine own_via (T637.setTop (mkF m 112 #[.val (.int p0), .val (.int p1), .val (.int p2), .val (.int p3), .val (.int p4), .val (.int zn), .val (.int zk), .val (.int zh1), .val (.int zh2), .val (.int (2 : Int32)), .val (.ref b572), .val (.int zb), .val (.ref b578), .val (.ref b582), .unset, .unset] [])) (fun t k => XS.pop X637.here hx rfl (hb hby at_111) rfl rfl k) ?_
    refine own_via (T637.setTop (mkF m 114 #[.val (.int p0), .val (.int p1), .val (.int p2), .val (.int p3), .val (.int p4), .val (.int zn), .val (.int zk), .val (.int zh1), .val (.int zh2), .val (.int (2 : Int32)), .val (.ref b572), .val (.int zb), .val (.ref b578), .val (.ref b582), .unset, .unset] [(.int (2 : Int32))])) (fun t k => XS.iload X637.here hx rfl (hb hby at_112) rfl  k) ?_
    refine own_via (T637.setTop (mkF m 115 #[.val (.int p0), .val (.int p1), .val (.int p2), .val (.int p3), .val (.int p4), .val (.int zn), .val (.int zk), .val (.int zh1), .val (.int zh2), .val (.int (2 : Int32)), .val (.ref b572), .val (.int zb), .val (.ref b578), .val (.ref b582), .unset, .unset] [(.int (3 : Int32)), (.int (2 : Int32))])) (fun t k => XS.iconst X637.here hx rfl (hb hby at_114) k) ?_
    refine own_via (T637.setTop (mkF m 129 #[.val (.int p0), .val (.int p1), .val (.int p2), .val (.int p3), .val (.int p4), .val (.int zn), .val (.int zk), .val (.int zh1), .val (.int zh2), .val (.int (2 : Int32)), .val (.ref b572), .val (.int zb), .val (.ref b578), .val (.ref b582), .unset, .unset] [])) (fun t k => XS.icmpYes X637.here hx rfl (pc0 := 115) (pc' := 129) rfl (hb hby at_115) rfl (feq (by decide)).2 (by decide) (by decide) k) ?_
    refine own_via (T637.setTop (mkF m 131 #[.val (.int p0), .val (.int p1), .val (.int p2), .val (.int p3), .val (.int p4), .val (.int zn), .val (.int zk), .val (.int zh1), .val (.int zh2), .val (.int (2 : Int32)), .val (.ref b572), .val (.int zb), .val (.ref b578), .val (.ref b582), .unset, .unset] [(.ref b572)])) (fun t k => XS.aload X637.here hx rfl (hb hby at_129) rfl rfl k) ?_
    refine own_via (T637.setTop (mkF m 133 #[.val (.int p0), .val (.int p1), .val (.int p2), .val (.int p3), .val (.int p4), .val (.int zn), .val (.int zk), .val (.int zh1), .val (.int zh2), .val (.int (2 : Int32)), .val (.ref b572), .val (.int zb), .val (.ref b578), .val (.ref b582), .unset, .unset] [(.ref b578), (.ref b572)])) (fun t k => XS.aload X637.here hx rfl (hb hby at_131) rfl rfl k) ?_
    have F646 := ((((((((G574_0.ext E578).keep K580q).ext E582).keep K584q).keep K625q).keep K627q).keep K635q).keep K637q)
    have F647 := ((((((((G574_1.ext E578).keep K580q (fun q => ne_b572_b578 (List.mem_singleton.mp q))).ext E582).keep K584q (fun q => ne_b572_b582 (List.mem_singleton.mp q))).keep K625q (by simp)).keep K627q (fun q => ne_b572_b578 (List.mem_singleton.mp q))).keep K635q (by simp)).keep K637q (fun q => (List.mem_cons.mp q).elim ne_b572_b578 (fun q => (List.mem_cons.mp q).elim ne_b572_r_627 (fun q => nomatch q))))
    have F648 := ((((((((G574_2.ext E578).keep K580q (fun q => ne_b572_b578 (List.mem_singleton.mp q))).ext E582).keep K584q (fun q => ne_b572_b582 (List.mem_singleton.mp q))).keep K625q (by simp)).keep K627q (fun q => ne_b572_b578 (List.mem_singleton.mp q))).keep K635q (by simp)).keep K637q (fun q => (List.mem_cons.mp q).elim ne_b572_b578 (fun q => (List.mem_cons.mp q).elim ne_b572_r_627 (fun q => nomatch q))))
    have F649 := ((((((((G574_3.ext E578).keep K580q (fun q => ne_r_574_b578 (List.mem_singleton.mp q))).ext E582).keep K584q (fun q => ne_r_574_b582 (List.mem_singleton.mp q))).keep K625q (by simp)).keep K627q (fun q => ne_r_574_b578 (List.mem_singleton.mp q))).keep K635q (by simp)).keep K637q (fun q => (List.mem_cons.mp q).elim ne_r_574_b578 (fun q => (List.mem_cons.mp q).elim ne_r_574_r_627 (fun q => nomatch q))))
    have F650 := (((G625_0.keep K627q).keep K635q).keep K637q)
    have F651 := (((G625_1.keep K627q (fun q => (Ne.symm ne_b578_r_625) (List.mem_singleton.mp q))).keep K635q (by simp)).keep K637q (fun q => (List.mem_cons.mp q).elim (Ne.symm ne_b578_r_625) (fun q => (List.mem_cons.mp q).elim ne_r_625_r_627 (fun q => nomatch q))))
    have F652 := (((G625_2.keep K627q (fun q => (Ne.symm ne_b578_r_625) (List.mem_singleton.mp q))).keep K635q (by simp)).keep K637q (fun q => (List.mem_cons.mp q).elim (Ne.symm ne_b578_r_625) (fun q => (List.mem_cons.mp q).elim ne_r_625_r_627 (fun q => nomatch q))))
    have F653 := (G635_0.keep K637q)
    have F654 := (G635_1.keep K637q (fun q => (List.mem_cons.mp q).elim (Ne.symm ne_b578_r_635) (fun q => (List.mem_cons.mp q).elim (Ne.symm ne_r_627_r_635) (fun q => nomatch q))))
    have F655 := (G635_2.keep K637q (fun q => (List.mem_cons.mp q).elim (Ne.symm ne_b578_r_635) (fun q => (List.mem_cons.mp q).elim (Ne.symm ne_r_627_r_635) (fun q => nomatch q))))
    have F656 := ((((((((((Q5.ext E572).keep K574q).ext E578).keep K580q).ext E582).keep K584q).keep K625q).keep K627q).keep K635q).keep K637q)
    have F657 := ((((((((((Q6.ext E572).keep K574q (fun q => ne_kA_b572 (List.mem_singleton.mp q))).ext E578).keep K580q (fun q => ne_kA_b578 (List.mem_singleton.mp q))).ext E582).keep K584q (fun q => ne_kA_b582 (List.mem_singleton.mp q))).keep K625q (by simp)).keep K627q (fun q => ne_kA_b578 (List.mem_singleton.mp q))).keep K635q (by simp)).keep K637q (fun q => (List.mem_cons.mp q).elim ne_kA_b578 (fun q => (List.mem_cons.mp q).elim ne_kA_r_627 (fun q => nomatch q))))
    have F658 := ((((((((((Q8.ext E572).keep K574q (fun q => ne_swA_b572 (List.mem_singleton.mp q))).ext E578).keep K580q (fun q => ne_swA_b578 (List.mem_singleton.mp q))).ext E582).keep K584q (fun q => ne_swA_b582 (List.mem_singleton.mp q))).keep K625q (by simp)).keep K627q (fun q => ne_swA_b578 (List.mem_singleton.mp q))).keep K635q (by simp)).keep K637q (fun q => (List.mem_cons.mp q).elim ne_swA_b578 (fun q => (List.mem_cons.mp q).elim ne_swA_r_627 (fun q => nomatch q))))
    obtain ⟨cq645, kq645, q645a, q645b, q645c⟩ := isOf hZ e637 F646
    obtain ⟨_, _, ⟨T645, L645, k645, n645⟩, -, X645, ⟨Lc645, hQ645, l645, y645, z645⟩, st645⟩ := X637.virtualBack hx (y := (⟨"com/example/unweave/unweave/abstraction/PathEncoding", "encode", "(Ljava/util/List;)Lcom/example/unweave/unweave/arith/Formula;"⟩ : MethodName)) (z := (⟨"com/example/unweave/unweave/abstraction/PathEncoding", "encode", "(Ljava/util/List;)Lcom/example/unweave/unweave/arith/Formula;"⟩ : MethodName)) hown (mvT hZ (hw _ (List.mem_of_getElem? (i := 46) rfl))) (mvT hZ (hw _ (List.mem_of_getElem? (i := 47) rfl))) (notFace_of_selects (args := #[]) (mvT hZ (hw _ (List.mem_of_getElem? (i := 49) rfl)))) (mvT hZ (hw _ (List.mem_of_getElem? (i := 49) rfl))) (mvT hZ (hw _ (List.mem_of_getElem? (i := 48) rfl))) (by decide) (backOf (W := 0) (rm7e2 l Z a0 hw [] b572 b578 h637 n0 (Nat.le_trans Z0 K643.1) r_574 zn N576n own_id z644 r_627 tA fA dA r_625 r_635 kA swA sw zh1 zh2 F646 F647 F648 F649 G637_0 G637_1 G637_2 G637_3 (own_stakeepW (ws := []) Q2 (fun x hx => nomatch hx) K643) (own_stakeepW (ws := []) Q3 (fun x hx => nomatch hx) K643) (own_stakeepW (ws := []) Q0 (fun x hx => nomatch hx) K643) G637_4 F650 F651 F652 F653 F654 F655 F656 F657 (own_stakeepW (ws := []) Q7 (fun x hx => nomatch hx) K643) F658 gg_b572 gg_r_574 (own_kb hN576n hzn hzh1) (own_kb hN576n hzn hzh2) hsw (Ne.symm ne_b572_b578) (Ne.symm ne_r_574_b578) (Ne.symm ne_b572_r_627) (Ne.symm ne_r_574_r_627) ne_kA_b572 ne_kA_r_574 ne_swA_b572 ne_swA_r_574 (Ne.symm ne_b572_r_625) (Ne.symm ne_r_574_r_625) (Ne.symm ne_b572_r_635) (Ne.symm ne_r_574_r_635) (Ne.symm ne_b572_r_574)) hZ (hw _ (List.mem_of_getElem? (i := 50) rfl)) (hw _ (List.mem_of_getElem? (i := 3) rfl)) (by decide) (by decide)) q645a q645c (g := (mkF m 133 #[.val (.int p0), .val (.int p1), .val (.int p2), .val (.int p3), .val (.int p4), .val (.int zn), .val (.int zk), .val (.int zh1), .val (.int zh2), .val (.int (2 : Int32)), .val (.ref b572), .val (.int zb), .val (.ref b578), .val (.ref b582), .unset, .unset] [(.ref b578), (.ref b572)])) rfl (by rw [hml]; rfl) (Steps.refl _) (argsL := [(.ref b578)]) (rest := []) (lenOf pd_14 rfl) rfl (by show 2 * 0 + _ ≤ _; exact Nat.le_of_eq rfl) (hb hby at_133) (fun _ _ => ⟨rfl, e637, (by decide : 7 + 6 ≤ _), (by decide : 31 + 32 ≤ _)⟩)
    dsimp only [Pt.U, Pt.locs, Pt.cells, Pt.slots] at X645 l645 y645 z645 st645 hQ645
    rw [y645, z645] at X645
    have X645 : Stand _ _ _ _ _ _ _ _ _ _ T645 L645 13 63 := X645
    obtain ⟨h645, e645⟩ : ∃ h, T645.heap = h := ⟨_, rfl⟩
    rw [e645] at hQ645
    obtain ⟨rfl, N645q, K645q, G645_0, G645_1, G645_2, G645_3⟩ := hQ645
    have N645 : Fr n0 L645 := by rw [l645]; exact Fr.app N637 N645q
    have mq645 : ∀ x ∈ [b572, r_574], x ∈ [] ∨ h0.size ≤ x := by
      intro x hx
      rcases List.mem_cons.mp hx with e | hx
      · rw [e]; exact Or.inr sz_b572
      rw [List.mem_singleton.mp hx]; exact Or.inr sz_r_574
    have K659 : Keep h0 h645 [] := K643.trans K645q mq645
    obtain ⟨z660, hz660⟩ : ∃ z : Int32, z = ((zn + (1 : Int32)) + (1 : Int32)) := ⟨_, rfl⟩
    rw [← hz660] at G645_2
    obtain ⟨f661, hf661⟩ : ∃ g : Nat → Int32, g = (own_up (own_up own_id zh1.toInt.toNat zn) zh2.toInt.toNat (zn + (1 : Int32))) := ⟨_, rfl⟩
    rw [← hf661] at G645_3
    refine own_via (T645.setTop (mkF m 136 #[.val (.int p0), .val (.int p1), .val (.int p2), .val (.int p3), .val (.int p4), .val (.int zn), .val (.int zk), .val (.int zh1), .val (.int zh2), .val (.int (2 : Int32)), .val (.ref b572), .val (.int zb), .val (.ref b578), .val (.ref b582), .unset, .unset] [(.ref tA)])) (fun t k => st645.trans k) ?_
    refine own_via (T645.setTop (mkF m 137 #[.val (.int p0), .val (.int p1), .val (.int p2), .val (.int p3), .val (.int p4), .val (.int zn), .val (.int zk), .val (.int zh1), .val (.int zh2), .val (.int (2 : Int32)), .val (.ref b572), .val (.int zb), .val (.ref b578), .val (.ref b582), .unset, .unset] [])) (fun t k => XS.pop X645.here hx rfl (hb hby at_136) rfl rfl k) ?_
    refine own_via (T645.setTop (mkF m 139 #[.val (.int p0), .val (.int p1), .val (.int p2), .val (.int p3), .val (.int p4), .val (.int zn), .val (.int zk), .val (.int zh1), .val (.int zh2), .val (.int (2 : Int32)), .val (.ref b572), .val (.int zb), .val (.ref b578), .val (.ref b582), .unset, .unset] [(.int (2 : Int32))])) (fun t k => XS.iload X645.here hx rfl (hb hby at_137) rfl  k) ?_
    refine own_via (T645.setTop (mkF m 140 #[.val (.int p0), .val (.int p1), .val (.int p2), .val (.int p3), .val (.int p4), .val (.int zn), .val (.int zk), .val (.int zh1), .val (.int zh2), .val (.int (2 : Int32)), .val (.ref b572), .val (.int zb), .val (.ref b578), .val (.ref b582), .unset, .unset] [(.int (3 : Int32)), (.int (2 : Int32))])) (fun t k => XS.iconst X645.here hx rfl (hb hby at_139) k) ?_
    refine own_via (T645.setTop (mkF m 151 #[.val (.int p0), .val (.int p1), .val (.int p2), .val (.int p3), .val (.int p4), .val (.int zn), .val (.int zk), .val (.int zh1), .val (.int zh2), .val (.int (2 : Int32)), .val (.ref b572), .val (.int zb), .val (.ref b578), .val (.ref b582), .unset, .unset] [])) (fun t k => XS.icmpYes X645.here hx rfl (pc0 := 140) (pc' := 151) rfl (hb hby at_140) rfl (feq (by decide)).2 (by decide) (by decide) k) ?_
    refine own_via (T645.setTop (mkF m 153 #[.val (.int p0), .val (.int p1), .val (.int p2), .val (.int p3), .val (.int p4), .val (.int zn), .val (.int zk), .val (.int zh1), .val (.int zh2), .val (.int (2 : Int32)), .val (.ref b572), .val (.int zb), .val (.ref b578), .val (.ref b582), .unset, .unset] [(.ref b572)])) (fun t k => XS.aload X645.here hx rfl (hb hby at_151) rfl rfl k) ?_
    refine own_via (T645.setTop (mkF m 155 #[.val (.int p0), .val (.int p1), .val (.int p2), .val (.int p3), .val (.int p4), .val (.int zn), .val (.int zk), .val (.int zh1), .val (.int zh2), .val (.int (2 : Int32)), .val (.ref b572), .val (.int zb), .val (.ref b578), .val (.ref b582), .unset, .unset] [(.int zk), (.ref b572)])) (fun t k => XS.iload X645.here hx rfl (hb hby at_153) rfl  k) ?_
    obtain ⟨cq662, kq662, q662a, q662b, q662c⟩ := isOf hZ e645 G645_0
    obtain ⟨_, _, ⟨T662, L662, k662, n662⟩, -, X662, ⟨Lc662, hQ662, l662, y662, z662⟩, st662⟩ := X645.virtualBack hx (y := (⟨"com/example/unweave/unweave/abstraction/PathEncoding", "isChanged", "(I)Z"⟩ : MethodName)) (z := (⟨"com/example/unweave/unweave/abstraction/PathEncoding", "isChanged", "(I)Z"⟩ : MethodName)) hown (mvT hZ (hw _ (List.mem_of_getElem? (i := 17) rfl))) (mvT hZ (hw _ (List.mem_of_getElem? (i := 18) rfl))) (notFace_of_selects (args := #[]) (mvT hZ (hw _ (List.mem_of_getElem? (i := 20) rfl)))) (mvT hZ (hw _ (List.mem_of_getElem? (i := 20) rfl))) (mvT hZ (hw _ (List.mem_of_getElem? (i := 19) rfl))) (by decide) (backOf (W := 0) (rm3 l Z a0 hw [] b572 zk h645 n0 (Nat.le_trans Z0 K659.1) r_574 N576n f661 G645_1 G645_3 (own_kb hN576n hzn hzk)) hZ (hw _ (List.mem_of_getElem? (i := 21) rfl)) (hw _ (List.mem_of_getElem? (i := 3) rfl)) (by decide) (by decide)) q662a q662c (g := (mkF m 155 #[.val (.int p0), .val (.int p1), .val (.int p2), .val (.int p3), .val (.int p4), .val (.int zn), .val (.int zk), .val (.int zh1), .val (.int zh2), .val (.int (2 : Int32)), .val (.ref b572), .val (.int zb), .val (.ref b578), .val (.ref b582), .unset, .unset] [(.int zk), (.ref b572)])) rfl (by rw [hml]; rfl) (Steps.refl _) (argsL := [(.int zk)]) (rest := []) (lenOf pd_19 rfl) rfl (by show 2 * 0 + _ ≤ _; exact Nat.le_of_eq rfl) (hb hby at_155) (fun _ _ => ⟨rfl, e645, (by decide : 13 + 0 ≤ _), (by decide : 63 + 0 ≤ _)⟩)
    dsimp only [Pt.U, Pt.locs, Pt.cells, Pt.slots] at X662 l662 y662 z662 st662 hQ662
    rw [y662, z662] at X662
    have X662 : Stand _ _ _ _ _ _ _ _ _ _ T662 L662 13 63 := X662
    obtain ⟨rfl, N662q, e662⟩ := hQ662
    have N662 : Fr n0 L662 := by rw [l662]; exact Fr.app N645 N662q
    refine own_via (T662.setTop (mkF m 158 #[.val (.int p0), .val (.int p1), .val (.int p2), .val (.int p3), .val (.int p4), .val (.int zn), .val (.int zk), .val (.int zh1), .val (.int zh2), .val (.int (2 : Int32)), .val (.ref b572), .val (.int zb), .val (.ref b578), .val (.ref b582), .unset, .unset] [(.int (own_ch zk f661))])) (fun t k => st662.trans k) ?_
    obtain ⟨za, hza⟩ : ∃ z : Int32, z = (own_ch zk f661) := ⟨_, rfl⟩
    refine own_via (T662.setTop (mkF m 160 #[.val (.int p0), .val (.int p1), .val (.int p2), .val (.int p3), .val (.int p4), .val (.int zn), .val (.int zk), .val (.int zh1), .val (.int zh2), .val (.int (2 : Int32)), .val (.ref b572), .val (.int zb), .val (.ref b578), .val (.ref b582), .val (.int za), .unset] [])) (fun t k => XS.istore X662.here hx rfl (hb hby at_158) rfl (l' := #[.val (.int p0), .val (.int p1), .val (.int p2), .val (.int p3), .val (.int p4), .val (.int zn), .val (.int zk), .val (.int zh1), .val (.int zh2), .val (.int (2 : Int32)), .val (.ref b572), .val (.int zb), .val (.ref b578), .val (.ref b582), .val (.int za), .unset]) (by rw [hza]; rfl) k) ?_
    refine own_via (T662.setTop (mkF m 162 #[.val (.int p0), .val (.int p1), .val (.int p2), .val (.int p3), .val (.int p4), .val (.int zn), .val (.int zk), .val (.int zh1), .val (.int zh2), .val (.int (2 : Int32)), .val (.ref b572), .val (.int zb), .val (.ref b578), .val (.ref b582), .val (.int za), .unset] [(.int (2 : Int32))])) (fun t k => XS.iload X662.here hx rfl (hb hby at_160) rfl  k) ?_
    refine own_via (T662.setTop (mkF m 163 #[.val (.int p0), .val (.int p1), .val (.int p2), .val (.int p3), .val (.int p4), .val (.int zn), .val (.int zk), .val (.int zh1), .val (.int zh2), .val (.int (2 : Int32)), .val (.ref b572), .val (.int zb), .val (.ref b578), .val (.ref b582), .val (.int za), .unset] [(.int (1 : Int32)), (.int (2 : Int32))])) (fun t k => XS.iconst X662.here hx rfl (hb hby at_162) k) ?_
    refine own_via (T662.setTop (mkF m 166 #[.val (.int p0), .val (.int p1), .val (.int p2), .val (.int p3), .val (.int p4), .val (.int zn), .val (.int zk), .val (.int zh1), .val (.int zh2), .val (.int (2 : Int32)), .val (.ref b572), .val (.int zb), .val (.ref b578), .val (.ref b582), .val (.int za), .unset] [])) (fun t k => XS.icmpNo X662.here hx rfl (hb hby at_163) rfl (flt (by decide)).1 k) ?_
    refine own_via (T662.setTop (mkF m 168 #[.val (.int p0), .val (.int p1), .val (.int p2), .val (.int p3), .val (.int p4), .val (.int zn), .val (.int zk), .val (.int zh1), .val (.int zh2), .val (.int (2 : Int32)), .val (.ref b572), .val (.int zb), .val (.ref b578), .val (.ref b582), .val (.int za), .unset] [(.int zk)])) (fun t k => XS.iload X662.here hx rfl (hb hby at_166) rfl  k) ?_
    refine own_via (T662.setTop (mkF m 170 #[.val (.int p0), .val (.int p1), .val (.int p2), .val (.int p3), .val (.int p4), .val (.int zn), .val (.int zk), .val (.int zh1), .val (.int zh2), .val (.int (2 : Int32)), .val (.ref b572), .val (.int zb), .val (.ref b578), .val (.ref b582), .val (.int za), .unset] [(.int zh1), (.int zk)])) (fun t k => XS.iload X662.here hx rfl (hb hby at_168) rfl  k) ?_
    obtain ⟨zex, hzex⟩ : ∃ z : Int32, z = (if zk = zh1 then (1 : Int32) else (if zk = zh2 then (1 : Int32) else (0 : Int32))) := ⟨_, rfl⟩
    refine own_via (T662.setTop (mkF m 191 #[.val (.int p0), .val (.int p1), .val (.int p2), .val (.int p3), .val (.int p4), .val (.int zn), .val (.int zk), .val (.int zh1), .val (.int zh2), .val (.int (2 : Int32)), .val (.ref b572), .val (.int zb), .val (.ref b578), .val (.ref b582), .val (.int za), .unset] [(.int zex)])) (fun t k => ?_) ?_
    · skip
      by_cases hj170_663 : zk = zh1
      · refine XS.icmpYes X662.here hx rfl (pc0 := 170) (pc' := 186) rfl (hb hby at_170) rfl (teq hj170_663).1 (by decide) (by decide) (?_ : Steps p.tables e below (T662.setTop (mkF m 186 #[.val (.int p0), .val (.int p1), .val (.int p2), .val (.int p3), .val (.int p4), .val (.int zn), .val (.int zk), .val (.int zh1), .val (.int zh2), .val (.int (2 : Int32)), .val (.ref b572), .val (.int zb), .val (.ref b578), .val (.ref b582), .val (.int za), .unset] [])) t)
        refine XS.iconst X662.here hx rfl (hb hby at_186) (?_ : Steps p.tables e below (T662.setTop (mkF m 187 #[.val (.int p0), .val (.int p1), .val (.int p2), .val (.int p3), .val (.int p4), .val (.int zn), .val (.int zk), .val (.int zh1), .val (.int zh2), .val (.int (2 : Int32)), .val (.ref b572), .val (.int zb), .val (.ref b578), .val (.ref b582), .val (.int za), .unset] [(.int (1 : Int32))])) t)
        refine XS.goto X662.here hx rfl (pc0 := 187) (pc' := 191) rfl (hb hby at_187) (by decide) (by decide) (?_ : Steps p.tables e below (T662.setTop (mkF m 191 #[.val (.int p0), .val (.int p1), .val (.int p2), .val (.int p3), .val (.int p4), .val (.int zn), .val (.int zk), .val (.int zh1), .val (.int zh2), .val (.int (2 : Int32)), .val (.ref b572), .val (.int zb), .val (.ref b578), .val (.ref b582), .val (.int za), .unset] [(.int (1 : Int32))])) t)
        have q_zex := (hzex.trans (if_pos hj170_663))
        subst q_zex
        exact k
      · refine XS.icmpNo X662.here hx rfl (hb hby at_170) rfl (feq hj170_663).1 (?_ : Steps p.tables e below (T662.setTop (mkF m 173 #[.val (.int p0), .val (.int p1), .val (.int p2), .val (.int p3), .val (.int p4), .val (.int zn), .val (.int zk), .val (.int zh1), .val (.int zh2), .val (.int (2 : Int32)), .val (.ref b572), .val (.int zb), .val (.ref b578), .val (.ref b582), .val (.int za), .unset] [])) t)
        refine XS.iload X662.here hx rfl (hb hby at_173) rfl  (?_ : Steps p.tables e below (T662.setTop (mkF m 175 #[.val (.int p0), .val (.int p1), .val (.int p2), .val (.int p3), .val (.int p4), .val (.int zn), .val (.int zk), .val (.int zh1), .val (.int zh2), .val (.int (2 : Int32)), .val (.ref b572), .val (.int zb), .val (.ref b578), .val (.ref b582), .val (.int za), .unset] [(.int (2 : Int32))])) t)
        refine XS.iconst X662.here hx rfl (hb hby at_175) (?_ : Steps p.tables e below (T662.setTop (mkF m 176 #[.val (.int p0), .val (.int p1), .val (.int p2), .val (.int p3), .val (.int p4), .val (.int zn), .val (.int zk), .val (.int zh1), .val (.int zh2), .val (.int (2 : Int32)), .val (.ref b572), .val (.int zb), .val (.ref b578), .val (.ref b582), .val (.int za), .unset] [(.int (2 : Int32)), (.int (2 : Int32))])) t)
        refine XS.icmpNo X662.here hx rfl (hb hby at_176) rfl (flt (by decide)).1 (?_ : Steps p.tables e below (T662.setTop (mkF m 179 #[.val (.int p0), .val (.int p1), .val (.int p2), .val (.int p3), .val (.int p4), .val (.int zn), .val (.int zk), .val (.int zh1), .val (.int zh2), .val (.int (2 : Int32)), .val (.ref b572), .val (.int zb), .val (.ref b578), .val (.ref b582), .val (.int za), .unset] [])) t)
        refine XS.iload X662.here hx rfl (hb hby at_179) rfl  (?_ : Steps p.tables e below (T662.setTop (mkF m 181 #[.val (.int p0), .val (.int p1), .val (.int p2), .val (.int p3), .val (.int p4), .val (.int zn), .val (.int zk), .val (.int zh1), .val (.int zh2), .val (.int (2 : Int32)), .val (.ref b572), .val (.int zb), .val (.ref b578), .val (.ref b582), .val (.int za), .unset] [(.int zk)])) t)
        refine XS.iload X662.here hx rfl (hb hby at_181) rfl  (?_ : Steps p.tables e below (T662.setTop (mkF m 183 #[.val (.int p0), .val (.int p1), .val (.int p2), .val (.int p3), .val (.int p4), .val (.int zn), .val (.int zk), .val (.int zh1), .val (.int zh2), .val (.int (2 : Int32)), .val (.ref b572), .val (.int zb), .val (.ref b578), .val (.ref b582), .val (.int za), .unset] [(.int zh2), (.int zk)])) t)
        by_cases hj183_664 : zk = zh2
        · refine XS.icmpNo X662.here hx rfl (hb hby at_183) rfl (teq hj183_664).2 (?_ : Steps p.tables e below (T662.setTop (mkF m 186 #[.val (.int p0), .val (.int p1), .val (.int p2), .val (.int p3), .val (.int p4), .val (.int zn), .val (.int zk), .val (.int zh1), .val (.int zh2), .val (.int (2 : Int32)), .val (.ref b572), .val (.int zb), .val (.ref b578), .val (.ref b582), .val (.int za), .unset] [])) t)
          refine XS.iconst X662.here hx rfl (hb hby at_186) (?_ : Steps p.tables e below (T662.setTop (mkF m 187 #[.val (.int p0), .val (.int p1), .val (.int p2), .val (.int p3), .val (.int p4), .val (.int zn), .val (.int zk), .val (.int zh1), .val (.int zh2), .val (.int (2 : Int32)), .val (.ref b572), .val (.int zb), .val (.ref b578), .val (.ref b582), .val (.int za), .unset] [(.int (1 : Int32))])) t)
          refine XS.goto X662.here hx rfl (pc0 := 187) (pc' := 191) rfl (hb hby at_187) (by decide) (by decide) (?_ : Steps p.tables e below (T662.setTop (mkF m 191 #[.val (.int p0), .val (.int p1), .val (.int p2), .val (.int p3), .val (.int p4), .val (.int zn), .val (.int zk), .val (.int zh1), .val (.int zh2), .val (.int (2 : Int32)), .val (.ref b572), .val (.int zb), .val (.ref b578), .val (.ref b582), .val (.int za), .unset] [(.int (1 : Int32))])) t)
          have q_zex := ((hzex.trans (if_neg hj170_663)).trans (if_pos hj183_664))
          subst q_zex
          exact k
        · refine XS.icmpYes X662.here hx rfl (pc0 := 183) (pc' := 190) rfl (hb hby at_183) rfl (feq hj183_664).2 (by decide) (by decide) (?_ : Steps p.tables e below (T662.setTop (mkF m 190 #[.val (.int p0), .val (.int p1), .val (.int p2), .val (.int p3), .val (.int p4), .val (.int zn), .val (.int zk), .val (.int zh1), .val (.int zh2), .val (.int (2 : Int32)), .val (.ref b572), .val (.int zb), .val (.ref b578), .val (.ref b582), .val (.int za), .unset] [])) t)
          refine XS.iconst X662.here hx rfl (hb hby at_190) (?_ : Steps p.tables e below (T662.setTop (mkF m 191 #[.val (.int p0), .val (.int p1), .val (.int p2), .val (.int p3), .val (.int p4), .val (.int zn), .val (.int zk), .val (.int zh1), .val (.int zh2), .val (.int (2 : Int32)), .val (.ref b572), .val (.int zb), .val (.ref b578), .val (.ref b582), .val (.int za), .unset] [(.int (0 : Int32))])) t)
          have q_zex := ((hzex.trans (if_neg hj170_663)).trans (if_neg hj183_664))
          subst q_zex
          exact k
    refine own_via (T662.setTop (mkF m 193 #[.val (.int p0), .val (.int p1), .val (.int p2), .val (.int p3), .val (.int p4), .val (.int zn), .val (.int zk), .val (.int zh1), .val (.int zh2), .val (.int (2 : Int32)), .val (.ref b572), .val (.int zb), .val (.ref b578), .val (.ref b582), .val (.int za), .val (.int zex)] [])) (fun t k => XS.istore X662.here hx rfl (hb hby at_191) rfl (l' := #[.val (.int p0), .val (.int p1), .val (.int p2), .val (.int p3), .val (.int p4), .val (.int zn), .val (.int zk), .val (.int zh1), .val (.int zh2), .val (.int (2 : Int32)), .val (.ref b572), .val (.int zb), .val (.ref b578), .val (.ref b582), .val (.int za), .val (.int zex)]) rfl k) ?_
    have hbz : zb = 0 := hzb.trans (own_B (own_rem hzk (own_n hzn).1).1)
    have hlaw : za = zex := by rw [hza, hf661, hzex]; exact own_L2 (own_n hzn) (own_rem hzk (own_n hzn).1) (own_rem hzh1 (own_n hzn).1) (own_rem hzh2 (own_n hzn).1)
    refine own_via (T662.setTop (mkF m 195 #[.val (.int p0), .val (.int p1), .val (.int p2), .val (.int p3), .val (.int p4), .val (.int zn), .val (.int zk), .val (.int zh1), .val (.int zh2), .val (.int (2 : Int32)), .val (.ref b572), .val (.int zb), .val (.ref b578), .val (.ref b582), .val (.int za), .val (.int zex)] [(.int zb)])) (fun t k => XS.iload X662.here hx rfl (hb hby at_193) rfl  k) ?_
    refine own_via (T662.setTop (mkF m 198 #[.val (.int p0), .val (.int p1), .val (.int p2), .val (.int p3), .val (.int p4), .val (.int zn), .val (.int zk), .val (.int zh1), .val (.int zh2), .val (.int (2 : Int32)), .val (.ref b572), .val (.int zb), .val (.ref b578), .val (.ref b582), .val (.int za), .val (.int zex)] [])) (fun t k => XS.ifNo X662.here hx rfl (hb hby at_195) rfl ((if0 _ _).trans (teq hbz).2) k) ?_
    refine own_via (T662.setTop (mkF m 200 #[.val (.int p0), .val (.int p1), .val (.int p2), .val (.int p3), .val (.int p4), .val (.int zn), .val (.int zk), .val (.int zh1), .val (.int zh2), .val (.int (2 : Int32)), .val (.ref b572), .val (.int zb), .val (.ref b578), .val (.ref b582), .val (.int za), .val (.int zex)] [(.int za)])) (fun t k => XS.iload X662.here hx rfl (hb hby at_198) rfl  k) ?_
    refine own_via (T662.setTop (mkF m 202 #[.val (.int p0), .val (.int p1), .val (.int p2), .val (.int p3), .val (.int p4), .val (.int zn), .val (.int zk), .val (.int zh1), .val (.int zh2), .val (.int (2 : Int32)), .val (.ref b572), .val (.int zb), .val (.ref b578), .val (.ref b582), .val (.int za), .val (.int zex)] [(.int zex), (.int za)])) (fun t k => XS.iload X662.here hx rfl (hb hby at_200) rfl  k) ?_
    refine own_via (T662.setTop (mkF m 205 #[.val (.int p0), .val (.int p1), .val (.int p2), .val (.int p3), .val (.int p4), .val (.int zn), .val (.int zk), .val (.int zh1), .val (.int zh2), .val (.int (2 : Int32)), .val (.ref b572), .val (.int zb), .val (.ref b578), .val (.ref b582), .val (.int za), .val (.int zex)] [])) (fun t k => XS.icmpNo X662.here hx rfl (hb hby at_202) rfl (teq hlaw).2 k) ?_
    refine own_via (T662.setTop (mkF m 206 #[.val (.int p0), .val (.int p1), .val (.int p2), .val (.int p3), .val (.int p4), .val (.int zn), .val (.int zk), .val (.int zh1), .val (.int zh2), .val (.int (2 : Int32)), .val (.ref b572), .val (.int zb), .val (.ref b578), .val (.ref b582), .val (.int za), .val (.int zex)] [(.int (1 : Int32))])) (fun t k => XS.iconst X662.here hx rfl (hb hby at_205) k) ?_
    refine own_via (T662.setTop (mkF m 210 #[.val (.int p0), .val (.int p1), .val (.int p2), .val (.int p3), .val (.int p4), .val (.int zn), .val (.int zk), .val (.int zh1), .val (.int zh2), .val (.int (2 : Int32)), .val (.ref b572), .val (.int zb), .val (.ref b578), .val (.ref b582), .val (.int za), .val (.int zex)] [(.int (1 : Int32))])) (fun t k => XS.goto X662.here hx rfl (pc0 := 206) (pc' := 210) rfl (hb hby at_206) (by decide) (by decide) k) ?_
    refine own_leave X662 Bd.notSynchronized (v := some (.int (1 : Int32))) (fun h => by rw [Bd.returns] at h; cases h) (fun fs hr => retN X662 hx (t := .boolean) Bd.returns (by simp) (hb hby at_210) hr) ?_ (by decide) (by decide)
    exact ⟨rfl, N662⟩
  · subst hm
    refine own_via (T584.setTop (mkF m 80 #[.val (.int p0), .val (.int p1), .val (.int p2), .val (.int p3), .val (.int p4), .val (.int zn), .val (.int zk), .val (.int zh1), .val (.int zh2), .val (.int (3 : Int32)), .val (.ref b572), .val (.int zb), .val (.ref b578), .val (.ref b582), .unset, .unset] [(.int (3 : Int32))])) (fun t k => XS.iload X584.here hx rfl (hb hby at_78) rfl  k) ?_
    refine own_via (T584.setTop (mkF m 81 #[.val (.int p0), .val (.int p1), .val (.int p2), .val (.int p3), .val (.int p4), .val (.int zn), .val (.int zk), .val (.int zh1), .val (.int zh2), .val (.int (3 : Int32)), .val (.ref b572), .val (.int zb), .val (.ref b578), .val (.ref b582), .unset, .unset] [(.int (1 : Int32)), (.int (3 : Int32))])) (fun t k => XS.iconst X584.here hx rfl (hb hby at_80) k) ?_
    refine own_via (T584.setTop (mkF m 84 #[.val (.int p0), .val (.int p1), .val (.int p2), .val (.int p3), .val (.int p4), .val (.int zn), .val (.int zk), .val (.int zh1), .val (.int zh2), .val (.int (3 : Int32)), .val (.ref b572), .val (.int zb), .val (.ref b578), .val (.ref b582), .unset, .unset] [])) (fun t k => XS.icmpNo X584.here hx rfl (hb hby at_81) rfl (flt (by decide)).1 k) ?_
    refine own_via (T584.setTop (mkF m 86 #[.val (.int p0), .val (.int p1), .val (.int p2), .val (.int p3), .val (.int p4), .val (.int zn), .val (.int zk), .val (.int zh1), .val (.int zh2), .val (.int (3 : Int32)), .val (.ref b572), .val (.int zb), .val (.ref b578), .val (.ref b582), .unset, .unset] [(.ref b578)])) (fun t k => XS.aload X584.here hx rfl (hb hby at_84) rfl rfl k) ?_
    refine own_via (T584.setTop (mkF m 88 #[.val (.int p0), .val (.int p1), .val (.int p2), .val (.int p3), .val (.int p4), .val (.int zn), .val (.int zk), .val (.int zh1), .val (.int zh2), .val (.int (3 : Int32)), .val (.ref b572), .val (.int zb), .val (.ref b578), .val (.ref b582), .unset, .unset] [(.int zh1), (.ref b578)])) (fun t k => XS.iload X584.here hx rfl (hb hby at_86) rfl  k) ?_
    obtain ⟨_, _, ⟨T665, L665, k665, n665⟩, -, X665, ⟨Lc665, hQ665, l665, y665, z665⟩, st665⟩ := Jvm.LawKit.callS X584 hx (y := (⟨"com/example/unweave/unweave/abstraction/Operation", "ofHavoc", "(I)Lcom/example/unweave/unweave/abstraction/Operation;"⟩ : MethodName)) hown (mvT hZ (hw _ (List.mem_of_getElem? (i := 192) rfl))) (mvT hZ (hw _ (List.mem_of_getElem? (i := 193) rfl))) (mvT hZ (hw _ (List.mem_of_getElem? (i := 194) rfl))) (mvT hZ (hw _ (List.mem_of_getElem? (i := 195) rfl))) (by decide) (backOf (W := 1) (rm25 l Z a0 hw [] zh1 h584 n0 (Nat.le_trans Z0 K585.1) kA (own_stakeepW (ws := []) Q4 (fun x hx => nomatch hx) K585)) hZ (hw _ (List.mem_of_getElem? (i := 195) rfl)) (hw _ (List.mem_of_getElem? (i := 194) rfl)) (by decide) (by decide)) (g := (mkF m 88 #[.val (.int p0), .val (.int p1), .val (.int p2), .val (.int p3), .val (.int p4), .val (.int zn), .val (.int zk), .val (.int zh1), .val (.int zh2), .val (.int (3 : Int32)), .val (.ref b572), .val (.int zb), .val (.ref b578), .val (.ref b582), .unset, .unset] [(.int zh1), (.ref b578)])) rfl (by rw [hml]; rfl) (argsL := [(.int zh1)]) (rest := [(.ref b578)]) (lenOf pd_20 rfl) rfl (by show 2 * 0 + _ ≤ _; exact Nat.le_of_eq rfl) (hb hby at_88) (fun _ _ => ⟨rfl, e584, (by decide : 4 + 1 ≤ _), (by decide : 13 + 4 ≤ _)⟩)
    dsimp only [Pt.U, Pt.locs, Pt.cells, Pt.slots] at X665 l665 y665 z665 st665 hQ665
    rw [y665, z665] at X665
    have X665 : Stand _ _ _ _ _ _ _ _ _ _ T665 L665 5 17 := X665
    obtain ⟨h665, e665⟩ : ∃ h, T665.heap = h := ⟨_, rfl⟩
    rw [e665] at hQ665
    obtain ⟨r_665, rfl, N665q, K665q, gg_r_665, sq_r_665, G665_0, G665_1, G665_2⟩ := hQ665
    have N665 : Fr n0 L665 := by rw [l665]; exact Fr.app N584 N665q
    have sz_r_665 : h0.size ≤ r_665 := Nat.le_trans K585.1 sq_r_665
    have ne_dA_r_665 : dA ≠ r_665 := Nat.ne_of_lt (Nat.lt_of_lt_of_le ((((((Q1.ext E572).keep K574q (fun q => ne_dA_b572 (List.mem_singleton.mp q))).ext E578).keep K580q (fun q => ne_dA_b578 (List.mem_singleton.mp q))).ext E582).keep K584q (fun q => ne_dA_b582 (List.mem_singleton.mp q))).lt sq_r_665)
    have ne_kA_r_665 : kA ≠ r_665 := Nat.ne_of_lt (Nat.lt_of_lt_of_le ((((((Q5.ext E572).keep K574q).ext E578).keep K580q).ext E582).keep K584q).lt sq_r_665)
    have ne_swA_r_665 : swA ≠ r_665 := Nat.ne_of_lt (Nat.lt_of_lt_of_le ((((((Q8.ext E572).keep K574q (fun q => ne_swA_b572 (List.mem_singleton.mp q))).ext E578).keep K580q (fun q => ne_swA_b578 (List.mem_singleton.mp q))).ext E582).keep K584q (fun q => ne_swA_b582 (List.mem_singleton.mp q))).lt sq_r_665)
    have ne_b572_r_665 : b572 ≠ r_665 := Nat.ne_of_lt (Nat.lt_of_lt_of_le ((((G574_0.ext E578).keep K580q).ext E582).keep K584q).lt sq_r_665)
    have ne_r_574_r_665 : r_574 ≠ r_665 := Nat.ne_of_lt (Nat.lt_of_lt_of_le ((((G574_3.ext E578).keep K580q (fun q => ne_r_574_b578 (List.mem_singleton.mp q))).ext E582).keep K584q (fun q => ne_r_574_b582 (List.mem_singleton.mp q))).lt sq_r_665)
    have ne_b578_r_665 : b578 ≠ r_665 := Nat.ne_of_lt (Nat.lt_of_lt_of_le ((G580_0.ext E582).keep K584q).lt sq_r_665)
    have ne_b582_r_665 : b582 ≠ r_665 := Nat.ne_of_lt (Nat.lt_of_lt_of_le G584_0.lt sq_r_665)
    have K666 : Keep h0 h665 [] := K585.trans K665q (fun x hx => nomatch hx)
    refine own_via (T665.setTop (mkF m 91 #[.val (.int p0), .val (.int p1), .val (.int p2), .val (.int p3), .val (.int p4), .val (.int zn), .val (.int zk), .val (.int zh1), .val (.int zh2), .val (.int (3 : Int32)), .val (.ref b572), .val (.int zb), .val (.ref b578), .val (.ref b582), .unset, .unset] [(.ref r_665), (.ref b578)])) (fun t k => st665 t k) ?_
    have F668 := (((G580_0.ext E582).keep K584q).keep K665q)
    have F669 := (((G580_1.ext E582).keep K584q (fun q => ne_b578_b582 (List.mem_singleton.mp q))).keep K665q (by simp))
    have F670 := (((G580_2.ext E582).keep K584q (fun q => ne_b578_b582 (List.mem_singleton.mp q))).keep K665q (by simp))
    have F671 := (((G580_3.ext E582).keep K584q (fun q => ne_b578_b582 (List.mem_singleton.mp q))).keep K665q (by simp))
    have F672 := (((((((Q1.ext E572).keep K574q (fun q => ne_dA_b572 (List.mem_singleton.mp q))).ext E578).keep K580q (fun q => ne_dA_b578 (List.mem_singleton.mp q))).ext E582).keep K584q (fun q => ne_dA_b582 (List.mem_singleton.mp q))).keep K665q (by simp))
    obtain ⟨cq667, kq667, q667a, q667b, q667c⟩ := isOf hZ e665 F668
    obtain ⟨_, _, ⟨T667, L667, k667, n667⟩, -, X667, ⟨Lc667, hQ667, l667, y667, z667⟩, st667⟩ := X665.virtualBack hx (y := (⟨"java/util/ArrayList", "add", "(Ljava/lang/Object;)Z"⟩ : MethodName)) (z := (⟨"java/util/ArrayList", "add", "(Ljava/lang/Object;)Z"⟩ : MethodName)) hown (mvT hZ (hw _ (List.mem_of_getElem? (i := 213) rfl))) (mvT hZ (hw _ (List.mem_of_getElem? (i := 214) rfl))) (notFace_of_selects (args := #[]) (mvT hZ (hw _ (List.mem_of_getElem? (i := 216) rfl)))) (mvT hZ (hw _ (List.mem_of_getElem? (i := 216) rfl))) (mvT hZ (hw _ (List.mem_of_getElem? (i := 215) rfl))) (by decide) (backOf (W := 0) (rm27z l Z a0 hw [] b578 r_665 h665 n0 (Nat.le_trans Z0 K666.1) (0 : Int32) dA F668 F669 F670 F671 G665_0 (own_stakeepW (ws := []) Q0 (fun x hx => nomatch hx) K666) F672 gg_b578 ne_dA_b578) hZ (hw _ (List.mem_of_getElem? (i := 217) rfl)) (hw _ (List.mem_of_getElem? (i := 24) rfl)) (by decide) (by decide)) q667a q667c (g := (mkF m 91 #[.val (.int p0), .val (.int p1), .val (.int p2), .val (.int p3), .val (.int p4), .val (.int zn), .val (.int zk), .val (.int zh1), .val (.int zh2), .val (.int (3 : Int32)), .val (.ref b572), .val (.int zb), .val (.ref b578), .val (.ref b582), .unset, .unset] [(.ref r_665), (.ref b578)])) rfl (by rw [hml]; rfl) (Steps.refl _) (argsL := [(.ref r_665)]) (rest := []) (lenOf pd_21 rfl) rfl (by show 2 * 0 + _ ≤ _; exact Nat.le_of_eq rfl) (hb hby at_91) (fun _ _ => ⟨rfl, e665, (by decide : 5 + 1 ≤ _), (by decide : 17 + 10 ≤ _)⟩)
    dsimp only [Pt.U, Pt.locs, Pt.cells, Pt.slots] at X667 l667 y667 z667 st667 hQ667
    rw [y667, z667] at X667
    have X667 : Stand _ _ _ _ _ _ _ _ _ _ T667 L667 6 27 := X667
    obtain ⟨h667, e667⟩ : ∃ h, T667.heap = h := ⟨_, rfl⟩
    rw [e667] at hQ667
    obtain ⟨r_667, rfl, N667q, K667q, gg_r_667, sq_r_667, G667_0, G667_1, G667_2, G667_3, G667_4⟩ := hQ667
    have N667 : Fr n0 L667 := by rw [l667]; exact Fr.app N665 N667q
    have sz_r_667 : h0.size ≤ r_667 := Nat.le_trans K666.1 sq_r_667
    have ne_dA_r_667 : dA ≠ r_667 := Nat.ne_of_lt (Nat.lt_of_lt_of_le F672.lt sq_r_667)
    have ne_kA_r_667 : kA ≠ r_667 := Nat.ne_of_lt (Nat.lt_of_lt_of_le (((((((Q5.ext E572).keep K574q).ext E578).keep K580q).ext E582).keep K584q).keep K665q).lt sq_r_667)
    have ne_swA_r_667 : swA ≠ r_667 := Nat.ne_of_lt (Nat.lt_of_lt_of_le (((((((Q8.ext E572).keep K574q (fun q => ne_swA_b572 (List.mem_singleton.mp q))).ext E578).keep K580q (fun q => ne_swA_b578 (List.mem_singleton.mp q))).ext E582).keep K584q (fun q => ne_swA_b582 (List.mem_singleton.mp q))).keep K665q (by simp)).lt sq_r_667)
    have ne_b572_r_667 : b572 ≠ r_667 := Nat.ne_of_lt (Nat.lt_of_lt_of_le (((((G574_0.ext E578).keep K580q).ext E582).keep K584q).keep K665q).lt sq_r_667)
    have ne_r_574_r_667 : r_574 ≠ r_667 := Nat.ne_of_lt (Nat.lt_of_lt_of_le (((((G574_3.ext E578).keep K580q (fun q => ne_r_574_b578 (List.mem_singleton.mp q))).ext E582).keep K584q (fun q => ne_r_574_b582 (List.mem_singleton.mp q))).keep K665q (by simp)).lt sq_r_667)
    have ne_b578_r_667 : b578 ≠ r_667 := Nat.ne_of_lt (Nat.lt_of_lt_of_le F668.lt sq_r_667)
    have ne_b582_r_667 : b582 ≠ r_667 := Nat.ne_of_lt (Nat.lt_of_lt_of_le (G584_0.keep K665q).lt sq_r_667)
    have ne_r_665_r_667 : r_665 ≠ r_667 := Nat.ne_of_lt (Nat.lt_of_lt_of_le G665_0.lt sq_r_667)
    have K673 : Keep h0 h667 [] := K666.trans K667q (fun x hx => (List.mem_cons.mp hx).elim (fun e => e ▸ Or.inr sz_b578) (fun hx => nomatch hx))
    obtain ⟨z674, hz674⟩ : ∃ z : Int32, z = ((0 : Int32) + (1 : Int32)) := ⟨_, rfl⟩
    rw [← hz674] at G667_1
    refine own_via (T667.setTop (mkF m 94 #[.val (.int p0), .val (.int p1), .val (.int p2), .val (.int p3), .val (.int p4), .val (.int zn), .val (.int zk), .val (.int zh1), .val (.int zh2), .val (.int (3 : Int32)), .val (.ref b572), .val (.int zb), .val (.ref b578), .val (.ref b582), .unset, .unset] [(.int (1 : Int32))])) (fun t k => st667.trans k) ?_
    refine own_via (T667.setTop (mkF m 95 #[.val (.int p0), .val (.int p1), .val (.int p2), .val (.int p3), .val (.int p4), .val (.int zn), .val (.int zk), .val (.int zh1), .val (.int zh2), .val (.int (3 : Int32)), .val (.ref b572), .val (.int zb), .val (.ref b578), .val (.ref b582), .unset, .unset] [])) (fun t k => XS.pop X667.here hx rfl (hb hby at_94) rfl rfl k) ?_
    refine own_via (T667.setTop (mkF m 97 #[.val (.int p0), .val (.int p1), .val (.int p2), .val (.int p3), .val (.int p4), .val (.int zn), .val (.int zk), .val (.int zh1), .val (.int zh2), .val (.int (3 : Int32)), .val (.ref b572), .val (.int zb), .val (.ref b578), .val (.ref b582), .unset, .unset] [(.int (3 : Int32))])) (fun t k => XS.iload X667.here hx rfl (hb hby at_95) rfl  k) ?_
    refine own_via (T667.setTop (mkF m 98 #[.val (.int p0), .val (.int p1), .val (.int p2), .val (.int p3), .val (.int p4), .val (.int zn), .val (.int zk), .val (.int zh1), .val (.int zh2), .val (.int (3 : Int32)), .val (.ref b572), .val (.int zb), .val (.ref b578), .val (.ref b582), .unset, .unset] [(.int (2 : Int32)), (.int (3 : Int32))])) (fun t k => XS.iconst X667.here hx rfl (hb hby at_97) k) ?_
    refine own_via (T667.setTop (mkF m 112 #[.val (.int p0), .val (.int p1), .val (.int p2), .val (.int p3), .val (.int p4), .val (.int zn), .val (.int zk), .val (.int zh1), .val (.int zh2), .val (.int (3 : Int32)), .val (.ref b572), .val (.int zb), .val (.ref b578), .val (.ref b582), .unset, .unset] [])) (fun t k => XS.icmpYes X667.here hx rfl (pc0 := 98) (pc' := 112) rfl (hb hby at_98) rfl (feq (by decide)).2 (by decide) (by decide) k) ?_
    refine own_via (T667.setTop (mkF m 114 #[.val (.int p0), .val (.int p1), .val (.int p2), .val (.int p3), .val (.int p4), .val (.int zn), .val (.int zk), .val (.int zh1), .val (.int zh2), .val (.int (3 : Int32)), .val (.ref b572), .val (.int zb), .val (.ref b578), .val (.ref b582), .unset, .unset] [(.int (3 : Int32))])) (fun t k => XS.iload X667.here hx rfl (hb hby at_112) rfl  k) ?_
    refine own_via (T667.setTop (mkF m 115 #[.val (.int p0), .val (.int p1), .val (.int p2), .val (.int p3), .val (.int p4), .val (.int zn), .val (.int zk), .val (.int zh1), .val (.int zh2), .val (.int (3 : Int32)), .val (.ref b572), .val (.int zb), .val (.ref b578), .val (.ref b582), .unset, .unset] [(.int (3 : Int32)), (.int (3 : Int32))])) (fun t k => XS.iconst X667.here hx rfl (hb hby at_114) k) ?_
    refine own_via (T667.setTop (mkF m 118 #[.val (.int p0), .val (.int p1), .val (.int p2), .val (.int p3), .val (.int p4), .val (.int zn), .val (.int zk), .val (.int zh1), .val (.int zh2), .val (.int (3 : Int32)), .val (.ref b572), .val (.int zb), .val (.ref b578), .val (.ref b582), .unset, .unset] [])) (fun t k => XS.icmpNo X667.here hx rfl (hb hby at_115) rfl (teq (by decide)).2 k) ?_
    refine own_via (T667.setTop (mkF m 120 #[.val (.int p0), .val (.int p1), .val (.int p2), .val (.int p3), .val (.int p4), .val (.int zn), .val (.int zk), .val (.int zh1), .val (.int zh2), .val (.int (3 : Int32)), .val (.ref b572), .val (.int zb), .val (.ref b578), .val (.ref b582), .unset, .unset] [(.ref b582)])) (fun t k => XS.aload X667.here hx rfl (hb hby at_118) rfl rfl k) ?_
    refine own_via (T667.setTop (mkF m 122 #[.val (.int p0), .val (.int p1), .val (.int p2), .val (.int p3), .val (.int p4), .val (.int zn), .val (.int zk), .val (.int zh1), .val (.int zh2), .val (.int (3 : Int32)), .val (.ref b572), .val (.int zb), .val (.ref b578), .val (.ref b582), .unset, .unset] [(.int zh2), (.ref b582)])) (fun t k => XS.iload X667.here hx rfl (hb hby at_120) rfl  k) ?_
    obtain ⟨_, _, ⟨T675, L675, k675, n675⟩, -, X675, ⟨Lc675, hQ675, l675, y675, z675⟩, st675⟩ := Jvm.LawKit.callS X667 hx (y := (⟨"com/example/unweave/unweave/abstraction/Operation", "ofHavoc", "(I)Lcom/example/unweave/unweave/abstraction/Operation;"⟩ : MethodName)) hown (mvT hZ (hw _ (List.mem_of_getElem? (i := 192) rfl))) (mvT hZ (hw _ (List.mem_of_getElem? (i := 193) rfl))) (mvT hZ (hw _ (List.mem_of_getElem? (i := 194) rfl))) (mvT hZ (hw _ (List.mem_of_getElem? (i := 195) rfl))) (by decide) (backOf (W := 1) (rm25 l Z a0 hw [] zh2 h667 n0 (Nat.le_trans Z0 K673.1) kA (own_stakeepW (ws := []) Q4 (fun x hx => nomatch hx) K673)) hZ (hw _ (List.mem_of_getElem? (i := 195) rfl)) (hw _ (List.mem_of_getElem? (i := 194) rfl)) (by decide) (by decide)) (g := (mkF m 122 #[.val (.int p0), .val (.int p1), .val (.int p2), .val (.int p3), .val (.int p4), .val (.int zn), .val (.int zk), .val (.int zh1), .val (.int zh2), .val (.int (3 : Int32)), .val (.ref b572), .val (.int zb), .val (.ref b578), .val (.ref b582), .unset, .unset] [(.int zh2), (.ref b582)])) rfl (by rw [hml]; rfl) (argsL := [(.int zh2)]) (rest := [(.ref b582)]) (lenOf pd_20 rfl) rfl (by show 2 * 0 + _ ≤ _; exact Nat.le_of_eq rfl) (hb hby at_122) (fun _ _ => ⟨rfl, e667, (by decide : 6 + 1 ≤ _), (by decide : 27 + 4 ≤ _)⟩)
    dsimp only [Pt.U, Pt.locs, Pt.cells, Pt.slots] at X675 l675 y675 z675 st675 hQ675
    rw [y675, z675] at X675
    have X675 : Stand _ _ _ _ _ _ _ _ _ _ T675 L675 7 31 := X675
    obtain ⟨h675, e675⟩ : ∃ h, T675.heap = h := ⟨_, rfl⟩
    rw [e675] at hQ675
    obtain ⟨r_675, rfl, N675q, K675q, gg_r_675, sq_r_675, G675_0, G675_1, G675_2⟩ := hQ675
    have N675 : Fr n0 L675 := by rw [l675]; exact Fr.app N667 N675q
    have sz_r_675 : h0.size ≤ r_675 := Nat.le_trans K673.1 sq_r_675
    have ne_dA_r_675 : dA ≠ r_675 := Nat.ne_of_lt (Nat.lt_of_lt_of_le (F672.keep K667q (fun q => ne_dA_b578 (List.mem_singleton.mp q))).lt sq_r_675)
    have ne_kA_r_675 : kA ≠ r_675 := Nat.ne_of_lt (Nat.lt_of_lt_of_le ((((((((Q5.ext E572).keep K574q).ext E578).keep K580q).ext E582).keep K584q).keep K665q).keep K667q).lt sq_r_675)
    have ne_swA_r_675 : swA ≠ r_675 := Nat.ne_of_lt (Nat.lt_of_lt_of_le ((((((((Q8.ext E572).keep K574q (fun q => ne_swA_b572 (List.mem_singleton.mp q))).ext E578).keep K580q (fun q => ne_swA_b578 (List.mem_singleton.mp q))).ext E582).keep K584q (fun q => ne_swA_b582 (List.mem_singleton.mp q))).keep K665q (by simp)).keep K667q (fun q => ne_swA_b578 (List.mem_singleton.mp q))).lt sq_r_675)
    have ne_b572_r_675 : b572 ≠ r_675 := Nat.ne_of_lt (Nat.lt_of_lt_of_le ((((((G574_0.ext E578).keep K580q).ext E582).keep K584q).keep K665q).keep K667q).lt sq_r_675)
    have ne_r_574_r_675 : r_574 ≠ r_675 := Nat.ne_of_lt (Nat.lt_of_lt_of_le ((((((G574_3.ext E578).keep K580q (fun q => ne_r_574_b578 (List.mem_singleton.mp q))).ext E582).keep K584q (fun q => ne_r_574_b582 (List.mem_singleton.mp q))).keep K665q (by simp)).keep K667q (fun q => ne_r_574_b578 (List.mem_singleton.mp q))).lt sq_r_675)
    have ne_b578_r_675 : b578 ≠ r_675 := Nat.ne_of_lt (Nat.lt_of_lt_of_le G667_0.lt sq_r_675)
    have ne_b582_r_675 : b582 ≠ r_675 := Nat.ne_of_lt (Nat.lt_of_lt_of_le ((G584_0.keep K665q).keep K667q).lt sq_r_675)
    have ne_r_665_r_675 : r_665 ≠ r_675 := Nat.ne_of_lt (Nat.lt_of_lt_of_le (G665_0.keep K667q).lt sq_r_675)
    have ne_r_667_r_675 : r_667 ≠ r_675 := Nat.ne_of_lt (Nat.lt_of_lt_of_le G667_4.lt sq_r_675)
    have K676 : Keep h0 h675 [] := K673.trans K675q (fun x hx => nomatch hx)
    refine own_via (T675.setTop (mkF m 125 #[.val (.int p0), .val (.int p1), .val (.int p2), .val (.int p3), .val (.int p4), .val (.int zn), .val (.int zk), .val (.int zh1), .val (.int zh2), .val (.int (3 : Int32)), .val (.ref b572), .val (.int zb), .val (.ref b578), .val (.ref b582), .unset, .unset] [(.ref r_675), (.ref b582)])) (fun t k => st675 t k) ?_
    have F678 := (((G584_0.keep K665q).keep K667q).keep K675q)
    have F679 := (((G584_1.keep K665q (by simp)).keep K667q (fun q => (Ne.symm ne_b578_b582) (List.mem_singleton.mp q))).keep K675q (by simp))
    have F680 := (((G584_2.keep K665q (by simp)).keep K667q (fun q => (Ne.symm ne_b578_b582) (List.mem_singleton.mp q))).keep K675q (by simp))
    have F681 := (((G584_3.keep K665q (by simp)).keep K667q (fun q => (Ne.symm ne_b578_b582) (List.mem_singleton.mp q))).keep K675q (by simp))
    have F682 := ((F672.keep K667q (fun q => ne_dA_b578 (List.mem_singleton.mp q))).keep K675q (by simp))
    obtain ⟨cq677, kq677, q677a, q677b, q677c⟩ := isOf hZ e675 F678
    obtain ⟨_, _, ⟨T677, L677, k677, n677⟩, -, X677, ⟨Lc677, hQ677, l677, y677, z677⟩, st677⟩ := X675.virtualBack hx (y := (⟨"java/util/ArrayList", "add", "(Ljava/lang/Object;)Z"⟩ : MethodName)) (z := (⟨"java/util/ArrayList", "add", "(Ljava/lang/Object;)Z"⟩ : MethodName)) hown (mvT hZ (hw _ (List.mem_of_getElem? (i := 213) rfl))) (mvT hZ (hw _ (List.mem_of_getElem? (i := 214) rfl))) (notFace_of_selects (args := #[]) (mvT hZ (hw _ (List.mem_of_getElem? (i := 216) rfl)))) (mvT hZ (hw _ (List.mem_of_getElem? (i := 216) rfl))) (mvT hZ (hw _ (List.mem_of_getElem? (i := 215) rfl))) (by decide) (backOf (W := 0) (rm27z l Z a0 hw [] b582 r_675 h675 n0 (Nat.le_trans Z0 K676.1) (0 : Int32) dA F678 F679 F680 F681 G675_0 (own_stakeepW (ws := []) Q0 (fun x hx => nomatch hx) K676) F682 gg_b582 ne_dA_b582) hZ (hw _ (List.mem_of_getElem? (i := 217) rfl)) (hw _ (List.mem_of_getElem? (i := 24) rfl)) (by decide) (by decide)) q677a q677c (g := (mkF m 125 #[.val (.int p0), .val (.int p1), .val (.int p2), .val (.int p3), .val (.int p4), .val (.int zn), .val (.int zk), .val (.int zh1), .val (.int zh2), .val (.int (3 : Int32)), .val (.ref b572), .val (.int zb), .val (.ref b578), .val (.ref b582), .unset, .unset] [(.ref r_675), (.ref b582)])) rfl (by rw [hml]; rfl) (Steps.refl _) (argsL := [(.ref r_675)]) (rest := []) (lenOf pd_21 rfl) rfl (by show 2 * 0 + _ ≤ _; exact Nat.le_of_eq rfl) (hb hby at_125) (fun _ _ => ⟨rfl, e675, (by decide : 7 + 1 ≤ _), (by decide : 31 + 10 ≤ _)⟩)
    dsimp only [Pt.U, Pt.locs, Pt.cells, Pt.slots] at X677 l677 y677 z677 st677 hQ677
    rw [y677, z677] at X677
    have X677 : Stand _ _ _ _ _ _ _ _ _ _ T677 L677 8 41 := X677
    obtain ⟨h677, e677⟩ : ∃ h, T677.heap = h := ⟨_, rfl⟩
    rw [e677] at hQ677
    obtain ⟨r_677, rfl, N677q, K677q, gg_r_677, sq_r_677, G677_0, G677_1, G677_2, G677_3, G677_4⟩ := hQ677
    have N677 : Fr n0 L677 := by rw [l677]; exact Fr.app N675 N677q
    have sz_r_677 : h0.size ≤ r_677 := Nat.le_trans K676.1 sq_r_677
    have ne_dA_r_677 : dA ≠ r_677 := Nat.ne_of_lt (Nat.lt_of_lt_of_le F682.lt sq_r_677)
    have ne_kA_r_677 : kA ≠ r_677 := Nat.ne_of_lt (Nat.lt_of_lt_of_le (((((((((Q5.ext E572).keep K574q).ext E578).keep K580q).ext E582).keep K584q).keep K665q).keep K667q).keep K675q).lt sq_r_677)
    have ne_swA_r_677 : swA ≠ r_677 := Nat.ne_of_lt (Nat.lt_of_lt_of_le (((((((((Q8.ext E572).keep K574q (fun q => ne_swA_b572 (List.mem_singleton.mp q))).ext E578).keep K580q (fun q => ne_swA_b578 (List.mem_singleton.mp q))).ext E582).keep K584q (fun q => ne_swA_b582 (List.mem_singleton.mp q))).keep K665q (by simp)).keep K667q (fun q => ne_swA_b578 (List.mem_singleton.mp q))).keep K675q (by simp)).lt sq_r_677)
    have ne_b572_r_677 : b572 ≠ r_677 := Nat.ne_of_lt (Nat.lt_of_lt_of_le (((((((G574_0.ext E578).keep K580q).ext E582).keep K584q).keep K665q).keep K667q).keep K675q).lt sq_r_677)
    have ne_r_574_r_677 : r_574 ≠ r_677 := Nat.ne_of_lt (Nat.lt_of_lt_of_le (((((((G574_3.ext E578).keep K580q (fun q => ne_r_574_b578 (List.mem_singleton.mp q))).ext E582).keep K584q (fun q => ne_r_574_b582 (List.mem_singleton.mp q))).keep K665q (by simp)).keep K667q (fun q => ne_r_574_b578 (List.mem_singleton.mp q))).keep K675q (by simp)).lt sq_r_677)
    have ne_b578_r_677 : b578 ≠ r_677 := Nat.ne_of_lt (Nat.lt_of_lt_of_le (G667_0.keep K675q).lt sq_r_677)
    have ne_b582_r_677 : b582 ≠ r_677 := Nat.ne_of_lt (Nat.lt_of_lt_of_le F678.lt sq_r_677)
    have ne_r_665_r_677 : r_665 ≠ r_677 := Nat.ne_of_lt (Nat.lt_of_lt_of_le ((G665_0.keep K667q).keep K675q).lt sq_r_677)
    have ne_r_667_r_677 : r_667 ≠ r_677 := Nat.ne_of_lt (Nat.lt_of_lt_of_le (G667_4.keep K675q (by simp)).lt sq_r_677)
    have ne_r_675_r_677 : r_675 ≠ r_677 := Nat.ne_of_lt (Nat.lt_of_lt_of_le G675_0.lt sq_r_677)
    have K683 : Keep h0 h677 [] := K676.trans K677q (fun x hx => (List.mem_cons.mp hx).elim (fun e => e ▸ Or.inr sz_b582) (fun hx => nomatch hx))
    obtain ⟨z684, hz684⟩ : ∃ z : Int32, z = ((0 : Int32) + (1 : Int32)) := ⟨_, rfl⟩
    rw [← hz684] at G677_1
    refine own_via (T677.setTop (mkF m 128 #[.val (.int p0), .val (.int p1), .val (.int p2), .val (.int p3), .val (.int p4), .val (.int zn), .val (.int zk), .val (.int zh1), .val (.int zh2), .val (.int (3 : Int32)), .val (.ref b572), .val (.int zb), .val (.ref b578), .val (.ref b582), .unset, .unset] [(.int (1 : Int32))])) (fun t k => st677.trans k) ?_
    refine own_via (T677.setTop (mkF m 129 #[.val (.int p0), .val (.int p1), .val (.int p2), .val (.int p3), .val (.int p4), .val (.int zn), .val (.int zk), .val (.int zh1), .val (.int zh2), .val (.int (3 : Int32)), .val (.ref b572), .val (.int zb), .val (.ref b578), .val (.ref b582), .unset, .unset] [])) (fun t k => XS.pop X677.here hx rfl (hb hby at_128) rfl rfl k) ?_
    refine own_via (T677.setTop (mkF m 131 #[.val (.int p0), .val (.int p1), .val (.int p2), .val (.int p3), .val (.int p4), .val (.int zn), .val (.int zk), .val (.int zh1), .val (.int zh2), .val (.int (3 : Int32)), .val (.ref b572), .val (.int zb), .val (.ref b578), .val (.ref b582), .unset, .unset] [(.ref b572)])) (fun t k => XS.aload X677.here hx rfl (hb hby at_129) rfl rfl k) ?_
    refine own_via (T677.setTop (mkF m 133 #[.val (.int p0), .val (.int p1), .val (.int p2), .val (.int p3), .val (.int p4), .val (.int zn), .val (.int zk), .val (.int zh1), .val (.int zh2), .val (.int (3 : Int32)), .val (.ref b572), .val (.int zb), .val (.ref b578), .val (.ref b582), .unset, .unset] [(.ref b578), (.ref b572)])) (fun t k => XS.aload X677.here hx rfl (hb hby at_131) rfl rfl k) ?_
    have F686 := ((((((((G574_0.ext E578).keep K580q).ext E582).keep K584q).keep K665q).keep K667q).keep K675q).keep K677q)
    have F687 := ((((((((G574_1.ext E578).keep K580q (fun q => ne_b572_b578 (List.mem_singleton.mp q))).ext E582).keep K584q (fun q => ne_b572_b582 (List.mem_singleton.mp q))).keep K665q (by simp)).keep K667q (fun q => ne_b572_b578 (List.mem_singleton.mp q))).keep K675q (by simp)).keep K677q (fun q => ne_b572_b582 (List.mem_singleton.mp q)))
    have F688 := ((((((((G574_2.ext E578).keep K580q (fun q => ne_b572_b578 (List.mem_singleton.mp q))).ext E582).keep K584q (fun q => ne_b572_b582 (List.mem_singleton.mp q))).keep K665q (by simp)).keep K667q (fun q => ne_b572_b578 (List.mem_singleton.mp q))).keep K675q (by simp)).keep K677q (fun q => ne_b572_b582 (List.mem_singleton.mp q)))
    have F689 := ((((((((G574_3.ext E578).keep K580q (fun q => ne_r_574_b578 (List.mem_singleton.mp q))).ext E582).keep K584q (fun q => ne_r_574_b582 (List.mem_singleton.mp q))).keep K665q (by simp)).keep K667q (fun q => ne_r_574_b578 (List.mem_singleton.mp q))).keep K675q (by simp)).keep K677q (fun q => ne_r_574_b582 (List.mem_singleton.mp q)))
    have F690 := ((G667_0.keep K675q).keep K677q)
    have F691 := ((G667_1.keep K675q (by simp)).keep K677q (fun q => ne_b578_b582 (List.mem_singleton.mp q)))
    have F692 := ((G667_2.keep K675q (by simp)).keep K677q (fun q => ne_b578_b582 (List.mem_singleton.mp q)))
    have F693 := ((G667_3.keep K675q (by simp)).keep K677q (fun q => ne_b578_b582 (List.mem_singleton.mp q)))
    have F694 := ((G667_4.keep K675q (by simp)).keep K677q (fun q => (Ne.symm ne_b582_r_667) (List.mem_singleton.mp q)))
    have F695 := (((G665_0.keep K667q).keep K675q).keep K677q)
    have F696 := (((G665_1.keep K667q (fun q => (Ne.symm ne_b578_r_665) (List.mem_singleton.mp q))).keep K675q (by simp)).keep K677q (fun q => (Ne.symm ne_b582_r_665) (List.mem_singleton.mp q)))
    have F697 := (((G665_2.keep K667q (fun q => (Ne.symm ne_b578_r_665) (List.mem_singleton.mp q))).keep K675q (by simp)).keep K677q (fun q => (Ne.symm ne_b582_r_665) (List.mem_singleton.mp q)))
    have F698 := ((((((((((Q5.ext E572).keep K574q).ext E578).keep K580q).ext E582).keep K584q).keep K665q).keep K667q).keep K675q).keep K677q)
    have F699 := ((((((((((Q6.ext E572).keep K574q (fun q => ne_kA_b572 (List.mem_singleton.mp q))).ext E578).keep K580q (fun q => ne_kA_b578 (List.mem_singleton.mp q))).ext E582).keep K584q (fun q => ne_kA_b582 (List.mem_singleton.mp q))).keep K665q (by simp)).keep K667q (fun q => ne_kA_b578 (List.mem_singleton.mp q))).keep K675q (by simp)).keep K677q (fun q => ne_kA_b582 (List.mem_singleton.mp q)))
    have F700 := ((((((((((Q8.ext E572).keep K574q (fun q => ne_swA_b572 (List.mem_singleton.mp q))).ext E578).keep K580q (fun q => ne_swA_b578 (List.mem_singleton.mp q))).ext E582).keep K584q (fun q => ne_swA_b582 (List.mem_singleton.mp q))).keep K665q (by simp)).keep K667q (fun q => ne_swA_b578 (List.mem_singleton.mp q))).keep K675q (by simp)).keep K677q (fun q => ne_swA_b582 (List.mem_singleton.mp q)))
    obtain ⟨cq685, kq685, q685a, q685b, q685c⟩ := isOf hZ e677 F686
    obtain ⟨_, _, ⟨T685, L685, k685, n685⟩, -, X685, ⟨Lc685, hQ685, l685, y685, z685⟩, st685⟩ := X677.virtualBack hx (y := (⟨"com/example/unweave/unweave/abstraction/PathEncoding", "encode", "(Ljava/util/List;)Lcom/example/unweave/unweave/arith/Formula;"⟩ : MethodName)) (z := (⟨"com/example/unweave/unweave/abstraction/PathEncoding", "encode", "(Ljava/util/List;)Lcom/example/unweave/unweave/arith/Formula;"⟩ : MethodName)) hown (mvT hZ (hw _ (List.mem_of_getElem? (i := 46) rfl))) (mvT hZ (hw _ (List.mem_of_getElem? (i := 47) rfl))) (notFace_of_selects (args := #[]) (mvT hZ (hw _ (List.mem_of_getElem? (i := 49) rfl)))) (mvT hZ (hw _ (List.mem_of_getElem? (i := 49) rfl))) (mvT hZ (hw _ (List.mem_of_getElem? (i := 48) rfl))) (by decide) (backOf (W := 0) (rm7e1 l Z a0 hw [] b572 b578 h677 n0 (Nat.le_trans Z0 K683.1) r_574 zn N576n own_id z674 r_667 tA fA dA r_665 kA swA sw zh1 F686 F687 F688 F689 F690 F691 F692 F693 (own_stakeepW (ws := []) Q2 (fun x hx => nomatch hx) K683) (own_stakeepW (ws := []) Q3 (fun x hx => nomatch hx) K683) (own_stakeepW (ws := []) Q0 (fun x hx => nomatch hx) K683) F694 F695 F696 F697 F698 F699 (own_stakeepW (ws := []) Q7 (fun x hx => nomatch hx) K683) F700 gg_b572 gg_r_574 (own_kb hN576n hzn hzh1) hsw (Ne.symm ne_b572_b578) (Ne.symm ne_r_574_b578) (Ne.symm ne_b572_r_667) (Ne.symm ne_r_574_r_667) ne_kA_b572 ne_kA_r_574 ne_swA_b572 ne_swA_r_574 (Ne.symm ne_b572_r_665) (Ne.symm ne_r_574_r_665) (Ne.symm ne_b572_r_574)) hZ (hw _ (List.mem_of_getElem? (i := 50) rfl)) (hw _ (List.mem_of_getElem? (i := 3) rfl)) (by decide) (by decide)) q685a q685c (g := (mkF m 133 #[.val (.int p0), .val (.int p1), .val (.int p2), .val (.int p3), .val (.int p4), .val (.int zn), .val (.int zk), .val (.int zh1), .val (.int zh2), .val (.int (3 : Int32)), .val (.ref b572), .val (.int zb), .val (.ref b578), .val (.ref b582), .unset, .unset] [(.ref b578), (.ref b572)])) rfl (by rw [hml]; rfl) (Steps.refl _) (argsL := [(.ref b578)]) (rest := []) (lenOf pd_14 rfl) rfl (by show 2 * 0 + _ ≤ _; exact Nat.le_of_eq rfl) (hb hby at_133) (fun _ _ => ⟨rfl, e677, (by decide : 8 + 6 ≤ _), (by decide : 41 + 32 ≤ _)⟩)
    dsimp only [Pt.U, Pt.locs, Pt.cells, Pt.slots] at X685 l685 y685 z685 st685 hQ685
    rw [y685, z685] at X685
    have X685 : Stand _ _ _ _ _ _ _ _ _ _ T685 L685 14 73 := X685
    obtain ⟨h685, e685⟩ : ∃ h, T685.heap = h := ⟨_, rfl⟩
    rw [e685] at hQ685
    obtain ⟨rfl, N685q, K685q, G685_0, G685_1, G685_2, G685_3⟩ := hQ685
    have N685 : Fr n0 L685 := by rw [l685]; exact Fr.app N677 N685q
    have mq685 : ∀ x ∈ [b572, r_574], x ∈ [] ∨ h0.size ≤ x := by
      intro x hx
      rcases List.mem_cons.mp hx with e | hx
      · rw [e]; exact Or.inr sz_b572
      rw [List.mem_singleton.mp hx]; exact Or.inr sz_r_574
    have K701 : Keep h0 h685 [] := K683.trans K685q mq685
    obtain ⟨z702, hz702⟩ : ∃ z : Int32, z = (zn + (1 : Int32)) := ⟨_, rfl⟩
    rw [← hz702] at G685_2
    obtain ⟨f703, hf703⟩ : ∃ g : Nat → Int32, g = (own_up own_id zh1.toInt.toNat zn) := ⟨_, rfl⟩
    rw [← hf703] at G685_3
    refine own_via (T685.setTop (mkF m 136 #[.val (.int p0), .val (.int p1), .val (.int p2), .val (.int p3), .val (.int p4), .val (.int zn), .val (.int zk), .val (.int zh1), .val (.int zh2), .val (.int (3 : Int32)), .val (.ref b572), .val (.int zb), .val (.ref b578), .val (.ref b582), .unset, .unset] [(.ref tA)])) (fun t k => st685.trans k) ?_
    refine own_via (T685.setTop (mkF m 137 #[.val (.int p0), .val (.int p1), .val (.int p2), .val (.int p3), .val (.int p4), .val (.int zn), .val (.int zk), .val (.int zh1), .val (.int zh2), .val (.int (3 : Int32)), .val (.ref b572), .val (.int zb), .val (.ref b578), .val (.ref b582), .unset, .unset] [])) (fun t k => XS.pop X685.here hx rfl (hb hby at_136) rfl rfl k) ?_
    refine own_via (T685.setTop (mkF m 139 #[.val (.int p0), .val (.int p1), .val (.int p2), .val (.int p3), .val (.int p4), .val (.int zn), .val (.int zk), .val (.int zh1), .val (.int zh2), .val (.int (3 : Int32)), .val (.ref b572), .val (.int zb), .val (.ref b578), .val (.ref b582), .unset, .unset] [(.int (3 : Int32))])) (fun t k => XS.iload X685.here hx rfl (hb hby at_137) rfl  k) ?_
    refine own_via (T685.setTop (mkF m 140 #[.val (.int p0), .val (.int p1), .val (.int p2), .val (.int p3), .val (.int p4), .val (.int zn), .val (.int zk), .val (.int zh1), .val (.int zh2), .val (.int (3 : Int32)), .val (.ref b572), .val (.int zb), .val (.ref b578), .val (.ref b582), .unset, .unset] [(.int (3 : Int32)), (.int (3 : Int32))])) (fun t k => XS.iconst X685.here hx rfl (hb hby at_139) k) ?_
    refine own_via (T685.setTop (mkF m 143 #[.val (.int p0), .val (.int p1), .val (.int p2), .val (.int p3), .val (.int p4), .val (.int zn), .val (.int zk), .val (.int zh1), .val (.int zh2), .val (.int (3 : Int32)), .val (.ref b572), .val (.int zb), .val (.ref b578), .val (.ref b582), .unset, .unset] [])) (fun t k => XS.icmpNo X685.here hx rfl (hb hby at_140) rfl (teq (by decide)).2 k) ?_
    refine own_via (T685.setTop (mkF m 145 #[.val (.int p0), .val (.int p1), .val (.int p2), .val (.int p3), .val (.int p4), .val (.int zn), .val (.int zk), .val (.int zh1), .val (.int zh2), .val (.int (3 : Int32)), .val (.ref b572), .val (.int zb), .val (.ref b578), .val (.ref b582), .unset, .unset] [(.ref b572)])) (fun t k => XS.aload X685.here hx rfl (hb hby at_143) rfl rfl k) ?_
    refine own_via (T685.setTop (mkF m 147 #[.val (.int p0), .val (.int p1), .val (.int p2), .val (.int p3), .val (.int p4), .val (.int zn), .val (.int zk), .val (.int zh1), .val (.int zh2), .val (.int (3 : Int32)), .val (.ref b572), .val (.int zb), .val (.ref b578), .val (.ref b582), .unset, .unset] [(.ref b582), (.ref b572)])) (fun t k => XS.aload X685.here hx rfl (hb hby at_145) rfl rfl k) ?_
    have F705 := (G677_0.keep K685q)
    have F706 := (G677_1.keep K685q (fun q => (List.mem_cons.mp q).elim (Ne.symm ne_b572_b582) (fun q => (List.mem_cons.mp q).elim (Ne.symm ne_r_574_b582) (fun q => nomatch q))))
    have F707 := (G677_2.keep K685q (fun q => (List.mem_cons.mp q).elim (Ne.symm ne_b572_b582) (fun q => (List.mem_cons.mp q).elim (Ne.symm ne_r_574_b582) (fun q => nomatch q))))
    have F708 := (G677_3.keep K685q (fun q => (List.mem_cons.mp q).elim (Ne.symm ne_b572_b582) (fun q => (List.mem_cons.mp q).elim (Ne.symm ne_r_574_b582) (fun q => nomatch q))))
    have F709 := (G677_4.keep K685q (fun q => (List.mem_cons.mp q).elim (Ne.symm ne_b572_r_677) (fun q => (List.mem_cons.mp q).elim (Ne.symm ne_r_574_r_677) (fun q => nomatch q))))
    have F710 := ((G675_0.keep K677q).keep K685q)
    have F711 := ((G675_1.keep K677q (fun q => (Ne.symm ne_b582_r_675) (List.mem_singleton.mp q))).keep K685q (fun q => (List.mem_cons.mp q).elim (Ne.symm ne_b572_r_675) (fun q => (List.mem_cons.mp q).elim (Ne.symm ne_r_574_r_675) (fun q => nomatch q))))
    have F712 := ((G675_2.keep K677q (fun q => (Ne.symm ne_b582_r_675) (List.mem_singleton.mp q))).keep K685q (fun q => (List.mem_cons.mp q).elim (Ne.symm ne_b572_r_675) (fun q => (List.mem_cons.mp q).elim (Ne.symm ne_r_574_r_675) (fun q => nomatch q))))
    have F713 := (F698.keep K685q)
    have F714 := (F699.keep K685q (fun q => (List.mem_cons.mp q).elim ne_kA_b572 (fun q => (List.mem_cons.mp q).elim ne_kA_r_574 (fun q => nomatch q))))
    have F715 := (F700.keep K685q (fun q => (List.mem_cons.mp q).elim ne_swA_b572 (fun q => (List.mem_cons.mp q).elim ne_swA_r_574 (fun q => nomatch q))))
    obtain ⟨cq704, kq704, q704a, q704b, q704c⟩ := isOf hZ e685 G685_0
    obtain ⟨_, _, ⟨T704, L704, k704, n704⟩, -, X704, ⟨Lc704, hQ704, l704, y704, z704⟩, st704⟩ := X685.virtualBack hx (y := (⟨"com/example/unweave/unweave/abstraction/PathEncoding", "encode", "(Ljava/util/List;)Lcom/example/unweave/unweave/arith/Formula;"⟩ : MethodName)) (z := (⟨"com/example/unweave/unweave/abstraction/PathEncoding", "encode", "(Ljava/util/List;)Lcom/example/unweave/unweave/arith/Formula;"⟩ : MethodName)) hown (mvT hZ (hw _ (List.mem_of_getElem? (i := 46) rfl))) (mvT hZ (hw _ (List.mem_of_getElem? (i := 47) rfl))) (notFace_of_selects (args := #[]) (mvT hZ (hw _ (List.mem_of_getElem? (i := 49) rfl)))) (mvT hZ (hw _ (List.mem_of_getElem? (i := 49) rfl))) (mvT hZ (hw _ (List.mem_of_getElem? (i := 48) rfl))) (by decide) (backOf (W := 0) (rm7e1 l Z a0 hw [] b572 b582 h685 n0 (Nat.le_trans Z0 K701.1) r_574 z702 N576n f703 z684 r_677 tA fA dA r_675 kA swA sw zh2 G685_0 G685_1 G685_2 G685_3 F705 F706 F707 F708 (own_stakeepW (ws := []) Q2 (fun x hx => nomatch hx) K701) (own_stakeepW (ws := []) Q3 (fun x hx => nomatch hx) K701) (own_stakeepW (ws := []) Q0 (fun x hx => nomatch hx) K701) F709 F710 F711 F712 F713 F714 (own_stakeepW (ws := []) Q7 (fun x hx => nomatch hx) K701) F715 gg_b572 gg_r_574 (own_kb hN576n hzn hzh2) hsw (Ne.symm ne_b572_b582) (Ne.symm ne_r_574_b582) (Ne.symm ne_b572_r_677) (Ne.symm ne_r_574_r_677) ne_kA_b572 ne_kA_r_574 ne_swA_b572 ne_swA_r_574 (Ne.symm ne_b572_r_675) (Ne.symm ne_r_574_r_675) (Ne.symm ne_b572_r_574)) hZ (hw _ (List.mem_of_getElem? (i := 50) rfl)) (hw _ (List.mem_of_getElem? (i := 3) rfl)) (by decide) (by decide)) q704a q704c (g := (mkF m 147 #[.val (.int p0), .val (.int p1), .val (.int p2), .val (.int p3), .val (.int p4), .val (.int zn), .val (.int zk), .val (.int zh1), .val (.int zh2), .val (.int (3 : Int32)), .val (.ref b572), .val (.int zb), .val (.ref b578), .val (.ref b582), .unset, .unset] [(.ref b582), (.ref b572)])) rfl (by rw [hml]; rfl) (Steps.refl _) (argsL := [(.ref b582)]) (rest := []) (lenOf pd_14 rfl) rfl (by show 2 * 0 + _ ≤ _; exact Nat.le_of_eq rfl) (hb hby at_147) (fun _ _ => ⟨rfl, e685, (by decide : 14 + 6 ≤ _), (by decide : 73 + 32 ≤ _)⟩)
    dsimp only [Pt.U, Pt.locs, Pt.cells, Pt.slots] at X704 l704 y704 z704 st704 hQ704
    rw [y704, z704] at X704
    have X704 : Stand _ _ _ _ _ _ _ _ _ _ T704 L704 20 105 := X704
    obtain ⟨h704, e704⟩ : ∃ h, T704.heap = h := ⟨_, rfl⟩
    rw [e704] at hQ704
    obtain ⟨rfl, N704q, K704q, G704_0, G704_1, G704_2, G704_3⟩ := hQ704
    have N704 : Fr n0 L704 := by rw [l704]; exact Fr.app N685 N704q
    have mq704 : ∀ x ∈ [b572, r_574], x ∈ [] ∨ h0.size ≤ x := by
      intro x hx
      rcases List.mem_cons.mp hx with e | hx
      · rw [e]; exact Or.inr sz_b572
      rw [List.mem_singleton.mp hx]; exact Or.inr sz_r_574
    have K716 : Keep h0 h704 [] := K701.trans K704q mq704
    obtain ⟨z717, hz717⟩ : ∃ z : Int32, z = (z702 + (1 : Int32)) := ⟨_, rfl⟩
    rw [← hz717] at G704_2
    obtain ⟨f718, hf718⟩ : ∃ g : Nat → Int32, g = (own_up f703 zh2.toInt.toNat z702) := ⟨_, rfl⟩
    rw [← hf718] at G704_3
    refine own_via (T704.setTop (mkF m 150 #[.val (.int p0), .val (.int p1), .val (.int p2), .val (.int p3), .val (.int p4), .val (.int zn), .val (.int zk), .val (.int zh1), .val (.int zh2), .val (.int (3 : Int32)), .val (.ref b572), .val (.int zb), .val (.ref b578), .val (.ref b582), .unset, .unset] [(.ref tA)])) (fun t k => st704.trans k) ?_
    refine own_via (T704.setTop (mkF m 151 #[.val (.int p0), .val (.int p1), .val (.int p2), .val (.int p3), .val (.int p4), .val (.int zn), .val (.int zk), .val (.int zh1), .val (.int zh2), .val (.int (3 : Int32)), .val (.ref b572), .val (.int zb), .val (.ref b578), .val (.ref b582), .unset, .unset] [])) (fun t k => XS.pop X704.here hx rfl (hb hby at_150) rfl rfl k) ?_
    refine own_via (T704.setTop (mkF m 153 #[.val (.int p0), .val (.int p1), .val (.int p2), .val (.int p3), .val (.int p4), .val (.int zn), .val (.int zk), .val (.int zh1), .val (.int zh2), .val (.int (3 : Int32)), .val (.ref b572), .val (.int zb), .val (.ref b578), .val (.ref b582), .unset, .unset] [(.ref b572)])) (fun t k => XS.aload X704.here hx rfl (hb hby at_151) rfl rfl k) ?_
    refine own_via (T704.setTop (mkF m 155 #[.val (.int p0), .val (.int p1), .val (.int p2), .val (.int p3), .val (.int p4), .val (.int zn), .val (.int zk), .val (.int zh1), .val (.int zh2), .val (.int (3 : Int32)), .val (.ref b572), .val (.int zb), .val (.ref b578), .val (.ref b582), .unset, .unset] [(.int zk), (.ref b572)])) (fun t k => XS.iload X704.here hx rfl (hb hby at_153) rfl  k) ?_
    obtain ⟨cq719, kq719, q719a, q719b, q719c⟩ := isOf hZ e704 G704_0
    obtain ⟨_, _, ⟨T719, L719, k719, n719⟩, -, X719, ⟨Lc719, hQ719, l719, y719, z719⟩, st719⟩ := X704.virtualBack hx (y := (⟨"com/example/unweave/unweave/abstraction/PathEncoding", "isChanged", "(I)Z"⟩ : MethodName)) (z := (⟨"com/example/unweave/unweave/abstraction/PathEncoding", "isChanged", "(I)Z"⟩ : MethodName)) hown (mvT hZ (hw _ (List.mem_of_getElem? (i := 17) rfl))) (mvT hZ (hw _ (List.mem_of_getElem? (i := 18) rfl))) (notFace_of_selects (args := #[]) (mvT hZ (hw _ (List.mem_of_getElem? (i := 20) rfl)))) (mvT hZ (hw _ (List.mem_of_getElem? (i := 20) rfl))) (mvT hZ (hw _ (List.mem_of_getElem? (i := 19) rfl))) (by decide) (backOf (W := 0) (rm3 l Z a0 hw [] b572 zk h704 n0 (Nat.le_trans Z0 K716.1) r_574 N576n f718 G704_1 G704_3 (own_kb hN576n hzn hzk)) hZ (hw _ (List.mem_of_getElem? (i := 21) rfl)) (hw _ (List.mem_of_getElem? (i := 3) rfl)) (by decide) (by decide)) q719a q719c (g := (mkF m 155 #[.val (.int p0), .val (.int p1), .val (.int p2), .val (.int p3), .val (.int p4), .val (.int zn), .val (.int zk), .val (.int zh1), .val (.int zh2), .val (.int (3 : Int32)), .val (.ref b572), .val (.int zb), .val (.ref b578), .val (.ref b582), .unset, .unset] [(.int zk), (.ref b572)])) rfl (by rw [hml]; rfl) (Steps.refl _) (argsL := [(.int zk)]) (rest := []) (lenOf pd_19 rfl) rfl (by show 2 * 0 + _ ≤ _; exact Nat.le_of_eq rfl) (hb hby at_155) (fun _ _ => ⟨rfl, e704, (by decide : 20 + 0 ≤ _), (by decide : 105 + 0 ≤ _)⟩)
    dsimp only [Pt.U, Pt.locs, Pt.cells, Pt.slots] at X719 l719 y719 z719 st719 hQ719
    rw [y719, z719] at X719
    have X719 : Stand _ _ _ _ _ _ _ _ _ _ T719 L719 20 105 := X719
    obtain ⟨rfl, N719q, e719⟩ := hQ719
    have N719 : Fr n0 L719 := by rw [l719]; exact Fr.app N704 N719q
    refine own_via (T719.setTop (mkF m 158 #[.val (.int p0), .val (.int p1), .val (.int p2), .val (.int p3), .val (.int p4), .val (.int zn), .val (.int zk), .val (.int zh1), .val (.int zh2), .val (.int (3 : Int32)), .val (.ref b572), .val (.int zb), .val (.ref b578), .val (.ref b582), .unset, .unset] [(.int (own_ch zk f718))])) (fun t k => st719.trans k) ?_
    obtain ⟨za, hza⟩ : ∃ z : Int32, z = (own_ch zk f718) := ⟨_, rfl⟩
    refine own_via (T719.setTop (mkF m 160 #[.val (.int p0), .val (.int p1), .val (.int p2), .val (.int p3), .val (.int p4), .val (.int zn), .val (.int zk), .val (.int zh1), .val (.int zh2), .val (.int (3 : Int32)), .val (.ref b572), .val (.int zb), .val (.ref b578), .val (.ref b582), .val (.int za), .unset] [])) (fun t k => XS.istore X719.here hx rfl (hb hby at_158) rfl (l' := #[.val (.int p0), .val (.int p1), .val (.int p2), .val (.int p3), .val (.int p4), .val (.int zn), .val (.int zk), .val (.int zh1), .val (.int zh2), .val (.int (3 : Int32)), .val (.ref b572), .val (.int zb), .val (.ref b578), .val (.ref b582), .val (.int za), .unset]) (by rw [hza]; rfl) k) ?_
    refine own_via (T719.setTop (mkF m 162 #[.val (.int p0), .val (.int p1), .val (.int p2), .val (.int p3), .val (.int p4), .val (.int zn), .val (.int zk), .val (.int zh1), .val (.int zh2), .val (.int (3 : Int32)), .val (.ref b572), .val (.int zb), .val (.ref b578), .val (.ref b582), .val (.int za), .unset] [(.int (3 : Int32))])) (fun t k => XS.iload X719.here hx rfl (hb hby at_160) rfl  k) ?_
    refine own_via (T719.setTop (mkF m 163 #[.val (.int p0), .val (.int p1), .val (.int p2), .val (.int p3), .val (.int p4), .val (.int zn), .val (.int zk), .val (.int zh1), .val (.int zh2), .val (.int (3 : Int32)), .val (.ref b572), .val (.int zb), .val (.ref b578), .val (.ref b582), .val (.int za), .unset] [(.int (1 : Int32)), (.int (3 : Int32))])) (fun t k => XS.iconst X719.here hx rfl (hb hby at_162) k) ?_
    refine own_via (T719.setTop (mkF m 166 #[.val (.int p0), .val (.int p1), .val (.int p2), .val (.int p3), .val (.int p4), .val (.int zn), .val (.int zk), .val (.int zh1), .val (.int zh2), .val (.int (3 : Int32)), .val (.ref b572), .val (.int zb), .val (.ref b578), .val (.ref b582), .val (.int za), .unset] [])) (fun t k => XS.icmpNo X719.here hx rfl (hb hby at_163) rfl (flt (by decide)).1 k) ?_
    refine own_via (T719.setTop (mkF m 168 #[.val (.int p0), .val (.int p1), .val (.int p2), .val (.int p3), .val (.int p4), .val (.int zn), .val (.int zk), .val (.int zh1), .val (.int zh2), .val (.int (3 : Int32)), .val (.ref b572), .val (.int zb), .val (.ref b578), .val (.ref b582), .val (.int za), .unset] [(.int zk)])) (fun t k => XS.iload X719.here hx rfl (hb hby at_166) rfl  k) ?_
    refine own_via (T719.setTop (mkF m 170 #[.val (.int p0), .val (.int p1), .val (.int p2), .val (.int p3), .val (.int p4), .val (.int zn), .val (.int zk), .val (.int zh1), .val (.int zh2), .val (.int (3 : Int32)), .val (.ref b572), .val (.int zb), .val (.ref b578), .val (.ref b582), .val (.int za), .unset] [(.int zh1), (.int zk)])) (fun t k => XS.iload X719.here hx rfl (hb hby at_168) rfl  k) ?_
    obtain ⟨zex, hzex⟩ : ∃ z : Int32, z = (if zk = zh1 then (1 : Int32) else (if zk = zh2 then (1 : Int32) else (0 : Int32))) := ⟨_, rfl⟩
    refine own_via (T719.setTop (mkF m 191 #[.val (.int p0), .val (.int p1), .val (.int p2), .val (.int p3), .val (.int p4), .val (.int zn), .val (.int zk), .val (.int zh1), .val (.int zh2), .val (.int (3 : Int32)), .val (.ref b572), .val (.int zb), .val (.ref b578), .val (.ref b582), .val (.int za), .unset] [(.int zex)])) (fun t k => ?_) ?_
    · skip
      by_cases hj170_720 : zk = zh1
      · refine XS.icmpYes X719.here hx rfl (pc0 := 170) (pc' := 186) rfl (hb hby at_170) rfl (teq hj170_720).1 (by decide) (by decide) (?_ : Steps p.tables e below (T719.setTop (mkF m 186 #[.val (.int p0), .val (.int p1), .val (.int p2), .val (.int p3), .val (.int p4), .val (.int zn), .val (.int zk), .val (.int zh1), .val (.int zh2), .val (.int (3 : Int32)), .val (.ref b572), .val (.int zb), .val (.ref b578), .val (.ref b582), .val (.int za), .unset] [])) t)
        refine XS.iconst X719.here hx rfl (hb hby at_186) (?_ : Steps p.tables e below (T719.setTop (mkF m 187 #[.val (.int p0), .val (.int p1), .val (.int p2), .val (.int p3), .val (.int p4), .val (.int zn), .val (.int zk), .val (.int zh1), .val (.int zh2), .val (.int (3 : Int32)), .val (.ref b572), .val (.int zb), .val (.ref b578), .val (.ref b582), .val (.int za), .unset] [(.int (1 : Int32))])) t)
        refine XS.goto X719.here hx rfl (pc0 := 187) (pc' := 191) rfl (hb hby at_187) (by decide) (by decide) (?_ : Steps p.tables e below (T719.setTop (mkF m 191 #[.val (.int p0), .val (.int p1), .val (.int p2), .val (.int p3), .val (.int p4), .val (.int zn), .val (.int zk), .val (.int zh1), .val (.int zh2), .val (.int (3 : Int32)), .val (.ref b572), .val (.int zb), .val (.ref b578), .val (.ref b582), .val (.int za), .unset] [(.int (1 : Int32))])) t)
        have q_zex := (hzex.trans (if_pos hj170_720))
        subst q_zex
        exact k
      · refine XS.icmpNo X719.here hx rfl (hb hby at_170) rfl (feq hj170_720).1 (?_ : Steps p.tables e below (T719.setTop (mkF m 173 #[.val (.int p0), .val (.int p1), .val (.int p2), .val (.int p3), .val (.int p4), .val (.int zn), .val (.int zk), .val (.int zh1), .val (.int zh2), .val (.int (3 : Int32)), .val (.ref b572), .val (.int zb), .val (.ref b578), .val (.ref b582), .val (.int za), .unset] [])) t)
        refine XS.iload X719.here hx rfl (hb hby at_173) rfl  (?_ : Steps p.tables e below (T719.setTop (mkF m 175 #[.val (.int p0), .val (.int p1), .val (.int p2), .val (.int p3), .val (.int p4), .val (.int zn), .val (.int zk), .val (.int zh1), .val (.int zh2), .val (.int (3 : Int32)), .val (.ref b572), .val (.int zb), .val (.ref b578), .val (.ref b582), .val (.int za), .unset] [(.int (3 : Int32))])) t)
        refine XS.iconst X719.here hx rfl (hb hby at_175) (?_ : Steps p.tables e below (T719.setTop (mkF m 176 #[.val (.int p0), .val (.int p1), .val (.int p2), .val (.int p3), .val (.int p4), .val (.int zn), .val (.int zk), .val (.int zh1), .val (.int zh2), .val (.int (3 : Int32)), .val (.ref b572), .val (.int zb), .val (.ref b578), .val (.ref b582), .val (.int za), .unset] [(.int (2 : Int32)), (.int (3 : Int32))])) t)
        refine XS.icmpNo X719.here hx rfl (hb hby at_176) rfl (flt (by decide)).1 (?_ : Steps p.tables e below (T719.setTop (mkF m 179 #[.val (.int p0), .val (.int p1), .val (.int p2), .val (.int p3), .val (.int p4), .val (.int zn), .val (.int zk), .val (.int zh1), .val (.int zh2), .val (.int (3 : Int32)), .val (.ref b572), .val (.int zb), .val (.ref b578), .val (.ref b582), .val (.int za), .unset] [])) t)
        refine XS.iload X719.here hx rfl (hb hby at_179) rfl  (?_ : Steps p.tables e below (T719.setTop (mkF m 181 #[.val (.int p0), .val (.int p1), .val (.int p2), .val (.int p3), .val (.int p4), .val (.int zn), .val (.int zk), .val (.int zh1), .val (.int zh2), .val (.int (3 : Int32)), .val (.ref b572), .val (.int zb), .val (.ref b578), .val (.ref b582), .val (.int za), .unset] [(.int zk)])) t)
        refine XS.iload X719.here hx rfl (hb hby at_181) rfl  (?_ : Steps p.tables e below (T719.setTop (mkF m 183 #[.val (.int p0), .val (.int p1), .val (.int p2), .val (.int p3), .val (.int p4), .val (.int zn), .val (.int zk), .val (.int zh1), .val (.int zh2), .val (.int (3 : Int32)), .val (.ref b572), .val (.int zb), .val (.ref b578), .val (.ref b582), .val (.int za), .unset] [(.int zh2), (.int zk)])) t)
        by_cases hj183_721 : zk = zh2
        · refine XS.icmpNo X719.here hx rfl (hb hby at_183) rfl (teq hj183_721).2 (?_ : Steps p.tables e below (T719.setTop (mkF m 186 #[.val (.int p0), .val (.int p1), .val (.int p2), .val (.int p3), .val (.int p4), .val (.int zn), .val (.int zk), .val (.int zh1), .val (.int zh2), .val (.int (3 : Int32)), .val (.ref b572), .val (.int zb), .val (.ref b578), .val (.ref b582), .val (.int za), .unset] [])) t)
          refine XS.iconst X719.here hx rfl (hb hby at_186) (?_ : Steps p.tables e below (T719.setTop (mkF m 187 #[.val (.int p0), .val (.int p1), .val (.int p2), .val (.int p3), .val (.int p4), .val (.int zn), .val (.int zk), .val (.int zh1), .val (.int zh2), .val (.int (3 : Int32)), .val (.ref b572), .val (.int zb), .val (.ref b578), .val (.ref b582), .val (.int za), .unset] [(.int (1 : Int32))])) t)
          refine XS.goto X719.here hx rfl (pc0 := 187) (pc' := 191) rfl (hb hby at_187) (by decide) (by decide) (?_ : Steps p.tables e below (T719.setTop (mkF m 191 #[.val (.int p0), .val (.int p1), .val (.int p2), .val (.int p3), .val (.int p4), .val (.int zn), .val (.int zk), .val (.int zh1), .val (.int zh2), .val (.int (3 : Int32)), .val (.ref b572), .val (.int zb), .val (.ref b578), .val (.ref b582), .val (.int za), .unset] [(.int (1 : Int32))])) t)
          have q_zex := ((hzex.trans (if_neg hj170_720)).trans (if_pos hj183_721))
          subst q_zex
          exact k
        · refine XS.icmpYes X719.here hx rfl (pc0 := 183) (pc' := 190) rfl (hb hby at_183) rfl (feq hj183_721).2 (by decide) (by decide) (?_ : Steps p.tables e below (T719.setTop (mkF m 190 #[.val (.int p0), .val (.int p1), .val (.int p2), .val (.int p3), .val (.int p4), .val (.int zn), .val (.int zk), .val (.int zh1), .val (.int zh2), .val (.int (3 : Int32)), .val (.ref b572), .val (.int zb), .val (.ref b578), .val (.ref b582), .val (.int za), .unset] [])) t)
          refine XS.iconst X719.here hx rfl (hb hby at_190) (?_ : Steps p.tables e below (T719.setTop (mkF m 191 #[.val (.int p0), .val (.int p1), .val (.int p2), .val (.int p3), .val (.int p4), .val (.int zn), .val (.int zk), .val (.int zh1), .val (.int zh2), .val (.int (3 : Int32)), .val (.ref b572), .val (.int zb), .val (.ref b578), .val (.ref b582), .val (.int za), .unset] [(.int (0 : Int32))])) t)
          have q_zex := ((hzex.trans (if_neg hj170_720)).trans (if_neg hj183_721))
          subst q_zex
          exact k
    refine own_via (T719.setTop (mkF m 193 #[.val (.int p0), .val (.int p1), .val (.int p2), .val (.int p3), .val (.int p4), .val (.int zn), .val (.int zk), .val (.int zh1), .val (.int zh2), .val (.int (3 : Int32)), .val (.ref b572), .val (.int zb), .val (.ref b578), .val (.ref b582), .val (.int za), .val (.int zex)] [])) (fun t k => XS.istore X719.here hx rfl (hb hby at_191) rfl (l' := #[.val (.int p0), .val (.int p1), .val (.int p2), .val (.int p3), .val (.int p4), .val (.int zn), .val (.int zk), .val (.int zh1), .val (.int zh2), .val (.int (3 : Int32)), .val (.ref b572), .val (.int zb), .val (.ref b578), .val (.ref b582), .val (.int za), .val (.int zex)]) rfl k) ?_
    have hbz : zb = 0 := hzb.trans (own_B (own_rem hzk (own_n hzn).1).1)
    have hlaw : za = zex := by rw [hza, hf718, hf703, hz702, hzex]; exact own_L2 (own_n hzn) (own_rem hzk (own_n hzn).1) (own_rem hzh1 (own_n hzn).1) (own_rem hzh2 (own_n hzn).1)
    refine own_via (T719.setTop (mkF m 195 #[.val (.int p0), .val (.int p1), .val (.int p2), .val (.int p3), .val (.int p4), .val (.int zn), .val (.int zk), .val (.int zh1), .val (.int zh2), .val (.int (3 : Int32)), .val (.ref b572), .val (.int zb), .val (.ref b578), .val (.ref b582), .val (.int za), .val (.int zex)] [(.int zb)])) (fun t k => XS.iload X719.here hx rfl (hb hby at_193) rfl  k) ?_
    refine own_via (T719.setTop (mkF m 198 #[.val (.int p0), .val (.int p1), .val (.int p2), .val (.int p3), .val (.int p4), .val (.int zn), .val (.int zk), .val (.int zh1), .val (.int zh2), .val (.int (3 : Int32)), .val (.ref b572), .val (.int zb), .val (.ref b578), .val (.ref b582), .val (.int za), .val (.int zex)] [])) (fun t k => XS.ifNo X719.here hx rfl (hb hby at_195) rfl ((if0 _ _).trans (teq hbz).2) k) ?_
    refine own_via (T719.setTop (mkF m 200 #[.val (.int p0), .val (.int p1), .val (.int p2), .val (.int p3), .val (.int p4), .val (.int zn), .val (.int zk), .val (.int zh1), .val (.int zh2), .val (.int (3 : Int32)), .val (.ref b572), .val (.int zb), .val (.ref b578), .val (.ref b582), .val (.int za), .val (.int zex)] [(.int za)])) (fun t k => XS.iload X719.here hx rfl (hb hby at_198) rfl  k) ?_
    refine own_via (T719.setTop (mkF m 202 #[.val (.int p0), .val (.int p1), .val (.int p2), .val (.int p3), .val (.int p4), .val (.int zn), .val (.int zk), .val (.int zh1), .val (.int zh2), .val (.int (3 : Int32)), .val (.ref b572), .val (.int zb), .val (.ref b578), .val (.ref b582), .val (.int za), .val (.int zex)] [(.int zex), (.int za)])) (fun t k => XS.iload X719.here hx rfl (hb hby at_200) rfl  k) ?_
    refine own_via (T719.setTop (mkF m 205 #[.val (.int p0), .val (.int p1), .val (.int p2), .val (.int p3), .val (.int p4), .val (.int zn), .val (.int zk), .val (.int zh1), .val (.int zh2), .val (.int (3 : Int32)), .val (.ref b572), .val (.int zb), .val (.ref b578), .val (.ref b582), .val (.int za), .val (.int zex)] [])) (fun t k => XS.icmpNo X719.here hx rfl (hb hby at_202) rfl (teq hlaw).2 k) ?_
    refine own_via (T719.setTop (mkF m 206 #[.val (.int p0), .val (.int p1), .val (.int p2), .val (.int p3), .val (.int p4), .val (.int zn), .val (.int zk), .val (.int zh1), .val (.int zh2), .val (.int (3 : Int32)), .val (.ref b572), .val (.int zb), .val (.ref b578), .val (.ref b582), .val (.int za), .val (.int zex)] [(.int (1 : Int32))])) (fun t k => XS.iconst X719.here hx rfl (hb hby at_205) k) ?_
    refine own_via (T719.setTop (mkF m 210 #[.val (.int p0), .val (.int p1), .val (.int p2), .val (.int p3), .val (.int p4), .val (.int zn), .val (.int zk), .val (.int zh1), .val (.int zh2), .val (.int (3 : Int32)), .val (.ref b572), .val (.int zb), .val (.ref b578), .val (.ref b582), .val (.int za), .val (.int zex)] [(.int (1 : Int32))])) (fun t k => XS.goto X719.here hx rfl (pc0 := 206) (pc' := 210) rfl (hb hby at_206) (by decide) (by decide) k) ?_
    refine own_leave X719 Bd.notSynchronized (v := some (.int (1 : Int32))) (fun h => by rw [Bd.returns] at h; cases h) (fun fs hr => retN X719 hx (t := .boolean) Bd.returns (by simp) (hb hby at_210) hr) ?_ (by decide) (by decide)
    exact ⟨rfl, N719⟩
set_option maxRecDepth 65536 in
set_option maxHeartbeats 40000000 in
theorem comes_1 {Post : Tables → Env → Array Value → State → Outcome → State → Prop} (hpost : ∀ tb e args s v u, (limb_1_1.after args s (.returned v) u = true ∧ limb_1_2.after args s (.returned v) u = true ∧ True) → FrameEnd s (.returned v) u (Jvm.fieldLocs frame_1_writes args s ++ Jvm.arrayLocs frame_1_arrays args s ++ Jvm.staticLocs frame_1_statics s) 48 320 → Post tb e args s (.returned v) u) :
    ArmFor flags0 classFile x code maxLocals ret World_1 tables_1 room_1 Calls_1 rest_1 Pre_1 Post := by
  intro l hfl _ _ p e ha hc hk s m args below hf hA hF happ hP
  obtain ⟨hcalls, hrest, hpre⟩ := hP
  obtain ⟨-, -, -, hnamed, -, -, -, hat⟩ := (Spec.applies_iff hf).mp happ
  obtain ⟨hg, hn⟩ := and_e (Cond.before_iff.mp (show (Jvm.Cond.and given_1 narrow_1).before args s = true from hpre))
  obtain ⟨g0, g⟩ := and_e hg
  obtain ⟨ga0, g⟩ := and_e g
  obtain ⟨ga1, g⟩ := and_e g
  obtain ⟨ga2, g⟩ := and_e g
  obtain ⟨ga3, g⟩ := and_e g
  have ga4 := g
  obtain ⟨w0, w1, w2, w3, w4, rfl⟩ : ∃ w0 w1 w2 w3 w4 : Value, args = #[w0, w1, w2, w3, w4] := by
    have hs : args.size = 5 := by simpa [Cond.value, given_1] using g0
    obtain ⟨L⟩ := args
    match L, hs with
    | [w0, w1, w2, w3, w4], _ => exact ⟨w0, w1, w2, w3, w4, rfl⟩
  have hw := fun d (hd : d ∈ tables_1) => atoms_spec (ws := Jvm.Cond.code x code maxLocals ret :: tables_1) hat d (List.mem_cons_of_mem _ hd)
  have hfit : Fit s := fun {y c} hc i hi => by
    obtain ⟨ha, rfl⟩ := Array.getElem?_eq_some_iff.mp hc
    have q := List.all_eq_true.mp ((Array.all_eq_true_iff_forall_mem.mp hF) _ (Array.getElem_mem ha)) i (List.mem_range.mpr hi)
    simpa [Array.getElem?_eq_getElem hi] using q
  obtain ⟨i0, ei0⟩ := is_v ga0
  obtain rfl : w0 = (.int i0) := Option.some.inj ei0
  obtain ⟨i1, ei1⟩ := is_v ga1
  obtain rfl : w1 = (.int i1) := Option.some.inj ei1
  obtain ⟨i2, ei2⟩ := is_v ga2
  obtain rfl : w2 = (.int i2) := Option.some.inj ei2
  obtain ⟨i3, ei3⟩ := is_v ga3
  obtain rfl : w3 = (.int i3) := Option.some.inj ei3
  obtain ⟨i4, ei4⟩ := is_v ga4
  obtain rfl : w4 = (.int i4) := Option.some.inj ei4
  obtain ⟨hsets, hown0⟩ := atoms_of _ (rest_1_c_eq ▸ (show rest_1_c.before _ s = true from hrest))
  obtain ⟨dA, dS, dO⟩ := own_ob0 hfit (hw _ (List.mem_of_getElem? (i := 24) rfl)) (hsets _ (List.mem_of_getElem? (i := 2) rfl)) (by decide) (hsets _ (List.mem_of_getElem? (i := 6) rfl)) (hsets _ (List.mem_of_getElem? (i := 8) rfl))
  obtain ⟨xn0, hn⟩ := and_e hn
  obtain ⟨xn1, hn⟩ := and_e hn
  obtain ⟨xn2, hn⟩ := and_e hn
  obtain ⟨xn3, hn⟩ := and_e hn
  obtain ⟨xn4, hn⟩ := and_e hn
  obtain ⟨xn5, hn⟩ := and_e hn
  obtain ⟨xn6, hn⟩ := and_e hn
  obtain ⟨xn7, hn⟩ := and_e hn
  have xn8 := hn
  obtain ⟨tA, -, tS, -⟩ := own_stat (hw _ (List.mem_of_getElem? (i := 109) rfl)) (hw _ (List.mem_of_getElem? (i := 115) rfl)) xn0
  obtain ⟨fA, -, fS, -⟩ := own_stat (hw _ (List.mem_of_getElem? (i := 109) rfl)) (hw _ (List.mem_of_getElem? (i := 117) rfl)) xn1
  obtain ⟨kA, kS, kE, kF⟩ := own_const (hw _ (List.mem_of_getElem? (i := 199) rfl)) (hw _ (List.mem_of_getElem? (i := 200) rfl)) xn2 xn5
  obtain ⟨swA, sS, sO⟩ := own_sw hfit (hw _ (List.mem_of_getElem? (i := 259) rfl)) (hw _ (List.mem_of_getElem? (i := 260) rfl)) (by decide) (own_vb xn3) (own_vb xn4) (own_vb xn7) (own_vb xn8) (own_vb xn6)
  obtain ⟨n, o, h1, h2, h3, _, L, rfl, ⟨rfl, N⟩, hq⟩ := rm0 l s _ hw tables_1 i0 i1 i2 i3 i4 s.heap s.heap.size (Nat.le_refl _) dA tA fA kA swA _ rfl dS dO tS fS kS kE (Fld.start kF) sS sO p e ha hc hk s m _ below hf ((Spec.applies_iff_loose hf).mp happ).1 ⟨rfl, State.Warmed39.refl s, rfl⟩ trivial
  refine ⟨n, _, h1, h2, h3, hpost _ _ _ _ _ _ ⟨Cond.after_iff.mpr rfl, Cond.after_iff.mpr (eq_i res_at (Term.int_eval (1)) rfl), trivial⟩ ⟨hq.1, hq.2.1, (hq.2.2.sift fun y hy => Or.inr (N y hy)).mono (by decide) (by decide)⟩⟩
theorem main_1_1 : Claimed_1_1 := comes_1 fun _ _ _ _ _ _ h hF => ⟨h.1, hF⟩
theorem main_1_2 : Claimed_1_2 := comes_1 fun _ _ _ _ _ _ h hF => ⟨h.2.1, hF⟩
end Jvm.Pilot.@@N@@
namespace Jvm.Pilot.@@N@@
open Jvm Jvm.ClassFile Sem Op Lib Jvm.Free Jvm.Stand Jvm.Pilot.@@N@@.Jvm.D
/-! MADE BY PROGRAM (witnessworld.py) out of the Statement's table words and the real class files: 43 classes; the members and pool entries that the words name. The judged class is class 1, her method 1. -/
namespace start1
open Jvm.ClassFile
def u (s : String) : CpInfo := .utf8 (stringToUtf16 s)
/-- a pool by its gaps: so many unusable entries, then the entry; so many at the end -/
def gap : Nat → List CpInfo → List CpInfo
  | 0, r => r
  | n + 1, r => .unusable :: gap n r
def poolList (es : List (Nat × CpInfo)) (last : Nat) : List CpInfo := es.foldr (fun e r => gap e.1 (e.2 :: r)) (gap last [])
def pool (es : List (Nat × CpInfo)) (last : Nat) : Array CpInfo := ⟨poolList es last⟩
def fileOf (pool : Array CpInfo) (this : Nat) (attrs : Array Attribute := #[]) (ms : Array MethodInfo := #[]) (fl : Nat := 33) (sup : Nat := 0) (ifs : Array Nat := #[]) (fds : Array FieldInfo := #[]) : ClassFile where
  minorVersion := 0
  majorVersion := 65
  constantPool := pool
  accessFlags := fl
  thisClass := this
  superClass := sup
  interfaces := ifs
  fields := fds
  methods := ms
  attributes := attrs
def plain (name : String) (sup : Option ClassId) : Class where
  name := name
  kind := .ordinary
  loader := none
  accessFlags := 33
  super := sup
  interfaces := #[]
  cf := none
  fields := #[]
  methods := #[]
  instanceTypes := #[]
  staticTypes := #[]
  resolved := #[]
  callSites := []
  init := .initialized
  statics := none
  mirror := none

def pool0 : Array CpInfo := pool [(5, u "<init>"), (0, u "()V"), (1, .class_ 10), (1, u "java/lang/Object")] 113

def k0c0 : Code := { maxStack := 0, maxLocals := 1, code := object_method_1_code, exceptionTable := #[], attributes := #[] }
def k0m0 : Method := { name := "<init>", desc := "()V", sig := { parameters := [], returnType := none }, accessFlags := 1, code := some k0c0 }
/-- java/lang/Object -/
def k0 : Class := { plain "java/lang/Object" none with
  accessFlags := 33
  interfaces := #[]
  cf := some (fileOf pool0 8 #[] #[{ accessFlags := 1, nameIndex := 5, descriptorIndex := 6, attributes := #[] }] 33 0 #[] #[])
  fields := #[]
  methods := #[k0m0]
  instanceTypes := #[]
  staticTypes := #[]
  resolved := Array.replicate 124 none
  statics := none }

def pool1 : Array CpInfo := pool [(2, .class_ 4), (0, .nameAndType 5 6), (0, u "java/lang/Object"), (0, u "<init>"), (0, u "()V"), (0, .integer 2147483647), (0, .class_ 9), (0, u "com/example/unweave/unweave/abstraction/PathEncoding"), (0, .methodref 8 11), (0, .nameAndType 5 12), (0, u "(I)V"), (0, .methodref 8 14), (0, .nameAndType 15 16), (0, u "isChanged"), (0, u "(I)Z"), (0, .class_ 18), (0, u "java/util/ArrayList"), (0, .methodref 17 3), (0, .methodref 21 22), (0, .class_ 23), (0, .nameAndType 24 25), (0, u "com/example/unweave/unweave/abstraction/Operation"), (0, u "ofHavoc"), (0, u "(I)Lcom/example/unweave/unweave/abstraction/Operation;"), (0, .methodref 17 27), (0, .nameAndType 28 29), (0, u "add"), (0, u "(Ljava/lang/Object;)Z"), (0, .methodref 8 31), (0, .nameAndType 32 33), (0, u "encode"), (0, u "(Ljava/util/List;)Lcom/example/unweave/unweave/arith/Formula;"), (0, .class_ 35), (0, u "com/example/unweave/unweave/abstraction/PathEncodingIsChangedPinLaw"), (2, u "law"), (0, u "(IIIII)Z")] 3

def k1m0 : Method := { name := "<init>", desc := "()V", sig := { parameters := [], returnType := none }, accessFlags := 1, code := none }
def k1c1 : Code := { maxStack := 3, maxLocals := 16, code := code, exceptionTable := #[], attributes := #[] }
def k1m1 : Method := { name := "law", desc := "(IIIII)Z", sig := { parameters := [.int, .int, .int, .int, .int], returnType := some .boolean }, accessFlags := 9, code := some k1c1 }
/-- com/example/unweave/unweave/abstraction/PathEncodingIsChangedPinLaw -/
def k1 : Class := { plain "com/example/unweave/unweave/abstraction/PathEncodingIsChangedPinLaw" (some 0) with
  accessFlags := 49
  interfaces := #[]
  cf := some (fileOf pool1 34 #[] #[{ accessFlags := 1, nameIndex := 5, descriptorIndex := 6, attributes := #[] }, { accessFlags := 9, nameIndex := 38, descriptorIndex := 39, attributes := #[] }] 49 2 #[] #[])
  fields := #[]
  methods := #[k1m0, k1m1]
  instanceTypes := #[]
  staticTypes := #[]
  resolved := Array.replicate 43 none
  statics := none }

def pool2 : Array CpInfo := pool [(1, .methodref 2 3), (0, .class_ 4), (0, .nameAndType 5 6), (0, u "java/lang/Object"), (0, u "<init>"), (0, u "()V"), (0, .fieldref 8 9), (0, .class_ 10), (0, .nameAndType 11 12), (0, u "com/example/unweave/unweave/abstraction/PathEncoding"), (0, u "m_nVariables"), (0, u "I"), (0, .fieldref 8 14), (0, .nameAndType 15 16), (0, u "m_aCurrent"), (0, u "[I"), (0, .fieldref 8 18), (0, .nameAndType 19 12), (0, u "m_nNext"), (0, .class_ 21), (0, u "java/util/HashMap"), (0, .methodref 20 3), (0, .class_ 24), (0, u "java/util/ArrayList"), (0, .methodref 23 3), (0, .interfaceMethodref 27 28), (0, .class_ 29), (0, .nameAndType 30 31), (0, u "java/util/List"), (0, u "iterator"), (0, u "()Ljava/util/Iterator;"), (0, .interfaceMethodref 33 34), (0, .class_ 35), (0, .nameAndType 36 37), (0, u "java/util/Iterator"), (0, u "hasNext"), (0, u "()Z"), (0, .interfaceMethodref 33 39), (0, .nameAndType 40 41), (0, u "next"), (0, u "()Ljava/lang/Object;"), (0, .class_ 43), (0, u "com/example/unweave/unweave/abstraction/Operation"), (0, .fieldref 45 46), (0, .class_ 47), (0, .nameAndType 48 16), (0, u "com/example/unweave/unweave/abstraction/PathEncoding$1"), (0, u "$SwitchMap$com$example$unweave$unweave$abstraction$Operation$EKind"), (0, .methodref 42 50), (0, .nameAndType 51 52), (0, u "getKind"), (0, u "()Lcom/example/unweave/unweave/abstraction/Operation$EKind;"), (0, .methodref 54 55), (0, .class_ 56), (0, .nameAndType 57 58), (0, u "com/example/unweave/unweave/abstraction/Operation$EKind"), (0, u "ordinal"), (0, u "()I"), (9, .class_ 70), (1, u "com/example/unweave/unweave/arith/Formula"), (2, .interfaceMethodref 27 74), (0, .nameAndType 75 76), (0, u "add"), (0, u "(Ljava/lang/Object;)Z"), (18, .methodref 42 96), (0, .nameAndType 97 58), (0, u "getVariable"), (9, .methodref 68 108), (0, .nameAndType 109 110), (0, u "and"), (0, u "(Ljava/util/List;)Lcom/example/unweave/unweave/arith/Formula;"), (27, u "(I)V"), (3, u "encode"), (4, u "isChanged"), (0, u "(I)Z")] 39

def k2c0 : Code := { maxStack := 3, maxLocals := 3, code := prog_17_method_1_code, exceptionTable := #[], attributes := #[] }
def k2m0 : Method := { name := "<init>", desc := "(I)V", sig := { parameters := [.int], returnType := none }, accessFlags := 1, code := some k2c0 }
def k2c1 : Code := { maxStack := 6, maxLocals := 7, code := prog_17_method_2_code, exceptionTable := #[], attributes := #[] }
def k2m1 : Method := { name := "encode", desc := "(Ljava/util/List;)Lcom/example/unweave/unweave/arith/Formula;", sig := { parameters := [(.object "java/util/List")], returnType := some (.object "com/example/unweave/unweave/arith/Formula") }, accessFlags := 1, code := some k2c1 }
def k2c2 : Code := { maxStack := 2, maxLocals := 2, code := prog_17_method_4_code, exceptionTable := #[], attributes := #[] }
def k2m2 : Method := { name := "isChanged", desc := "(I)Z", sig := { parameters := [.int], returnType := some .boolean }, accessFlags := 1, code := some k2c2 }
/-- com/example/unweave/unweave/abstraction/PathEncoding -/
def k2 : Class := { plain "com/example/unweave/unweave/abstraction/PathEncoding" (some 0) with
  accessFlags := 49
  interfaces := #[]
  cf := some (fileOf pool2 8 #[.nestMembers #[45]] #[{ accessFlags := 1, nameIndex := 5, descriptorIndex := 138, attributes := #[] }, { accessFlags := 1, nameIndex := 142, descriptorIndex := 110, attributes := #[] }, { accessFlags := 1, nameIndex := 147, descriptorIndex := 148, attributes := #[] }] 49 2 #[] #[{ accessFlags := 18, nameIndex := 11, descriptorIndex := 12, attributes := #[] }, { accessFlags := 18, nameIndex := 15, descriptorIndex := 16, attributes := #[] }, { accessFlags := 2, nameIndex := 19, descriptorIndex := 12, attributes := #[] }])
  fields := #[{ name := "m_nVariables", type := .int, accessFlags := 18, slot := 0, constantValue := 0 }, { name := "m_aCurrent", type := (.array .int), accessFlags := 18, slot := 1, constantValue := 0 }, { name := "m_nNext", type := .int, accessFlags := 2, slot := 2, constantValue := 0 }]
  methods := #[k2m0, k2m1, k2m2]
  instanceTypes := #[.int, (.array .int), .int]
  staticTypes := #[]
  resolved := Array.replicate 188 none
  statics := none }

def pool3 : Array CpInfo := pool [(8, .class_ 10), (1, u "java/lang/Iterable"), (24, .class_ 36), (0, u "java/lang/Object")] 25

/-- java/lang/Iterable -/
def k3 : Class := { plain "java/lang/Iterable" (some 0) with
  accessFlags := 1537
  interfaces := #[]
  cf := some (fileOf pool3 8 #[] #[] 1537 35 #[] #[])
  fields := #[]
  methods := #[]
  instanceTypes := #[]
  staticTypes := #[]
  resolved := Array.replicate 62 none
  statics := none }

def pool4 : Array CpInfo := pool [(10, .class_ 12), (1, u "java/util/Collection"), (47, .class_ 61), (0, u "java/lang/Object"), (0, .class_ 63), (0, u "java/lang/Iterable")] 51

/-- java/util/Collection -/
def k4 : Class := { plain "java/util/Collection" (some 0) with
  accessFlags := 1537
  interfaces := #[3]
  cf := some (fileOf pool4 10 #[] #[] 1537 60 #[62] #[])
  fields := #[]
  methods := #[]
  instanceTypes := #[]
  staticTypes := #[]
  resolved := Array.replicate 115 none
  statics := none }

def pool5 : Array CpInfo := pool [(1, .methodref 2 3), (0, .class_ 4), (0, .nameAndType 5 6), (0, u "java/lang/Object"), (0, u "<init>"), (0, u "()V"), (1, .class_ 10), (1, u "java/util/AbstractCollection"), (66, .class_ 78), (0, u "java/util/Collection")] 81

def k5c0 : Code := { maxStack := 1, maxLocals := 1, code := jdk_22_method_1_code, exceptionTable := #[], attributes := #[] }
def k5m0 : Method := { name := "<init>", desc := "()V", sig := { parameters := [], returnType := none }, accessFlags := 4, code := some k5c0 }
/-- java/util/AbstractCollection -/
def k5 : Class := { plain "java/util/AbstractCollection" (some 0) with
  accessFlags := 1057
  interfaces := #[4]
  cf := some (fileOf pool5 8 #[] #[{ accessFlags := 4, nameIndex := 5, descriptorIndex := 6, attributes := #[] }] 1057 2 #[77] #[])
  fields := #[]
  methods := #[k5m0]
  instanceTypes := #[]
  staticTypes := #[]
  resolved := Array.replicate 160 none
  statics := none }

def pool6 : Array CpInfo := pool [(8, .class_ 10), (1, u "java/util/SequencedCollection"), (15, .class_ 27), (0, u "java/lang/Object"), (0, .class_ 29), (0, u "java/util/Collection")] 27

/-- java/util/SequencedCollection -/
def k6 : Class := { plain "java/util/SequencedCollection" (some 0) with
  accessFlags := 1537
  interfaces := #[4]
  cf := some (fileOf pool6 8 #[] #[] 1537 26 #[28] #[])
  fields := #[]
  methods := #[]
  instanceTypes := #[]
  staticTypes := #[]
  resolved := Array.replicate 57 none
  statics := none }

def pool7 : Array CpInfo := pool [(8, .class_ 10), (1, u "java/util/List"), (49, u "add"), (3, u "(Ljava/lang/Object;)Z"), (38, .class_ 104), (0, u "java/lang/Object"), (15, .class_ 121), (0, u "java/util/SequencedCollection"), (1, u "iterator"), (0, u "()Ljava/util/Iterator;")] 126

def k7m0 : Method := { name := "iterator", desc := "()Ljava/util/Iterator;", sig := { parameters := [], returnType := some (.object "java/util/Iterator") }, accessFlags := 1025, code := none }
def k7m1 : Method := { name := "add", desc := "(Ljava/lang/Object;)Z", sig := { parameters := [(.object "java/lang/Object")], returnType := some .boolean }, accessFlags := 1025, code := none }
/-- java/util/List -/
def k7 : Class := { plain "java/util/List" (some 0) with
  accessFlags := 1537
  interfaces := #[6]
  cf := some (fileOf pool7 8 #[] #[{ accessFlags := 1025, nameIndex := 123, descriptorIndex := 124, attributes := #[] }, { accessFlags := 1025, nameIndex := 60, descriptorIndex := 64, attributes := #[] }] 1537 103 #[120] #[])
  fields := #[]
  methods := #[k7m0, k7m1]
  instanceTypes := #[]
  staticTypes := #[]
  resolved := Array.replicate 251 none
  statics := none }

def pool8 : Array CpInfo := pool [(1, .methodref 2 3), (0, .class_ 4), (0, .nameAndType 5 6), (0, u "java/util/AbstractCollection"), (0, u "<init>"), (0, u "()V"), (0, .fieldref 8 9), (0, .class_ 10), (0, .nameAndType 11 12), (0, u "java/util/AbstractList"), (0, u "modCount"), (0, u "I"), (64, .class_ 78), (0, u "java/util/AbstractList$Itr"), (3, .class_ 83), (0, u "java/util/AbstractList$ListItr"), (9, .class_ 94), (0, u "java/util/AbstractList$RandomAccessSubList"), (3, .class_ 99), (0, u "java/util/AbstractList$SubList"), (33, .class_ 134), (0, u "java/util/List"), (73, .class_ 209), (0, u "java/util/AbstractList$SubList$1"), (0, .class_ 211), (0, u "java/util/AbstractList$RandomAccessSpliterator")] 6

def k8c0 : Code := { maxStack := 2, maxLocals := 1, code := jdk_39_method_1_code, exceptionTable := #[], attributes := #[] }
def k8m0 : Method := { name := "<init>", desc := "()V", sig := { parameters := [], returnType := none }, accessFlags := 4, code := some k8c0 }
/-- java/util/AbstractList -/
def k8 : Class := { plain "java/util/AbstractList" (some 5) with
  accessFlags := 1057
  interfaces := #[7]
  cf := some (fileOf pool8 8 #[.nestMembers #[93, 98, 208, 210, 82, 77]] #[{ accessFlags := 4, nameIndex := 5, descriptorIndex := 6, attributes := #[] }] 1057 2 #[133] #[{ accessFlags := 132, nameIndex := 11, descriptorIndex := 12, attributes := #[] }])
  fields := #[{ name := "modCount", type := .int, accessFlags := 132, slot := 0, constantValue := 0 }]
  methods := #[k8m0]
  instanceTypes := #[.int]
  staticTypes := #[]
  resolved := Array.replicate 218 none
  statics := none }

def pool9 : Array CpInfo := pool [(1, .class_ 2), (0, u "java/util/RandomAccess"), (0, .class_ 4), (0, u "java/lang/Object")] 2

/-- java/util/RandomAccess -/
def k9 : Class := { plain "java/util/RandomAccess" (some 0) with
  accessFlags := 1537
  interfaces := #[]
  cf := some (fileOf pool9 1 #[] #[] 1537 3 #[] #[])
  fields := #[]
  methods := #[]
  instanceTypes := #[]
  staticTypes := #[]
  resolved := Array.replicate 7 none
  statics := none }

def pool10 : Array CpInfo := pool [(1, .class_ 2), (0, u "java/lang/Cloneable"), (0, .class_ 4), (0, u "java/lang/Object")] 2

/-- java/lang/Cloneable -/
def k10 : Class := { plain "java/lang/Cloneable" (some 0) with
  accessFlags := 1537
  interfaces := #[]
  cf := some (fileOf pool10 1 #[] #[] 1537 3 #[] #[])
  fields := #[]
  methods := #[]
  instanceTypes := #[]
  staticTypes := #[]
  resolved := Array.replicate 7 none
  statics := none }

def pool11 : Array CpInfo := pool [(1, .class_ 2), (0, u "java/io/Serializable"), (0, .class_ 4), (0, u "java/lang/Object")] 2

/-- java/io/Serializable -/
def k11 : Class := { plain "java/io/Serializable" (some 0) with
  accessFlags := 1537
  interfaces := #[]
  cf := some (fileOf pool11 1 #[] #[] 1537 3 #[] #[])
  fields := #[]
  methods := #[]
  instanceTypes := #[]
  staticTypes := #[]
  resolved := Array.replicate 7 none
  statics := none }

def pool12 : Array CpInfo := pool [(1, .methodref 2 3), (0, .class_ 4), (0, .nameAndType 5 6), (0, u "java/util/AbstractList"), (0, u "<init>"), (0, u "()V"), (0, .class_ 8), (0, u "java/lang/Object"), (0, .fieldref 10 11), (0, .class_ 12), (0, .nameAndType 13 14), (0, u "java/util/ArrayList"), (0, u "elementData"), (0, u "[Ljava/lang/Object;"), (2, u "EMPTY_ELEMENTDATA"), (21, .fieldref 10 40), (0, .nameAndType 41 14), (0, u "DEFAULTCAPACITY_EMPTY_ELEMENTDATA"), (5, u "()[Ljava/lang/Object;"), (0, .fieldref 10 49), (0, .nameAndType 50 51), (0, u "size"), (0, u "I"), (11, .fieldref 10 64), (0, .nameAndType 65 51), (0, u "modCount"), (3, .methodref 10 70), (0, .nameAndType 71 72), (0, u "grow"), (0, u "(I)[Ljava/lang/Object;"), (6, .methodref 80 81), (0, .class_ 82), (0, .nameAndType 83 84), (0, u "java/lang/Math"), (0, u "max"), (0, u "(II)I"), (11, u "(Ljava/lang/Object;)Z"), (32, .methodref 10 130), (0, .nameAndType 71 47), (0, .methodref 10 132), (0, .nameAndType 133 134), (0, u "add"), (0, u "(Ljava/lang/Object;[Ljava/lang/Object;I)V"), (13, .class_ 149), (0, u "java/util/List"), (16, u "iterator"), (0, u "()Ljava/util/Iterator;"), (94, .class_ 263), (0, u "java/util/ArrayList$ListItr"), (3, .class_ 268), (0, u "java/util/ArrayList$Itr"), (0, .methodref 267 270), (0, .nameAndType 5 271), (0, u "(Ljava/util/ArrayList;)V"), (4, .class_ 277), (0, u "java/util/ArrayList$SubList"), (12, .class_ 291), (0, u "java/util/ArrayList$ArrayListSpliterator"), (37, .class_ 330), (0, u "java/util/RandomAccess"), (0, .class_ 332), (0, u "java/lang/Cloneable"), (0, .class_ 334), (0, u "java/io/Serializable"), (0, u "serialVersionUID"), (0, u "J"), (3, u "DEFAULT_CAPACITY"), (159, .class_ 501), (0, u "java/util/ArrayList$SubList$2"), (0, .class_ 503), (0, u "java/util/ArrayList$SubList$1")] 5

def k12c0 : Code := { maxStack := 2, maxLocals := 1, code := jdk_38_method_2_code, exceptionTable := #[], attributes := #[] }
def k12m0 : Method := { name := "<init>", desc := "()V", sig := { parameters := [], returnType := none }, accessFlags := 1, code := some k12c0 }
def k12c1 : Code := { maxStack := 4, maxLocals := 4, code := jdk_38_method_6_code, exceptionTable := #[], attributes := #[] }
def k12m1 : Method := { name := "grow", desc := "(I)[Ljava/lang/Object;", sig := { parameters := [.int], returnType := some (.array (.object "java/lang/Object")) }, accessFlags := 2, code := some k12c1 }
def k12c2 : Code := { maxStack := 3, maxLocals := 1, code := jdk_38_method_7_code, exceptionTable := #[], attributes := #[] }
def k12m2 : Method := { name := "grow", desc := "()[Ljava/lang/Object;", sig := { parameters := [], returnType := some (.array (.object "java/lang/Object")) }, accessFlags := 2, code := some k12c2 }
def k12c3 : Code := { maxStack := 3, maxLocals := 4, code := jdk_38_method_24_code, exceptionTable := #[], attributes := #[] }
def k12m3 : Method := { name := "add", desc := "(Ljava/lang/Object;[Ljava/lang/Object;I)V", sig := { parameters := [(.object "java/lang/Object"), (.array (.object "java/lang/Object")), .int], returnType := none }, accessFlags := 2, code := some k12c3 }
def k12c4 : Code := { maxStack := 4, maxLocals := 2, code := jdk_38_method_25_code, exceptionTable := #[], attributes := #[] }
def k12m4 : Method := { name := "add", desc := "(Ljava/lang/Object;)Z", sig := { parameters := [(.object "java/lang/Object")], returnType := some .boolean }, accessFlags := 1, code := some k12c4 }
def k12c5 : Code := { maxStack := 3, maxLocals := 1, code := jdk_38_method_55_code, exceptionTable := #[], attributes := #[] }
def k12m5 : Method := { name := "iterator", desc := "()Ljava/util/Iterator;", sig := { parameters := [], returnType := some (.object "java/util/Iterator") }, accessFlags := 1, code := some k12c5 }
/-- java/util/ArrayList -/
def k12 : Class := { plain "java/util/ArrayList" (some 8) with
  accessFlags := 33
  interfaces := #[7, 9, 10, 11]
  cf := some (fileOf pool12 10 #[.nestMembers #[290, 276, 500, 502, 262, 267]] #[{ accessFlags := 1, nameIndex := 5, descriptorIndex := 6, attributes := #[] }, { accessFlags := 2, nameIndex := 71, descriptorIndex := 72, attributes := #[] }, { accessFlags := 2, nameIndex := 71, descriptorIndex := 47, attributes := #[] }, { accessFlags := 2, nameIndex := 133, descriptorIndex := 134, attributes := #[] }, { accessFlags := 1, nameIndex := 133, descriptorIndex := 96, attributes := #[] }, { accessFlags := 1, nameIndex := 166, descriptorIndex := 167, attributes := #[] }] 33 2 #[148, 329, 331, 333] #[{ accessFlags := 26, nameIndex := 335, descriptorIndex := 336, attributes := #[] }, { accessFlags := 26, nameIndex := 340, descriptorIndex := 51, attributes := #[] }, { accessFlags := 26, nameIndex := 17, descriptorIndex := 14, attributes := #[] }, { accessFlags := 26, nameIndex := 41, descriptorIndex := 14, attributes := #[] }, { accessFlags := 128, nameIndex := 13, descriptorIndex := 14, attributes := #[] }, { accessFlags := 2, nameIndex := 50, descriptorIndex := 51, attributes := #[] }])
  fields := #[{ name := "serialVersionUID", type := .long, accessFlags := 26, slot := 0, constantValue := 0 }, { name := "DEFAULT_CAPACITY", type := .int, accessFlags := 26, slot := 1, constantValue := 0 }, { name := "EMPTY_ELEMENTDATA", type := (.array (.object "java/lang/Object")), accessFlags := 26, slot := 2, constantValue := 0 }, { name := "DEFAULTCAPACITY_EMPTY_ELEMENTDATA", type := (.array (.object "java/lang/Object")), accessFlags := 26, slot := 3, constantValue := 0 }, { name := "elementData", type := (.array (.object "java/lang/Object")), accessFlags := 128, slot := 1, constantValue := 0 }, { name := "size", type := .int, accessFlags := 2, slot := 2, constantValue := 0 }]
  methods := #[k12m0, k12m1, k12m2, k12m3, k12m4, k12m5]
  instanceTypes := #[.int, (.array (.object "java/lang/Object")), .int]
  staticTypes := #[.long, .int, (.array (.object "java/lang/Object")), (.array (.object "java/lang/Object"))]
  resolved := Array.replicate 509 none
  statics := some 0 }

def pool13 : Array CpInfo := pool [(2, .class_ 4), (1, u "java/util/Map"), (31, .class_ 37), (0, u "java/util/Map$Entry"), (55, .class_ 94), (0, u "java/lang/Object")] 168

/-- java/util/Map -/
def k13 : Class := { plain "java/util/Map" (some 0) with
  accessFlags := 1537
  interfaces := #[]
  cf := some (fileOf pool13 2 #[.nestMembers #[36]] #[] 1537 93 #[] #[])
  fields := #[]
  methods := #[]
  instanceTypes := #[]
  staticTypes := #[]
  resolved := Array.replicate 263 none
  statics := none }

def pool14 : Array CpInfo := pool [(1, .methodref 2 3), (0, .class_ 4), (0, .nameAndType 5 6), (0, u "java/lang/Object"), (0, u "<init>"), (0, u "()V"), (1, .class_ 10), (1, u "java/util/AbstractMap"), (42, .class_ 54), (0, u "java/util/Map"), (9, u "keySet"), (0, u "Ljava/util/Set;"), (0, .class_ 67), (0, u "java/util/AbstractMap$1"), (5, u "values"), (0, u "Ljava/util/Collection;"), (0, .class_ 76), (0, u "java/util/AbstractMap$2"), (104, .class_ 182), (0, u "java/util/AbstractMap$ViewCollection"), (0, .class_ 184), (0, u "java/util/AbstractMap$SimpleImmutableEntry"), (0, .class_ 186), (0, u "java/util/AbstractMap$SimpleEntry"), (0, .class_ 188), (0, u "java/util/AbstractMap$2$1"), (0, .class_ 190), (0, u "java/util/AbstractMap$1$1")] 5

def k14c0 : Code := { maxStack := 1, maxLocals := 1, code := jdk_71_method_1_code, exceptionTable := #[], attributes := #[] }
def k14m0 : Method := { name := "<init>", desc := "()V", sig := { parameters := [], returnType := none }, accessFlags := 4, code := some k14c0 }
/-- java/util/AbstractMap -/
def k14 : Class := { plain "java/util/AbstractMap" (some 0) with
  accessFlags := 1057
  interfaces := #[13]
  cf := some (fileOf pool14 8 #[.nestMembers #[181, 183, 185, 75, 187, 66, 189]] #[{ accessFlags := 4, nameIndex := 5, descriptorIndex := 6, attributes := #[] }] 1057 2 #[53] #[{ accessFlags := 128, nameIndex := 64, descriptorIndex := 65, attributes := #[] }, { accessFlags := 128, nameIndex := 73, descriptorIndex := 74, attributes := #[] }])
  fields := #[{ name := "keySet", type := (.object "java/util/Set"), accessFlags := 128, slot := 0, constantValue := 0 }, { name := "values", type := (.object "java/util/Collection"), accessFlags := 128, slot := 1, constantValue := 0 }]
  methods := #[k14m0]
  instanceTypes := #[(.object "java/util/Set"), (.object "java/util/Collection")]
  staticTypes := #[]
  resolved := Array.replicate 196 none
  statics := none }

def pool15 : Array CpInfo := pool [(34, .methodref 35 36), (0, .class_ 37), (0, .nameAndType 38 39), (0, u "java/lang/Integer"), (0, u "numberOfLeadingZeros"), (0, u "(I)I"), (0, .class_ 41), (0, u "java/util/HashMap"), (0, .integer 1073741824), (0, .methodref 44 45), (0, .class_ 46), (0, .nameAndType 47 48), (0, u "java/util/AbstractMap"), (0, u "<init>"), (0, u "()V"), (21, .methodref 71 72), (0, .class_ 73), (0, .nameAndType 74 75), (0, u "java/lang/Float"), (0, u "isNaN"), (0, u "(F)Z"), (5, .fieldref 40 82), (0, .nameAndType 83 84), (0, u "loadFactor"), (0, u "F"), (0, .methodref 40 86), (0, .nameAndType 87 39), (0, u "tableSizeFor"), (0, .fieldref 40 89), (0, .nameAndType 90 91), (0, u "threshold"), (0, u "I"), (0, .float 1061158912), (2, u "(IF)V"), (5, .class_ 103), (1, u "java/util/Map"), (0, u "size"), (2, u "table"), (0, u "[Ljava/util/HashMap$Node;"), (14, u "entrySet"), (12, u "()Z"), (19, .fieldref 40 157), (0, .nameAndType 104 91), (5, .class_ 165), (1, u "java/util/HashMap$Node"), (14, .class_ 181), (0, u "java/util/HashMap$TreeNode"), (22, u "modCount"), (37, u "Ljava/util/Set;"), (0, .class_ 244), (0, u "java/util/HashMap$KeySet"), (18, .class_ 264), (0, u "java/util/HashMap$Values"), (3, .class_ 269), (0, u "java/util/HashMap$EntrySet"), (76, .class_ 348), (1, u "java/util/HashMap$UnsafeHolder"), (43, .class_ 393), (0, u "java/lang/Cloneable"), (0, .class_ 395), (0, u "java/io/Serializable"), (0, u "serialVersionUID"), (0, u "J"), (3, u "DEFAULT_INITIAL_CAPACITY"), (1, u "MAXIMUM_CAPACITY"), (0, u "DEFAULT_LOAD_FACTOR"), (0, u "TREEIFY_THRESHOLD"), (1, u "UNTREEIFY_THRESHOLD"), (1, u "MIN_TREEIFY_CAPACITY"), (52, u "isEmpty"), (133, .class_ 597), (0, u "java/util/HashMap$EntrySpliterator"), (0, .class_ 599), (0, u "java/util/HashMap$ValueSpliterator"), (0, .class_ 601), (0, u "java/util/HashMap$KeySpliterator"), (0, .class_ 603), (0, u "java/util/HashMap$HashMapSpliterator"), (0, .class_ 605), (0, u "java/util/HashMap$EntryIterator"), (0, .class_ 607), (0, u "java/util/HashMap$ValueIterator"), (0, .class_ 609), (0, u "java/util/HashMap$KeyIterator"), (0, .class_ 611), (0, u "java/util/HashMap$HashIterator")] 17

def k15c0 : Code := { maxStack := 3, maxLocals := 2, code := jdk_69_method_4_code, exceptionTable := #[], attributes := #[] }
def k15m0 : Method := { name := "tableSizeFor", desc := "(I)I", sig := { parameters := [.int], returnType := some .int }, accessFlags := 24, code := some k15c0 }
def k15c1 : Code := { maxStack := 4, maxLocals := 3, code := jdk_69_method_5_code, exceptionTable := #[], attributes := #[] }
def k15m1 : Method := { name := "<init>", desc := "(IF)V", sig := { parameters := [.int, .float], returnType := none }, accessFlags := 1, code := some k15c1 }
def k15c2 : Code := { maxStack := 2, maxLocals := 1, code := jdk_69_method_7_code, exceptionTable := #[], attributes := #[] }
def k15m2 : Method := { name := "<init>", desc := "()V", sig := { parameters := [], returnType := none }, accessFlags := 1, code := some k15c2 }
def k15c3 : Code := { maxStack := 1, maxLocals := 1, code := jdk_69_method_11_code, exceptionTable := #[], attributes := #[] }
def k15m3 : Method := { name := "isEmpty", desc := "()Z", sig := { parameters := [], returnType := some .boolean }, accessFlags := 1, code := some k15c3 }
/-- java/util/HashMap -/
def k15 : Class := { plain "java/util/HashMap" (some 14) with
  accessFlags := 33
  interfaces := #[13, 10, 11]
  cf := some (fileOf pool15 40 #[.nestMembers #[180, 596, 598, 600, 602, 604, 606, 608, 610, 346, 268, 263, 243, 163]] #[{ accessFlags := 24, nameIndex := 87, descriptorIndex := 39, attributes := #[] }, { accessFlags := 1, nameIndex := 47, descriptorIndex := 95, attributes := #[] }, { accessFlags := 1, nameIndex := 47, descriptorIndex := 48, attributes := #[] }, { accessFlags := 1, nameIndex := 462, descriptorIndex := 136, attributes := #[] }] 33 44 #[101, 392, 394] #[{ accessFlags := 26, nameIndex := 396, descriptorIndex := 397, attributes := #[] }, { accessFlags := 24, nameIndex := 401, descriptorIndex := 91, attributes := #[] }, { accessFlags := 24, nameIndex := 403, descriptorIndex := 91, attributes := #[] }, { accessFlags := 24, nameIndex := 404, descriptorIndex := 84, attributes := #[] }, { accessFlags := 24, nameIndex := 405, descriptorIndex := 91, attributes := #[] }, { accessFlags := 24, nameIndex := 407, descriptorIndex := 91, attributes := #[] }, { accessFlags := 24, nameIndex := 409, descriptorIndex := 91, attributes := #[] }, { accessFlags := 128, nameIndex := 107, descriptorIndex := 108, attributes := #[] }, { accessFlags := 128, nameIndex := 123, descriptorIndex := 242, attributes := #[] }, { accessFlags := 128, nameIndex := 104, descriptorIndex := 91, attributes := #[] }, { accessFlags := 128, nameIndex := 204, descriptorIndex := 91, attributes := #[] }, { accessFlags := 0, nameIndex := 90, descriptorIndex := 91, attributes := #[] }, { accessFlags := 16, nameIndex := 83, descriptorIndex := 84, attributes := #[] }])
  fields := #[{ name := "serialVersionUID", type := .long, accessFlags := 26, slot := 0, constantValue := 0 }, { name := "DEFAULT_INITIAL_CAPACITY", type := .int, accessFlags := 24, slot := 1, constantValue := 0 }, { name := "MAXIMUM_CAPACITY", type := .int, accessFlags := 24, slot := 2, constantValue := 0 }, { name := "DEFAULT_LOAD_FACTOR", type := .float, accessFlags := 24, slot := 3, constantValue := 0 }, { name := "TREEIFY_THRESHOLD", type := .int, accessFlags := 24, slot := 4, constantValue := 0 }, { name := "UNTREEIFY_THRESHOLD", type := .int, accessFlags := 24, slot := 5, constantValue := 0 }, { name := "MIN_TREEIFY_CAPACITY", type := .int, accessFlags := 24, slot := 6, constantValue := 0 }, { name := "table", type := (.array (.object "java/util/HashMap$Node")), accessFlags := 128, slot := 2, constantValue := 0 }, { name := "entrySet", type := (.object "java/util/Set"), accessFlags := 128, slot := 3, constantValue := 0 }, { name := "size", type := .int, accessFlags := 128, slot := 4, constantValue := 0 }, { name := "modCount", type := .int, accessFlags := 128, slot := 5, constantValue := 0 }, { name := "threshold", type := .int, accessFlags := 0, slot := 6, constantValue := 0 }, { name := "loadFactor", type := .float, accessFlags := 16, slot := 7, constantValue := 0 }]
  methods := #[k15m0, k15m1, k15m2, k15m3]
  instanceTypes := #[(.object "java/util/Set"), (.object "java/util/Collection"), (.array (.object "java/util/HashMap$Node")), (.object "java/util/Set"), .int, .int, .int, .float]
  staticTypes := #[.long, .int, .int, .float, .int, .int, .int]
  resolved := Array.replicate 629 none
  statics := none }

def pool16 : Array CpInfo := pool [(16, .class_ 18), (1, u "java/util/Iterator"), (0, u "hasNext"), (0, u "()Z"), (2, u "next"), (0, u "()Ljava/lang/Object;"), (6, .class_ 32), (0, u "java/lang/Object")] 20

def k16m0 : Method := { name := "hasNext", desc := "()Z", sig := { parameters := [], returnType := some .boolean }, accessFlags := 1025, code := none }
def k16m1 : Method := { name := "next", desc := "()Ljava/lang/Object;", sig := { parameters := [], returnType := some (.object "java/lang/Object") }, accessFlags := 1025, code := none }
/-- java/util/Iterator -/
def k16 : Class := { plain "java/util/Iterator" (some 0) with
  accessFlags := 1537
  interfaces := #[]
  cf := some (fileOf pool16 16 #[] #[{ accessFlags := 1025, nameIndex := 19, descriptorIndex := 20, attributes := #[] }, { accessFlags := 1025, nameIndex := 23, descriptorIndex := 24, attributes := #[] }] 1537 31 #[] #[])
  fields := #[]
  methods := #[k16m0, k16m1]
  instanceTypes := #[]
  staticTypes := #[]
  resolved := Array.replicate 53 none
  statics := none }

def pool17 : Array CpInfo := pool [(1, .fieldref 2 3), (0, .class_ 4), (0, .nameAndType 5 6), (0, u "java/util/ArrayList$Itr"), (0, u "this$0"), (0, u "Ljava/util/ArrayList;"), (0, .methodref 8 9), (0, .class_ 10), (0, .nameAndType 11 12), (0, u "java/lang/Object"), (0, u "<init>"), (0, u "()V"), (0, .fieldref 2 14), (0, .nameAndType 15 16), (0, u "lastRet"), (0, u "I"), (0, .fieldref 18 19), (0, .class_ 20), (0, .nameAndType 21 16), (0, u "java/util/ArrayList"), (0, u "modCount"), (0, .fieldref 2 23), (0, .nameAndType 24 16), (0, u "expectedModCount"), (0, .fieldref 2 26), (0, .nameAndType 27 16), (0, u "cursor"), (0, .fieldref 18 29), (0, .nameAndType 30 16), (0, u "size"), (0, .methodref 2 32), (0, .nameAndType 33 12), (0, u "checkForComodification"), (3, .fieldref 18 38), (0, .nameAndType 39 40), (0, u "elementData"), (0, u "[Ljava/lang/Object;"), (28, .class_ 70), (0, u "java/util/Iterator"), (0, u "(Ljava/util/ArrayList;)V"), (8, u "hasNext"), (0, u "()Z"), (1, u "next"), (0, u "()Ljava/lang/Object;")] 19

def k17c0 : Code := { maxStack := 2, maxLocals := 2, code := jdk_49_method_1_code, exceptionTable := #[], attributes := #[] }
def k17m0 : Method := { name := "<init>", desc := "(Ljava/util/ArrayList;)V", sig := { parameters := [(.object "java/util/ArrayList")], returnType := none }, accessFlags := 0, code := some k17c0 }
def k17c1 : Code := { maxStack := 2, maxLocals := 1, code := jdk_49_method_2_code, exceptionTable := #[], attributes := #[] }
def k17m1 : Method := { name := "hasNext", desc := "()Z", sig := { parameters := [], returnType := some .boolean }, accessFlags := 1, code := some k17c1 }
def k17c2 : Code := { maxStack := 4, maxLocals := 3, code := jdk_49_method_3_code, exceptionTable := #[], attributes := #[] }
def k17m2 : Method := { name := "next", desc := "()Ljava/lang/Object;", sig := { parameters := [], returnType := some (.object "java/lang/Object") }, accessFlags := 1, code := some k17c2 }
def k17c3 : Code := { maxStack := 2, maxLocals := 1, code := jdk_49_method_6_code, exceptionTable := #[], attributes := #[] }
def k17m3 : Method := { name := "checkForComodification", desc := "()V", sig := { parameters := [], returnType := none }, accessFlags := 16, code := some k17c3 }
/-- java/util/ArrayList$Itr -/
def k17 : Class := { plain "java/util/ArrayList$Itr" (some 0) with
  accessFlags := 32
  interfaces := #[16]
  cf := some (fileOf pool17 2 #[.nestHost 18] #[{ accessFlags := 0, nameIndex := 11, descriptorIndex := 71, attributes := #[] }, { accessFlags := 1, nameIndex := 80, descriptorIndex := 81, attributes := #[] }, { accessFlags := 1, nameIndex := 83, descriptorIndex := 84, attributes := #[] }, { accessFlags := 16, nameIndex := 33, descriptorIndex := 12, attributes := #[] }] 32 8 #[69] #[{ accessFlags := 0, nameIndex := 27, descriptorIndex := 16, attributes := #[] }, { accessFlags := 0, nameIndex := 15, descriptorIndex := 16, attributes := #[] }, { accessFlags := 0, nameIndex := 24, descriptorIndex := 16, attributes := #[] }, { accessFlags := 4112, nameIndex := 5, descriptorIndex := 6, attributes := #[] }])
  fields := #[{ name := "cursor", type := .int, accessFlags := 0, slot := 0, constantValue := 0 }, { name := "lastRet", type := .int, accessFlags := 0, slot := 1, constantValue := 0 }, { name := "expectedModCount", type := .int, accessFlags := 0, slot := 2, constantValue := 0 }, { name := "this$0", type := (.object "java/util/ArrayList"), accessFlags := 4112, slot := 3, constantValue := 0 }]
  methods := #[k17m0, k17m1, k17m2, k17m3]
  instanceTypes := #[.int, .int, .int, (.object "java/util/ArrayList")]
  staticTypes := #[]
  resolved := Array.replicate 104 none
  statics := none }

def pool18 : Array CpInfo := pool [(2, .class_ 4), (0, .nameAndType 5 6), (0, u "java/lang/Object"), (0, u "<init>"), (0, u "()V"), (0, .class_ 8), (0, u "java/util/LinkedHashSet"), (0, .methodref 7 3), (1, .class_ 13), (1, u "com/example/unweave/unweave/arith/Formula"), (2, .class_ 17), (0, u "com/example/unweave/unweave/arith/Formula$Junction"), (8, .interfaceMethodref 27 28), (0, .class_ 29), (0, .nameAndType 30 31), (0, u "java/util/List"), (0, u "iterator"), (0, u "()Ljava/util/Iterator;"), (0, .interfaceMethodref 33 34), (0, .class_ 35), (0, .nameAndType 36 37), (0, u "java/util/Iterator"), (0, u "hasNext"), (0, u "()Z"), (0, .interfaceMethodref 33 39), (0, .nameAndType 40 41), (0, u "next"), (0, u "()Ljava/lang/Object;"), (15, .fieldref 11 58), (0, .nameAndType 59 60), (0, u "FALSE"), (0, u "Lcom/example/unweave/unweave/arith/Formula;"), (35, .methodref 11 97), (0, .nameAndType 98 99), (0, u "_join"), (0, u "(ZLjava/util/List;)Lcom/example/unweave/unweave/arith/Formula;"), (5, u "and"), (0, u "(Ljava/util/List;)Lcom/example/unweave/unweave/arith/Formula;"), (3, .fieldref 11 111), (0, .nameAndType 112 60), (0, u "TRUE"), (1, .class_ 116), (1, u "java/util/Set"), (6, .interfaceMethodref 114 124), (0, .nameAndType 125 37), (0, u "isEmpty"), (5, .class_ 132), (0, u "java/util/ArrayList"), (6, .class_ 140), (0, u "com/example/unweave/unweave/arith/Formula$Constant"), (3, u "MOST_COUNTED"), (0, u "J")] 35

def k18m0 : Method := { name := "<init>", desc := "()V", sig := { parameters := [], returnType := none }, accessFlags := 1, code := none }
def k18c1 : Code := { maxStack := 2, maxLocals := 1, code := prog_23_method_13_code, exceptionTable := #[], attributes := #[] }
def k18m1 : Method := { name := "and", desc := "(Ljava/util/List;)Lcom/example/unweave/unweave/arith/Formula;", sig := { parameters := [(.object "java/util/List")], returnType := some (.object "com/example/unweave/unweave/arith/Formula") }, accessFlags := 9, code := some k18c1 }
def k18c2 : Code := { maxStack := 6, maxLocals := 8, code := prog_23_method_17_code, exceptionTable := #[], attributes := #[] }
def k18m2 : Method := { name := "_join", desc := "(ZLjava/util/List;)Lcom/example/unweave/unweave/arith/Formula;", sig := { parameters := [.boolean, (.object "java/util/List")], returnType := some (.object "com/example/unweave/unweave/arith/Formula") }, accessFlags := 10, code := some k18c2 }
/-- com/example/unweave/unweave/arith/Formula -/
def k18 : Class := { plain "com/example/unweave/unweave/arith/Formula" (some 0) with
  accessFlags := 1057
  interfaces := #[]
  cf := some (fileOf pool18 11 #[.nestMembers #[16, 139]] #[{ accessFlags := 1, nameIndex := 5, descriptorIndex := 6, attributes := #[] }, { accessFlags := 9, nameIndex := 105, descriptorIndex := 106, attributes := #[] }, { accessFlags := 10, nameIndex := 98, descriptorIndex := 99, attributes := #[] }] 1057 2 #[] #[{ accessFlags := 25, nameIndex := 112, descriptorIndex := 60, attributes := #[] }, { accessFlags := 25, nameIndex := 59, descriptorIndex := 60, attributes := #[] }, { accessFlags := 25, nameIndex := 144, descriptorIndex := 145, attributes := #[] }])
  fields := #[{ name := "TRUE", type := (.object "com/example/unweave/unweave/arith/Formula"), accessFlags := 25, slot := 0, constantValue := 0 }, { name := "FALSE", type := (.object "com/example/unweave/unweave/arith/Formula"), accessFlags := 25, slot := 1, constantValue := 0 }, { name := "MOST_COUNTED", type := .long, accessFlags := 25, slot := 2, constantValue := 0 }]
  methods := #[k18m0, k18m1, k18m2]
  instanceTypes := #[]
  staticTypes := #[(.object "com/example/unweave/unweave/arith/Formula"), (.object "com/example/unweave/unweave/arith/Formula"), .long]
  resolved := Array.replicate 181 none
  statics := some 1 }

def pool19 : Array CpInfo := pool [(26, .class_ 27), (0, u "java/lang/Object"), (5, .class_ 34), (0, u "java/util/Set"), (1, .class_ 38), (1, u "java/util/Collection"), (0, u "isEmpty"), (0, u "()Z")] 103

def k19m0 : Method := { name := "isEmpty", desc := "()Z", sig := { parameters := [], returnType := some .boolean }, accessFlags := 1025, code := none }
/-- java/util/Set -/
def k19 : Class := { plain "java/util/Set" (some 0) with
  accessFlags := 1537
  interfaces := #[4]
  cf := some (fileOf pool19 33 #[] #[{ accessFlags := 1025, nameIndex := 39, descriptorIndex := 40, attributes := #[] }] 1537 26 #[36] #[])
  fields := #[]
  methods := #[k19m0]
  instanceTypes := #[]
  staticTypes := #[]
  resolved := Array.replicate 144 none
  statics := none }

def pool20 : Array CpInfo := pool [(1, .methodref 2 3), (0, .class_ 4), (0, .nameAndType 5 6), (0, u "java/util/AbstractCollection"), (0, u "<init>"), (0, u "()V"), (0, .class_ 8), (0, u "java/util/Set"), (7, .class_ 17), (0, u "java/util/AbstractSet")] 78

def k20c0 : Code := { maxStack := 1, maxLocals := 1, code := jdk_91_method_1_code, exceptionTable := #[], attributes := #[] }
def k20m0 : Method := { name := "<init>", desc := "()V", sig := { parameters := [], returnType := none }, accessFlags := 4, code := some k20c0 }
/-- java/util/AbstractSet -/
def k20 : Class := { plain "java/util/AbstractSet" (some 5) with
  accessFlags := 1057
  interfaces := #[19]
  cf := some (fileOf pool20 16 #[] #[{ accessFlags := 4, nameIndex := 5, descriptorIndex := 6, attributes := #[] }] 1057 2 #[7] #[])
  fields := #[]
  methods := #[k20m0]
  instanceTypes := #[]
  staticTypes := #[]
  resolved := Array.replicate 96 none
  statics := none }

def pool21 : Array CpInfo := pool [(1, .methodref 2 3), (0, .class_ 4), (0, .nameAndType 5 6), (0, u "java/util/AbstractSet"), (0, u "<init>"), (0, u "()V"), (0, .class_ 8), (0, u "java/util/HashMap"), (1, .fieldref 11 12), (0, .class_ 13), (0, .nameAndType 14 15), (0, u "java/util/HashSet"), (0, u "map"), (0, u "Ljava/util/HashMap;"), (21, .nameAndType 5 38), (0, u "(IF)V"), (3, .class_ 43), (0, u "java/util/LinkedHashMap"), (0, .methodref 42 37), (5, .class_ 52), (1, u "java/util/Set"), (3, .methodref 7 57), (0, .nameAndType 58 59), (0, u "isEmpty"), (0, u "()Z"), (6, u "PRESENT"), (0, u "Ljava/lang/Object;"), (158, .class_ 227), (0, u "java/lang/Cloneable"), (0, .class_ 229), (0, u "java/io/Serializable"), (0, u "serialVersionUID"), (0, u "J"), (20, u "(IFZ)V")] 50

def k21m0 : Method := { name := "<init>", desc := "()V", sig := { parameters := [], returnType := none }, accessFlags := 1, code := none }
def k21c1 : Code := { maxStack := 5, maxLocals := 4, code := jdk_93_method_5_code, exceptionTable := #[], attributes := #[] }
def k21m1 : Method := { name := "<init>", desc := "(IFZ)V", sig := { parameters := [.int, .float, .boolean], returnType := none }, accessFlags := 0, code := some k21c1 }
def k21c2 : Code := { maxStack := 1, maxLocals := 1, code := jdk_93_method_8_code, exceptionTable := #[], attributes := #[] }
def k21m2 : Method := { name := "isEmpty", desc := "()Z", sig := { parameters := [], returnType := some .boolean }, accessFlags := 1, code := some k21c2 }
/-- java/util/HashSet -/
def k21 : Class := { plain "java/util/HashSet" (some 20) with
  accessFlags := 33
  interfaces := #[19, 10, 11]
  cf := some (fileOf pool21 11 #[] #[{ accessFlags := 1, nameIndex := 5, descriptorIndex := 6, attributes := #[] }, { accessFlags := 0, nameIndex := 5, descriptorIndex := 252, attributes := #[] }, { accessFlags := 1, nameIndex := 58, descriptorIndex := 59, attributes := #[] }] 33 2 #[50, 226, 228] #[{ accessFlags := 24, nameIndex := 230, descriptorIndex := 231, attributes := #[] }, { accessFlags := 128, nameIndex := 14, descriptorIndex := 15, attributes := #[] }, { accessFlags := 24, nameIndex := 66, descriptorIndex := 67, attributes := #[] }])
  fields := #[{ name := "serialVersionUID", type := .long, accessFlags := 24, slot := 0, constantValue := 0 }, { name := "map", type := (.object "java/util/HashMap"), accessFlags := 128, slot := 0, constantValue := 0 }, { name := "PRESENT", type := (.object "java/lang/Object"), accessFlags := 24, slot := 1, constantValue := 0 }]
  methods := #[k21m0, k21m1, k21m2]
  instanceTypes := #[(.object "java/util/HashMap")]
  staticTypes := #[.long, (.object "java/lang/Object")]
  resolved := Array.replicate 303 none
  statics := none }

def pool22 : Array CpInfo := pool [(2, .class_ 4), (1, u "java/util/SequencedSet"), (2, .class_ 8), (0, u "java/lang/Object"), (0, .class_ 10), (0, u "java/util/SequencedCollection"), (0, .class_ 12), (0, u "java/util/Set")] 13

/-- java/util/SequencedSet -/
def k22 : Class := { plain "java/util/SequencedSet" (some 0) with
  accessFlags := 1537
  interfaces := #[6, 19]
  cf := some (fileOf pool22 2 #[] #[] 1537 7 #[9, 11] #[])
  fields := #[]
  methods := #[]
  instanceTypes := #[]
  staticTypes := #[]
  resolved := Array.replicate 26 none
  statics := none }

def pool23 : Array CpInfo := pool [(1, .methodref 2 3), (0, .class_ 4), (0, .nameAndType 5 6), (0, u "java/util/HashSet"), (0, u "<init>"), (0, u "(IFZ)V"), (0, .float 1061158912), (19, .class_ 29), (1, u "java/util/LinkedHashSet"), (16, u "()V"), (44, .class_ 93), (1, u "java/util/SequencedSet"), (11, .class_ 106), (0, u "java/util/LinkedHashSet$1ReverseLinkedHashSetView"), (6, .class_ 114), (0, u "java/lang/Cloneable"), (0, .class_ 116), (0, u "java/io/Serializable"), (0, u "serialVersionUID"), (0, u "J")] 44

def k23c0 : Code := { maxStack := 4, maxLocals := 1, code := jdk_2620_method_3_code, exceptionTable := #[], attributes := #[] }
def k23m0 : Method := { name := "<init>", desc := "()V", sig := { parameters := [], returnType := none }, accessFlags := 1, code := some k23c0 }
/-- java/util/LinkedHashSet -/
def k23 : Class := { plain "java/util/LinkedHashSet" (some 21) with
  accessFlags := 33
  interfaces := #[22, 10, 11]
  cf := some (fileOf pool23 27 #[.nestMembers #[105]] #[{ accessFlags := 1, nameIndex := 5, descriptorIndex := 46, attributes := #[] }] 33 2 #[91, 113, 115] #[{ accessFlags := 26, nameIndex := 117, descriptorIndex := 118, attributes := #[] }])
  fields := #[{ name := "serialVersionUID", type := .long, accessFlags := 26, slot := 0, constantValue := 0 }]
  methods := #[k23m0]
  instanceTypes := #[(.object "java/util/HashMap")]
  staticTypes := #[.long]
  resolved := Array.replicate 163 none
  statics := none }

def pool24 : Array CpInfo := pool [(2, .class_ 4), (1, u "java/util/SequencedMap"), (38, .class_ 44), (0, u "java/util/SequencedMap$1SeqKeySet"), (3, .class_ 49), (0, u "java/util/SequencedMap$1SeqValues"), (1, .class_ 52), (0, u "java/util/SequencedMap$1SeqEntrySet"), (1, .class_ 55), (0, u "java/lang/Object"), (0, .class_ 57), (0, u "java/util/Map")] 48

/-- java/util/SequencedMap -/
def k24 : Class := { plain "java/util/SequencedMap" (some 0) with
  accessFlags := 1537
  interfaces := #[13]
  cf := some (fileOf pool24 2 #[.nestMembers #[51, 48, 43]] #[] 1537 54 #[56] #[])
  fields := #[]
  methods := #[]
  instanceTypes := #[]
  staticTypes := #[]
  resolved := Array.replicate 106 none
  statics := none }

def pool25 : Array CpInfo := pool [(1, .fieldref 2 3), (0, .class_ 4), (0, .nameAndType 5 6), (0, u "java/util/LinkedHashMap"), (0, u "putMode"), (0, u "I"), (2, u "head"), (0, u "Ljava/util/LinkedHashMap$Entry;"), (2, u "tail"), (1, .class_ 17), (1, u "java/util/LinkedHashMap$Entry"), (5, .class_ 25), (1, u "java/util/HashMap"), (1, u "()V"), (2, u "<init>"), (33, .fieldref 2 65), (0, .nameAndType 66 67), (0, u "accessOrder"), (0, u "Z"), (13, .methodref 23 82), (0, .nameAndType 30 83), (0, u "(IF)V"), (37, .class_ 122), (0, u "java/util/LinkedHashMap$LinkedKeySet"), (20, .class_ 144), (0, u "java/util/LinkedHashMap$LinkedValues"), (9, .class_ 155), (0, u "java/util/LinkedHashMap$LinkedEntrySet"), (44, .class_ 201), (0, u "java/util/LinkedHashMap$ReversedLinkedHashMapView"), (3, .class_ 206), (0, u "java/util/SequencedMap"), (0, u "serialVersionUID"), (0, u "J"), (5, u "PUT_NORM"), (1, u "PUT_FIRST"), (1, u "PUT_LAST"), (143, .class_ 363), (0, u "java/util/LinkedHashMap$LinkedEntryIterator"), (0, .class_ 365), (0, u "java/util/LinkedHashMap$LinkedValueIterator"), (0, .class_ 367), (0, u "java/util/LinkedHashMap$LinkedKeyIterator"), (0, .class_ 369), (0, u "java/util/LinkedHashMap$LinkedHashIterator")] 16

def k25c0 : Code := { maxStack := 3, maxLocals := 3, code := jdk_94_method_14_code, exceptionTable := #[], attributes := #[] }
def k25m0 : Method := { name := "<init>", desc := "(IF)V", sig := { parameters := [.int, .float], returnType := none }, accessFlags := 1, code := some k25c0 }
def k25m1 : Method := { name := "<init>", desc := "()V", sig := { parameters := [], returnType := none }, accessFlags := 1, code := none }
/-- java/util/LinkedHashMap -/
def k25 : Class := { plain "java/util/LinkedHashMap" (some 15) with
  accessFlags := 33
  interfaces := #[24]
  cf := some (fileOf pool25 2 #[.nestMembers #[200, 362, 364, 366, 368, 154, 143, 121, 15]] #[{ accessFlags := 1, nameIndex := 30, descriptorIndex := 83, attributes := #[] }, { accessFlags := 1, nameIndex := 30, descriptorIndex := 27, attributes := #[] }] 33 23 #[205] #[{ accessFlags := 26, nameIndex := 207, descriptorIndex := 208, attributes := #[] }, { accessFlags := 128, nameIndex := 9, descriptorIndex := 10, attributes := #[] }, { accessFlags := 128, nameIndex := 13, descriptorIndex := 10, attributes := #[] }, { accessFlags := 16, nameIndex := 66, descriptorIndex := 67, attributes := #[] }, { accessFlags := 24, nameIndex := 214, descriptorIndex := 6, attributes := #[] }, { accessFlags := 24, nameIndex := 216, descriptorIndex := 6, attributes := #[] }, { accessFlags := 24, nameIndex := 218, descriptorIndex := 6, attributes := #[] }, { accessFlags := 128, nameIndex := 5, descriptorIndex := 6, attributes := #[] }])
  fields := #[{ name := "serialVersionUID", type := .long, accessFlags := 26, slot := 0, constantValue := 0 }, { name := "head", type := (.object "java/util/LinkedHashMap$Entry"), accessFlags := 128, slot := 8, constantValue := 0 }, { name := "tail", type := (.object "java/util/LinkedHashMap$Entry"), accessFlags := 128, slot := 9, constantValue := 0 }, { name := "accessOrder", type := .boolean, accessFlags := 16, slot := 10, constantValue := 0 }, { name := "PUT_NORM", type := .int, accessFlags := 24, slot := 1, constantValue := 0 }, { name := "PUT_FIRST", type := .int, accessFlags := 24, slot := 2, constantValue := 0 }, { name := "PUT_LAST", type := .int, accessFlags := 24, slot := 3, constantValue := 0 }, { name := "putMode", type := .int, accessFlags := 128, slot := 11, constantValue := 0 }]
  methods := #[k25m0, k25m1]
  instanceTypes := #[(.object "java/util/Set"), (.object "java/util/Collection"), (.array (.object "java/util/HashMap$Node")), (.object "java/util/Set"), .int, .int, .int, .float, (.object "java/util/LinkedHashMap$Entry"), (.object "java/util/LinkedHashMap$Entry"), .boolean, .int]
  staticTypes := #[.long, .int, .int, .int]
  resolved := Array.replicate 386 none
  statics := none }

def pool26 : Array CpInfo := pool [(2, .class_ 4), (1, u "java/lang/Object"), (0, u "<init>"), (0, u "()V"), (1, .class_ 10), (1, u "java/lang/Number"), (2, .class_ 14), (0, u "java/io/Serializable"), (0, u "serialVersionUID"), (0, u "J")] 20

def k26m0 : Method := { name := "<init>", desc := "()V", sig := { parameters := [], returnType := none }, accessFlags := 1, code := none }
/-- java/lang/Number -/
def k26 : Class := { plain "java/lang/Number" (some 0) with
  accessFlags := 1057
  interfaces := #[11]
  cf := some (fileOf pool26 8 #[] #[{ accessFlags := 1, nameIndex := 5, descriptorIndex := 6, attributes := #[] }] 1057 2 #[13] #[{ accessFlags := 26, nameIndex := 15, descriptorIndex := 16, attributes := #[] }])
  fields := #[{ name := "serialVersionUID", type := .long, accessFlags := 26, slot := 0, constantValue := 0 }]
  methods := #[k26m0]
  instanceTypes := #[]
  staticTypes := #[.long]
  resolved := Array.replicate 37 none
  statics := none }

def pool27 : Array CpInfo := pool [(1, .class_ 2), (0, u "java/lang/Comparable"), (0, .class_ 4), (0, u "java/lang/Object")] 7

/-- java/lang/Comparable -/
def k27 : Class := { plain "java/lang/Comparable" (some 0) with
  accessFlags := 1537
  interfaces := #[]
  cf := some (fileOf pool27 1 #[] #[] 1537 3 #[] #[])
  fields := #[]
  methods := #[]
  instanceTypes := #[]
  staticTypes := #[]
  resolved := Array.replicate 12 none
  statics := none }

def pool28 : Array CpInfo := pool [(1, .class_ 2), (0, u "java/lang/constant/Constable"), (0, .class_ 4), (0, u "java/lang/Object")] 6

/-- java/lang/constant/Constable -/
def k28 : Class := { plain "java/lang/constant/Constable" (some 0) with
  accessFlags := 1537
  interfaces := #[]
  cf := some (fileOf pool28 1 #[] #[] 1537 3 #[] #[])
  fields := #[]
  methods := #[]
  instanceTypes := #[]
  staticTypes := #[]
  resolved := Array.replicate 11 none
  statics := none }

def pool29 : Array CpInfo := pool [(1, .class_ 2), (0, u "java/lang/constant/ConstantDesc"), (0, .class_ 4), (0, u "java/lang/Object")] 32

/-- java/lang/constant/ConstantDesc -/
def k29 : Class := { plain "java/lang/constant/ConstantDesc" (some 0) with
  accessFlags := 1537
  interfaces := #[]
  cf := some (fileOf pool29 1 #[] #[] 1537 3 #[] #[])
  fields := #[]
  methods := #[]
  instanceTypes := #[]
  staticTypes := #[]
  resolved := Array.replicate 37 none
  statics := none }

def pool30 : Array CpInfo := pool [(1, .class_ 2), (0, u "java/lang/Float"), (48, .class_ 53), (1, u "java/lang/Number"), (3, u "value"), (0, u "F"), (2, u "isNaN"), (0, u "(F)Z"), (28, u "$assertionsDisabled"), (0, u "Z"), (52, u "TYPE"), (0, u "Ljava/lang/Class;"), (0, .class_ 148), (0, u "java/lang/Comparable"), (0, .class_ 150), (0, u "java/lang/constant/Constable"), (0, .class_ 152), (0, u "java/lang/constant/ConstantDesc"), (0, u "POSITIVE_INFINITY"), (1, u "NEGATIVE_INFINITY"), (1, u "NaN"), (1, u "MAX_VALUE"), (0, u "MIN_NORMAL"), (0, u "MIN_VALUE"), (1, u "SIZE"), (0, u "I"), (1, u "PRECISION"), (1, u "MAX_EXPONENT"), (1, u "MIN_EXPONENT"), (1, u "BYTES"), (3, u "serialVersionUID"), (0, u "J")] 101

def k30c0 : Code := { maxStack := 2, maxLocals := 1, code := jdk_118_method_6_code, exceptionTable := #[], attributes := #[] }
def k30m0 : Method := { name := "isNaN", desc := "(F)Z", sig := { parameters := [.float], returnType := some .boolean }, accessFlags := 9, code := some k30c0 }
/-- java/lang/Float -/
def k30 : Class := { plain "java/lang/Float" (some 26) with
  accessFlags := 49
  interfaces := #[27, 28, 29]
  cf := some (fileOf pool30 1 #[] #[{ accessFlags := 9, nameIndex := 61, descriptorIndex := 62, attributes := #[] }] 49 51 #[147, 149, 151] #[{ accessFlags := 25, nameIndex := 153, descriptorIndex := 58, attributes := #[] }, { accessFlags := 25, nameIndex := 155, descriptorIndex := 58, attributes := #[] }, { accessFlags := 25, nameIndex := 157, descriptorIndex := 58, attributes := #[] }, { accessFlags := 25, nameIndex := 159, descriptorIndex := 58, attributes := #[] }, { accessFlags := 25, nameIndex := 160, descriptorIndex := 58, attributes := #[] }, { accessFlags := 25, nameIndex := 161, descriptorIndex := 58, attributes := #[] }, { accessFlags := 25, nameIndex := 163, descriptorIndex := 164, attributes := #[] }, { accessFlags := 25, nameIndex := 166, descriptorIndex := 164, attributes := #[] }, { accessFlags := 25, nameIndex := 168, descriptorIndex := 164, attributes := #[] }, { accessFlags := 25, nameIndex := 170, descriptorIndex := 164, attributes := #[] }, { accessFlags := 25, nameIndex := 172, descriptorIndex := 164, attributes := #[] }, { accessFlags := 25, nameIndex := 145, descriptorIndex := 146, attributes := #[] }, { accessFlags := 18, nameIndex := 57, descriptorIndex := 58, attributes := #[] }, { accessFlags := 26, nameIndex := 176, descriptorIndex := 177, attributes := #[] }, { accessFlags := 4120, nameIndex := 91, descriptorIndex := 92, attributes := #[] }])
  fields := #[{ name := "POSITIVE_INFINITY", type := .float, accessFlags := 25, slot := 0, constantValue := 0 }, { name := "NEGATIVE_INFINITY", type := .float, accessFlags := 25, slot := 1, constantValue := 0 }, { name := "NaN", type := .float, accessFlags := 25, slot := 2, constantValue := 0 }, { name := "MAX_VALUE", type := .float, accessFlags := 25, slot := 3, constantValue := 0 }, { name := "MIN_NORMAL", type := .float, accessFlags := 25, slot := 4, constantValue := 0 }, { name := "MIN_VALUE", type := .float, accessFlags := 25, slot := 5, constantValue := 0 }, { name := "SIZE", type := .int, accessFlags := 25, slot := 6, constantValue := 0 }, { name := "PRECISION", type := .int, accessFlags := 25, slot := 7, constantValue := 0 }, { name := "MAX_EXPONENT", type := .int, accessFlags := 25, slot := 8, constantValue := 0 }, { name := "MIN_EXPONENT", type := .int, accessFlags := 25, slot := 9, constantValue := 0 }, { name := "BYTES", type := .int, accessFlags := 25, slot := 10, constantValue := 0 }, { name := "TYPE", type := (.object "java/lang/Class"), accessFlags := 25, slot := 11, constantValue := 0 }, { name := "value", type := .float, accessFlags := 18, slot := 0, constantValue := 0 }, { name := "serialVersionUID", type := .long, accessFlags := 26, slot := 12, constantValue := 0 }, { name := "$assertionsDisabled", type := .boolean, accessFlags := 4120, slot := 13, constantValue := 0 }]
  methods := #[k30m0]
  instanceTypes := #[.float]
  staticTypes := #[.float, .float, .float, .float, .float, .float, .int, .int, .int, .int, .int, (.object "java/lang/Class"), .long, .boolean]
  resolved := Array.replicate 279 none
  statics := none }

def pool31 : Array CpInfo := pool [(1, .class_ 2), (0, u "java/lang/Integer"), (16, u "digits"), (0, u "[C"), (32, u "numberOfLeadingZeros"), (0, u "(I)I"), (30, u "DigitOnes"), (0, u "[B"), (2, u "DigitTens"), (99, .class_ 190), (0, u "java/lang/Integer$IntegerCache"), (3, u "I"), (8, .class_ 204), (0, u "java/lang/Number"), (2, u "value"), (56, .integer 65536), (37, u "TYPE"), (0, u "Ljava/lang/Class;"), (0, .class_ 305), (0, u "java/lang/Comparable"), (0, .class_ 307), (0, u "java/lang/constant/Constable"), (0, .class_ 309), (0, u "java/lang/constant/ConstantDesc"), (0, u "MIN_VALUE"), (1, u "MAX_VALUE"), (3, u "SIZE"), (1, u "BYTES"), (1, u "serialVersionUID"), (0, u "J")] 131

def k31c0 : Code := { maxStack := 3, maxLocals := 2, code := jdk_33_method_47_code, exceptionTable := #[], attributes := #[] }
def k31m0 : Method := { name := "numberOfLeadingZeros", desc := "(I)I", sig := { parameters := [.int], returnType := some .int }, accessFlags := 9, code := some k31c0 }
/-- java/lang/Integer -/
def k31 : Class := { plain "java/lang/Integer" (some 26) with
  accessFlags := 49
  interfaces := #[27, 28, 29]
  cf := some (fileOf pool31 1 #[.nestMembers #[189]] #[{ accessFlags := 9, nameIndex := 53, descriptorIndex := 54, attributes := #[] }] 49 203 #[304, 306, 308] #[{ accessFlags := 25, nameIndex := 310, descriptorIndex := 194, attributes := #[] }, { accessFlags := 25, nameIndex := 312, descriptorIndex := 194, attributes := #[] }, { accessFlags := 25, nameIndex := 302, descriptorIndex := 303, attributes := #[] }, { accessFlags := 24, nameIndex := 19, descriptorIndex := 20, attributes := #[] }, { accessFlags := 24, nameIndex := 89, descriptorIndex := 86, attributes := #[] }, { accessFlags := 24, nameIndex := 85, descriptorIndex := 86, attributes := #[] }, { accessFlags := 18, nameIndex := 207, descriptorIndex := 194, attributes := #[] }, { accessFlags := 25, nameIndex := 316, descriptorIndex := 194, attributes := #[] }, { accessFlags := 25, nameIndex := 318, descriptorIndex := 194, attributes := #[] }, { accessFlags := 26, nameIndex := 320, descriptorIndex := 321, attributes := #[] }])
  fields := #[{ name := "MIN_VALUE", type := .int, accessFlags := 25, slot := 0, constantValue := 0 }, { name := "MAX_VALUE", type := .int, accessFlags := 25, slot := 1, constantValue := 0 }, { name := "TYPE", type := (.object "java/lang/Class"), accessFlags := 25, slot := 2, constantValue := 0 }, { name := "digits", type := (.array .char), accessFlags := 24, slot := 3, constantValue := 0 }, { name := "DigitTens", type := (.array .byte), accessFlags := 24, slot := 4, constantValue := 0 }, { name := "DigitOnes", type := (.array .byte), accessFlags := 24, slot := 5, constantValue := 0 }, { name := "value", type := .int, accessFlags := 18, slot := 0, constantValue := 0 }, { name := "SIZE", type := .int, accessFlags := 25, slot := 6, constantValue := 0 }, { name := "BYTES", type := .int, accessFlags := 25, slot := 7, constantValue := 0 }, { name := "serialVersionUID", type := .long, accessFlags := 26, slot := 8, constantValue := 0 }]
  methods := #[k31m0]
  instanceTypes := #[.int]
  staticTypes := #[.int, .int, (.object "java/lang/Class"), (.array .char), (.array .byte), (.array .byte), .int, .int, .long]
  resolved := Array.replicate 453 none
  statics := none }

def pool32 : Array CpInfo := pool [(1, .methodref 2 3), (0, .class_ 4), (0, .nameAndType 5 6), (0, u "java/lang/Object"), (0, u "<init>"), (0, u "()V"), (0, .fieldref 8 9), (0, .class_ 10), (0, .nameAndType 11 12), (0, u "com/example/unweave/unweave/abstraction/Operation"), (0, u "m_eKind"), (0, u "Lcom/example/unweave/unweave/abstraction/Operation$EKind;"), (0, .fieldref 8 14), (0, .nameAndType 15 16), (0, u "m_aCondition"), (0, u "Lcom/example/unweave/unweave/arith/Formula;"), (0, .fieldref 8 18), (0, .nameAndType 19 20), (0, u "m_nVariable"), (0, u "I"), (0, .fieldref 8 22), (0, .nameAndType 23 24), (0, u "m_aValue"), (0, u "Lcom/example/unweave/unweave/arith/LinearTerm;"), (1, .class_ 28), (1, u "com/example/unweave/unweave/abstraction/Operation$EKind"), (1, .methodref 8 31), (0, .nameAndType 5 32), (0, u "(Lcom/example/unweave/unweave/abstraction/Operation$EKind;Lcom/example/unweave/unweave/arith/Formula;ILcom/example/unweave/unweave/arith/LinearTerm;)V"), (3, .fieldref 26 37), (0, .nameAndType 38 12), (0, u "HAVOC"), (3, u "()I"), (32, u "ofHavoc"), (0, u "(I)Lcom/example/unweave/unweave/abstraction/Operation;"), (18, u "getKind"), (0, u "()Lcom/example/unweave/unweave/abstraction/Operation$EKind;"), (2, u "getVariable")] 11

def k32c0 : Code := { maxStack := 2, maxLocals := 5, code := prog_15_method_1_code, exceptionTable := #[], attributes := #[] }
def k32m0 : Method := { name := "<init>", desc := "(Lcom/example/unweave/unweave/abstraction/Operation$EKind;Lcom/example/unweave/unweave/arith/Formula;ILcom/example/unweave/unweave/arith/LinearTerm;)V", sig := { parameters := [(.object "com/example/unweave/unweave/abstraction/Operation$EKind"), (.object "com/example/unweave/unweave/arith/Formula"), .int, (.object "com/example/unweave/unweave/arith/LinearTerm")], returnType := none }, accessFlags := 2, code := some k32c0 }
def k32c1 : Code := { maxStack := 6, maxLocals := 1, code := prog_15_method_4_code, exceptionTable := #[], attributes := #[] }
def k32m1 : Method := { name := "ofHavoc", desc := "(I)Lcom/example/unweave/unweave/abstraction/Operation;", sig := { parameters := [.int], returnType := some (.object "com/example/unweave/unweave/abstraction/Operation") }, accessFlags := 9, code := some k32c1 }
def k32c2 : Code := { maxStack := 1, maxLocals := 1, code := prog_15_method_5_code, exceptionTable := #[], attributes := #[] }
def k32m2 : Method := { name := "getKind", desc := "()Lcom/example/unweave/unweave/abstraction/Operation$EKind;", sig := { parameters := [], returnType := some (.object "com/example/unweave/unweave/abstraction/Operation$EKind") }, accessFlags := 1, code := some k32c2 }
def k32c3 : Code := { maxStack := 1, maxLocals := 1, code := prog_15_method_7_code, exceptionTable := #[], attributes := #[] }
def k32m3 : Method := { name := "getVariable", desc := "()I", sig := { parameters := [], returnType := some .int }, accessFlags := 1, code := some k32c3 }
/-- com/example/unweave/unweave/abstraction/Operation -/
def k32 : Class := { plain "com/example/unweave/unweave/abstraction/Operation" (some 0) with
  accessFlags := 49
  interfaces := #[]
  cf := some (fileOf pool32 8 #[.nestMembers #[26]] #[{ accessFlags := 2, nameIndex := 5, descriptorIndex := 32, attributes := #[] }, { accessFlags := 9, nameIndex := 75, descriptorIndex := 76, attributes := #[] }, { accessFlags := 1, nameIndex := 95, descriptorIndex := 96, attributes := #[] }, { accessFlags := 1, nameIndex := 99, descriptorIndex := 42, attributes := #[] }] 49 2 #[] #[{ accessFlags := 18, nameIndex := 11, descriptorIndex := 12, attributes := #[] }, { accessFlags := 18, nameIndex := 15, descriptorIndex := 16, attributes := #[] }, { accessFlags := 18, nameIndex := 19, descriptorIndex := 20, attributes := #[] }, { accessFlags := 18, nameIndex := 23, descriptorIndex := 24, attributes := #[] }])
  fields := #[{ name := "m_eKind", type := (.object "com/example/unweave/unweave/abstraction/Operation$EKind"), accessFlags := 18, slot := 0, constantValue := 0 }, { name := "m_aCondition", type := (.object "com/example/unweave/unweave/arith/Formula"), accessFlags := 18, slot := 1, constantValue := 0 }, { name := "m_nVariable", type := .int, accessFlags := 18, slot := 2, constantValue := 0 }, { name := "m_aValue", type := (.object "com/example/unweave/unweave/arith/LinearTerm"), accessFlags := 18, slot := 3, constantValue := 0 }]
  methods := #[k32m0, k32m1, k32m2, k32m3]
  instanceTypes := #[(.object "com/example/unweave/unweave/abstraction/Operation$EKind"), (.object "com/example/unweave/unweave/arith/Formula"), .int, (.object "com/example/unweave/unweave/arith/LinearTerm")]
  staticTypes := #[]
  resolved := Array.replicate 111 none
  statics := none }

def pool33 : Array CpInfo := pool [(2, .class_ 4), (1, u "java/lang/Enum"), (0, u "name"), (0, u "Ljava/lang/String;"), (0, .fieldref 2 8), (0, .nameAndType 9 10), (0, u "ordinal"), (0, u "I"), (1, .class_ 14), (1, u "java/lang/Object"), (4, u "hash"), (86, .class_ 108), (1, u "java/lang/Enum$EnumDesc"), (2, .class_ 112), (0, u "java/lang/constant/Constable"), (0, .class_ 114), (0, u "java/lang/Comparable"), (0, .class_ 116), (0, u "java/io/Serializable"), (9, u "()I")] 77

def k33c0 : Code := { maxStack := 1, maxLocals := 1, code := jdk_37_method_2_code, exceptionTable := #[], attributes := #[] }
def k33m0 : Method := { name := "ordinal", desc := "()I", sig := { parameters := [], returnType := some .int }, accessFlags := 17, code := some k33c0 }
/-- java/lang/Enum -/
def k33 : Class := { plain "java/lang/Enum" (some 0) with
  accessFlags := 1057
  interfaces := #[28, 27, 11]
  cf := some (fileOf pool33 2 #[.nestMembers #[106]] #[{ accessFlags := 17, nameIndex := 9, descriptorIndex := 126, attributes := #[] }] 1057 12 #[111, 113, 115] #[{ accessFlags := 18, nameIndex := 5, descriptorIndex := 6, attributes := #[] }, { accessFlags := 18, nameIndex := 9, descriptorIndex := 10, attributes := #[] }, { accessFlags := 2, nameIndex := 19, descriptorIndex := 10, attributes := #[] }])
  fields := #[{ name := "name", type := (.object "java/lang/String"), accessFlags := 18, slot := 0, constantValue := 0 }, { name := "ordinal", type := .int, accessFlags := 18, slot := 1, constantValue := 0 }, { name := "hash", type := .int, accessFlags := 2, slot := 2, constantValue := 0 }]
  methods := #[k33m0]
  instanceTypes := #[(.object "java/lang/String"), .int, .int]
  staticTypes := #[]
  resolved := Array.replicate 204 none
  statics := none }

def pool34 : Array CpInfo := pool [(1, .class_ 2), (0, u "com/example/unweave/unweave/abstraction/Operation$EKind"), (2, u "ASSUME"), (0, u "Lcom/example/unweave/unweave/abstraction/Operation$EKind;"), (2, u "ASSIGN"), (2, u "HAVOC"), (2, u "$VALUES"), (0, u "[Lcom/example/unweave/unweave/abstraction/Operation$EKind;"), (6, .class_ 25), (1, u "java/lang/Enum"), (26, .class_ 53), (0, u "com/example/unweave/unweave/abstraction/Operation")] 2

/-- com/example/unweave/unweave/abstraction/Operation$EKind -/
def k34 : Class := { plain "com/example/unweave/unweave/abstraction/Operation$EKind" (some 33) with
  accessFlags := 16433
  interfaces := #[]
  cf := some (fileOf pool34 1 #[.nestHost 52] #[] 16433 23 #[] #[{ accessFlags := 16409, nameIndex := 5, descriptorIndex := 6, attributes := #[] }, { accessFlags := 16409, nameIndex := 9, descriptorIndex := 6, attributes := #[] }, { accessFlags := 16409, nameIndex := 12, descriptorIndex := 6, attributes := #[] }, { accessFlags := 4122, nameIndex := 15, descriptorIndex := 16, attributes := #[] }])
  fields := #[{ name := "ASSUME", type := (.object "com/example/unweave/unweave/abstraction/Operation$EKind"), accessFlags := 16409, slot := 0, constantValue := 0 }, { name := "ASSIGN", type := (.object "com/example/unweave/unweave/abstraction/Operation$EKind"), accessFlags := 16409, slot := 1, constantValue := 0 }, { name := "HAVOC", type := (.object "com/example/unweave/unweave/abstraction/Operation$EKind"), accessFlags := 16409, slot := 2, constantValue := 0 }, { name := "$VALUES", type := (.array (.object "com/example/unweave/unweave/abstraction/Operation$EKind")), accessFlags := 4122, slot := 3, constantValue := 0 }]
  methods := #[]
  instanceTypes := #[(.object "java/lang/String"), .int, .int]
  staticTypes := #[(.object "com/example/unweave/unweave/abstraction/Operation$EKind"), (.object "com/example/unweave/unweave/abstraction/Operation$EKind"), (.object "com/example/unweave/unweave/abstraction/Operation$EKind"), (.array (.object "com/example/unweave/unweave/abstraction/Operation$EKind"))]
  resolved := Array.replicate 56 none
  statics := some 2 }

def pool35 : Array CpInfo := pool [(1, .class_ 2), (0, u "java/lang/Math"), (1, .class_ 6), (1, u "java/lang/Object"), (0, u "<init>"), (0, u "()V"), (89, .class_ 100), (1, u "java/lang/Math$RandomNumberGeneratorHolder"), (71, u "negativeZeroFloatBits"), (0, u "J"), (2, u "negativeZeroDoubleBits"), (21, u "max"), (46, u "$assertionsDisabled"), (0, u "Z"), (88, u "(II)I"), (2, u "twoToTheDoubleScaleDown"), (0, u "D"), (4, u "twoToTheDoubleScaleUp"), (9, u "E"), (3, u "PI"), (2, u "TAU"), (2, u "DEGREES_TO_RADIANS"), (0, u "RADIANS_TO_DEGREES")] 94

def k35m0 : Method := { name := "<init>", desc := "()V", sig := { parameters := [], returnType := none }, accessFlags := 2, code := none }
def k35c1 : Code := { maxStack := 2, maxLocals := 2, code := jdk_29_method_65_code, exceptionTable := #[], attributes := #[] }
def k35m1 : Method := { name := "max", desc := "(II)I", sig := { parameters := [.int, .int], returnType := some .int }, accessFlags := 9, code := some k35c1 }
/-- java/lang/Math -/
def k35 : Class := { plain "java/lang/Math" (some 0) with
  accessFlags := 49
  interfaces := #[]
  cf := some (fileOf pool35 1 #[.nestMembers #[98]] #[{ accessFlags := 2, nameIndex := 7, descriptorIndex := 8, attributes := #[] }, { accessFlags := 9, nameIndex := 198, descriptorIndex := 335, attributes := #[] }] 49 4 #[] #[{ accessFlags := 25, nameIndex := 354, descriptorIndex := 339, attributes := #[] }, { accessFlags := 25, nameIndex := 358, descriptorIndex := 339, attributes := #[] }, { accessFlags := 25, nameIndex := 361, descriptorIndex := 339, attributes := #[] }, { accessFlags := 26, nameIndex := 364, descriptorIndex := 339, attributes := #[] }, { accessFlags := 26, nameIndex := 365, descriptorIndex := 339, attributes := #[] }, { accessFlags := 26, nameIndex := 172, descriptorIndex := 173, attributes := #[] }, { accessFlags := 26, nameIndex := 176, descriptorIndex := 173, attributes := #[] }, { accessFlags := 8, nameIndex := 344, descriptorIndex := 339, attributes := #[] }, { accessFlags := 8, nameIndex := 338, descriptorIndex := 339, attributes := #[] }, { accessFlags := 4120, nameIndex := 245, descriptorIndex := 246, attributes := #[] }])
  fields := #[{ name := "E", type := .double, accessFlags := 25, slot := 0, constantValue := 0 }, { name := "PI", type := .double, accessFlags := 25, slot := 1, constantValue := 0 }, { name := "TAU", type := .double, accessFlags := 25, slot := 2, constantValue := 0 }, { name := "DEGREES_TO_RADIANS", type := .double, accessFlags := 26, slot := 3, constantValue := 0 }, { name := "RADIANS_TO_DEGREES", type := .double, accessFlags := 26, slot := 4, constantValue := 0 }, { name := "negativeZeroFloatBits", type := .long, accessFlags := 26, slot := 5, constantValue := 0 }, { name := "negativeZeroDoubleBits", type := .long, accessFlags := 26, slot := 6, constantValue := 0 }, { name := "twoToTheDoubleScaleUp", type := .double, accessFlags := 8, slot := 7, constantValue := 0 }, { name := "twoToTheDoubleScaleDown", type := .double, accessFlags := 8, slot := 8, constantValue := 0 }, { name := "$assertionsDisabled", type := .boolean, accessFlags := 4120, slot := 9, constantValue := 0 }]
  methods := #[k35m0, k35m1]
  instanceTypes := #[]
  staticTypes := #[.double, .double, .double, .double, .double, .long, .long, .double, .double, .boolean]
  resolved := Array.replicate 460 none
  statics := none }

def pool36 : Array CpInfo := pool [(8, .class_ 10), (1, u "com/example/unweave/unweave/abstraction/PathEncoding$1"), (0, u "$SwitchMap$com$example$unweave$unweave$abstraction$Operation$EKind"), (0, u "[I"), (16, .class_ 30), (0, u "java/lang/Object"), (8, .class_ 40), (0, u "com/example/unweave/unweave/abstraction/PathEncoding")] 5

/-- com/example/unweave/unweave/abstraction/PathEncoding$1 -/
def k36 : Class := { plain "com/example/unweave/unweave/abstraction/PathEncoding$1" (some 0) with
  accessFlags := 4128
  interfaces := #[]
  cf := some (fileOf pool36 8 #[.nestHost 39] #[] 4128 29 #[] #[{ accessFlags := 4120, nameIndex := 11, descriptorIndex := 12, attributes := #[] }])
  fields := #[{ name := "$SwitchMap$com$example$unweave$unweave$abstraction$Operation$EKind", type := (.array .int), accessFlags := 4120, slot := 0, constantValue := 0 }]
  methods := #[]
  instanceTypes := #[]
  staticTypes := #[(.array .int)]
  resolved := Array.replicate 46 none
  statics := some 3 }

def pool37 : Array CpInfo := pool [(2, .class_ 4), (1, u "com/example/unweave/unweave/arith/Formula"), (3, .class_ 10), (1, u "com/example/unweave/unweave/arith/Formula$Constant"), (0, u "m_bValue"), (0, u "Z")] 50

/-- com/example/unweave/unweave/arith/Formula$Constant -/
def k37 : Class := { plain "com/example/unweave/unweave/arith/Formula$Constant" (some 18) with
  accessFlags := 48
  interfaces := #[]
  cf := some (fileOf pool37 8 #[.nestHost 2] #[] 48 2 #[] #[{ accessFlags := 18, nameIndex := 11, descriptorIndex := 12, attributes := #[] }])
  fields := #[{ name := "m_bValue", type := .boolean, accessFlags := 18, slot := 0, constantValue := 0 }]
  methods := #[]
  instanceTypes := #[.boolean]
  staticTypes := #[]
  resolved := Array.replicate 63 none
  statics := none }

/-- the primitive byte -/
def k38 : Class := { plain "byte" none with kind := .primitive 'B', accessFlags := 0x411 }
/-- [B -/
def k39 : Class := { plain "[B" (some 0) with kind := .array 38 .byte, interfaces := #[10, 11], accessFlags := 1041 }

/-- the primitive int -/
def k40 : Class := { plain "int" none with kind := .primitive 'I', accessFlags := 0x411 }
/-- [I -/
def k41 : Class := { plain "[I" (some 0) with kind := .array 40 .int, interfaces := #[10, 11], accessFlags := 1041 }

/-- [Ljava/lang/Object; -/
def k42 : Class := { plain "[Ljava/lang/Object;" (some 0) with kind := .array 0 (.object "java/lang/Object"), interfaces := #[10, 11], accessFlags := 1041 }

def heap : Heap := #[{ cls := 12, slots := #[.long 0, .int 0, .ref 8, .ref 9], vm := .statics 12 },
  { cls := 18, slots := #[.ref 5, .ref 6, .long 0], vm := .statics 18 },
  { cls := 34, slots := #[.null, .null, .ref 4, .null], vm := .statics 34 },
  { cls := 36, slots := #[.ref 7], vm := .statics 36 },
  { cls := 34, slots := #[.null, .int 2, .int 0], vm := .none },
  { cls := 37, slots := #[.int 1], vm := .none },
  { cls := 37, slots := #[.int 0], vm := .none },
  { cls := 41, slots := #[.int 1, .int 2, .int 3], vm := .none },
  { cls := 42, slots := #[], vm := .none },
  { cls := 42, slots := #[], vm := .none }]
def classes : Array Class := #[k0, k1, k2, k3, k4, k5, k6, k7, k8, k9, k10, k11, k12, k13, k14, k15, k16, k17, k18, k19, k20, k21, k22, k23, k24, k25, k26, k27, k28, k29, k30, k31, k32, k33, k34, k35, k36, k37, k38, k39, k40, k41, k42]
def interned : List (Array UInt16 × Addr) := []
def slotsUsed : Nat := 20
def theMethod : MethodId := ⟨1, 1⟩
def args0 : Array Value := #[.int 1, .int 2, .int 3, .int 4, .int 2]
def aboutOver (below : List Frame) : State where
  vm := { classes := classes, interned := interned.toArray }
  heap := heap
  slotsUsed := slotsUsed
  threads := #[{ frames := .invoking theMethod args0 :: below }]
def below0 : List Frame := [.native { method := ⟨0, 0⟩, args := #[] }]
def about1 : State := aboutOver below0
def p0 : Program := .bare "" "" ""
def e0 : Env := launch0.env 0 0 0
theorem w_frames : about1.frames = Frame.invoking theMethod args0 :: below0 := rfl
set_option maxRecDepth 65536 in
theorem w_args : argsFit about1.vm theMethod args0 = true := by decide +kernel
set_option maxRecDepth 65536 in
theorem w_heap : heapFits about1 = true := by decide +kernel
set_option maxRecDepth 65536 in
theorem w_runnable : about1.curStatus? = some .runnable := by decide +kernel
set_option maxRecDepth 65536 in
theorem w_alone : about1.alone = true := by decide +kernel
set_option maxRecDepth 65536 in
theorem w_named : about1.methodNamed? x = some theMethod := by decide +kernel
set_option maxRecDepth 65536 in
theorem w_hears : about1.hears theMethod below0 = true := by decide +kernel
set_option maxRecDepth 65536 in
theorem w_ripe : about1.ripe theMethod args0 below0 = true := by decide +kernel
theorem w_running : about1.status = .running := rfl
set_option maxRecDepth 65536 in
theorem w_room : about1.hasRoom e0.platform room_1 = true :=
  launch0.hasRoom_least _ room_1 (by decide +kernel) (by decide +kernel) (by decide +kernel) (by decide +kernel) (by decide +kernel) (by decide +kernel)
theorem allAtoms_all (ts : List Jvm.Cond) (a : Array Jvm.Value) (st : Jvm.State) : (allAtoms ts).before a st = ts.all (fun c => c.before a st) := by
  induction ts with
  | nil => rfl
  | cons c t ih =>
    show (Jvm.Cond.and c (allAtoms t)).before a st = _
    rw [Jvm.Cond.before_and, ih, List.all_cons]
def words1 : List Jvm.Cond := Jvm.Cond.code x code maxLocals ret :: tables_1
/-- a 'code' word, met by the world's own term for the bytes: nothing is compared byte by byte -/
theorem code_word {y : MethodName} {bytes : ByteArray} {mx : Nat} {rt : Option FieldType} {a : Array Value} {s : State} {m : MethodId} {meth : Method} {c : Code} (h1 : s.methodNamed? y = some m) (h2 : s.vm.method? m = some meth) (h3 : meth.code = some c) (h4 : c.code = bytes)
    (h5 : (c.maxLocals == mx && c.exceptionTable.isEmpty && decide (c.maxStack ≤ mostOperands) && decide (meth.sig.returnType = rt) && !meth.locks && decide (parseMethodDescriptor y.desc = some meth.sig)) = true) : (Jvm.Cond.code y bytes mx rt).before a s = true := by
  simp only [Bool.and_eq_true, beq_iff_eq, Bool.not_eq_true', decide_eq_true_eq] at h5
  obtain ⟨⟨⟨⟨⟨g1, g2⟩, g3⟩, g4⟩, g5⟩, g6⟩ := h5
  simp [Cond.before, Cond.holds, Cond.value, h1, h2, h3, h4, g1, g2, g3, g4, g5, g6]
def isCode : Jvm.Cond → Bool
  | .code _ _ _ _ => true
  | _ => false
theorem all_split {L : List Jvm.Cond} {P : Jvm.Cond → Bool} (h1 : L.all (fun c => isCode c || P c) = true) (h2 : ∀ c ∈ L.filter isCode, P c = true) : L.all P = true := by
  refine List.all_eq_true.mpr fun c hc => ?_
  have h := List.all_eq_true.mp h1 c hc
  rcases Bool.eq_false_or_eq_true (isCode c) with hi | hi
  · exact h2 c (List.mem_filter.mpr ⟨hc, hi⟩)
  · simpa [hi] using h
set_option maxRecDepth 65536 in
theorem w_c0 : (Jvm.Cond.code x code maxLocals ret).before args0 about1 = true := code_word (m := ⟨1, 1⟩) (meth := k1m1) (c := k1c1) (by decide +kernel) rfl rfl rfl (by decide +kernel)
set_option maxRecDepth 65536 in
theorem w_c1 : (Jvm.Cond.code ({ cls := "com/example/unweave/unweave/abstraction/PathEncoding", name := "<init>", desc := "(I)V" } : Jvm.MethodName) prog_17_method_1_code (3 : Nat) (Option.none : Option Jvm.ClassFile.FieldType)).before args0 about1 = true := code_word (m := ⟨2, 0⟩) (meth := k2m0) (c := k2c0) (by decide +kernel) rfl rfl rfl (by decide +kernel)
set_option maxRecDepth 65536 in
theorem w_c2 : (Jvm.Cond.code ({ cls := "java/lang/Object", name := "<init>", desc := "()V" } : Jvm.MethodName) object_method_1_code (1 : Nat) (Option.none : Option Jvm.ClassFile.FieldType)).before args0 about1 = true := code_word (m := ⟨0, 0⟩) (meth := k0m0) (c := k0c0) (by decide +kernel) rfl rfl rfl (by decide +kernel)
set_option maxRecDepth 65536 in
theorem w_c3 : (Jvm.Cond.code ({ cls := "com/example/unweave/unweave/abstraction/PathEncoding", name := "isChanged", desc := "(I)Z" } : Jvm.MethodName) prog_17_method_4_code (2 : Nat) (Option.some Jvm.ClassFile.FieldType.boolean)).before args0 about1 = true := code_word (m := ⟨2, 2⟩) (meth := k2m2) (c := k2c2) (by decide +kernel) rfl rfl rfl (by decide +kernel)
set_option maxRecDepth 65536 in
theorem w_c4 : (Jvm.Cond.code ({ cls := "java/util/ArrayList", name := "<init>", desc := "()V" } : Jvm.MethodName) jdk_38_method_2_code (1 : Nat) (Option.none : Option Jvm.ClassFile.FieldType)).before args0 about1 = true := code_word (m := ⟨12, 0⟩) (meth := k12m0) (c := k12c0) (by decide +kernel) rfl rfl rfl (by decide +kernel)
set_option maxRecDepth 65536 in
theorem w_c5 : (Jvm.Cond.code ({ cls := "java/util/AbstractList", name := "<init>", desc := "()V" } : Jvm.MethodName) jdk_39_method_1_code (1 : Nat) (Option.none : Option Jvm.ClassFile.FieldType)).before args0 about1 = true := code_word (m := ⟨8, 0⟩) (meth := k8m0) (c := k8c0) (by decide +kernel) rfl rfl rfl (by decide +kernel)
set_option maxRecDepth 65536 in
theorem w_c6 : (Jvm.Cond.code ({ cls := "java/util/AbstractCollection", name := "<init>", desc := "()V" } : Jvm.MethodName) jdk_22_method_1_code (1 : Nat) (Option.none : Option Jvm.ClassFile.FieldType)).before args0 about1 = true := code_word (m := ⟨5, 0⟩) (meth := k5m0) (c := k5c0) (by decide +kernel) rfl rfl rfl (by decide +kernel)
set_option maxRecDepth 65536 in
theorem w_c7 : (Jvm.Cond.code ({ cls := "com/example/unweave/unweave/abstraction/PathEncoding", name := "encode", desc := "(Ljava/util/List;)Lcom/example/unweave/unweave/arith/Formula;" } : Jvm.MethodName) prog_17_method_2_code (7 : Nat) (Option.some (Jvm.ClassFile.FieldType.object "com/example/unweave/unweave/arith/Formula"))).before args0 about1 = true := code_word (m := ⟨2, 1⟩) (meth := k2m1) (c := k2c1) (by decide +kernel) rfl rfl rfl (by decide +kernel)
set_option maxRecDepth 65536 in
theorem w_c8 : (Jvm.Cond.code ({ cls := "java/util/HashMap", name := "<init>", desc := "()V" } : Jvm.MethodName) jdk_69_method_7_code (1 : Nat) (Option.none : Option Jvm.ClassFile.FieldType)).before args0 about1 = true := code_word (m := ⟨15, 2⟩) (meth := k15m2) (c := k15c2) (by decide +kernel) rfl rfl rfl (by decide +kernel)
set_option maxRecDepth 65536 in
theorem w_c9 : (Jvm.Cond.code ({ cls := "java/util/AbstractMap", name := "<init>", desc := "()V" } : Jvm.MethodName) jdk_71_method_1_code (1 : Nat) (Option.none : Option Jvm.ClassFile.FieldType)).before args0 about1 = true := code_word (m := ⟨14, 0⟩) (meth := k14m0) (c := k14c0) (by decide +kernel) rfl rfl rfl (by decide +kernel)
set_option maxRecDepth 65536 in
theorem w_c10 : (Jvm.Cond.code ({ cls := "java/util/ArrayList", name := "iterator", desc := "()Ljava/util/Iterator;" } : Jvm.MethodName) jdk_38_method_55_code (1 : Nat) (Option.some (Jvm.ClassFile.FieldType.object "java/util/Iterator"))).before args0 about1 = true := code_word (m := ⟨12, 5⟩) (meth := k12m5) (c := k12c5) (by decide +kernel) rfl rfl rfl (by decide +kernel)
set_option maxRecDepth 65536 in
theorem w_c11 : (Jvm.Cond.code ({ cls := "java/util/ArrayList$Itr", name := "<init>", desc := "(Ljava/util/ArrayList;)V" } : Jvm.MethodName) jdk_49_method_1_code (2 : Nat) (Option.none : Option Jvm.ClassFile.FieldType)).before args0 about1 = true := code_word (m := ⟨17, 0⟩) (meth := k17m0) (c := k17c0) (by decide +kernel) rfl rfl rfl (by decide +kernel)
set_option maxRecDepth 65536 in
theorem w_c12 : (Jvm.Cond.code ({ cls := "java/util/ArrayList$Itr", name := "hasNext", desc := "()Z" } : Jvm.MethodName) jdk_49_method_2_code (1 : Nat) (Option.some Jvm.ClassFile.FieldType.boolean)).before args0 about1 = true := code_word (m := ⟨17, 1⟩) (meth := k17m1) (c := k17c1) (by decide +kernel) rfl rfl rfl (by decide +kernel)
set_option maxRecDepth 65536 in
theorem w_c13 : (Jvm.Cond.code ({ cls := "com/example/unweave/unweave/arith/Formula", name := "and", desc := "(Ljava/util/List;)Lcom/example/unweave/unweave/arith/Formula;" } : Jvm.MethodName) prog_23_method_13_code (1 : Nat) (Option.some (Jvm.ClassFile.FieldType.object "com/example/unweave/unweave/arith/Formula"))).before args0 about1 = true := code_word (m := ⟨18, 1⟩) (meth := k18m1) (c := k18c1) (by decide +kernel) rfl rfl rfl (by decide +kernel)
set_option maxRecDepth 65536 in
theorem w_c14 : (Jvm.Cond.code ({ cls := "com/example/unweave/unweave/arith/Formula", name := "_join", desc := "(ZLjava/util/List;)Lcom/example/unweave/unweave/arith/Formula;" } : Jvm.MethodName) prog_23_method_17_code (8 : Nat) (Option.some (Jvm.ClassFile.FieldType.object "com/example/unweave/unweave/arith/Formula"))).before args0 about1 = true := code_word (m := ⟨18, 2⟩) (meth := k18m2) (c := k18c2) (by decide +kernel) rfl rfl rfl (by decide +kernel)
set_option maxRecDepth 65536 in
theorem w_c15 : (Jvm.Cond.code ({ cls := "java/util/LinkedHashSet", name := "<init>", desc := "()V" } : Jvm.MethodName) jdk_2620_method_3_code (1 : Nat) (Option.none : Option Jvm.ClassFile.FieldType)).before args0 about1 = true := code_word (m := ⟨23, 0⟩) (meth := k23m0) (c := k23c0) (by decide +kernel) rfl rfl rfl (by decide +kernel)
set_option maxRecDepth 65536 in
theorem w_c16 : (Jvm.Cond.code ({ cls := "java/util/HashSet", name := "<init>", desc := "(IFZ)V" } : Jvm.MethodName) jdk_93_method_5_code (4 : Nat) (Option.none : Option Jvm.ClassFile.FieldType)).before args0 about1 = true := code_word (m := ⟨21, 1⟩) (meth := k21m1) (c := k21c1) (by decide +kernel) rfl rfl rfl (by decide +kernel)
set_option maxRecDepth 65536 in
theorem w_c17 : (Jvm.Cond.code ({ cls := "java/util/AbstractSet", name := "<init>", desc := "()V" } : Jvm.MethodName) jdk_91_method_1_code (1 : Nat) (Option.none : Option Jvm.ClassFile.FieldType)).before args0 about1 = true := code_word (m := ⟨20, 0⟩) (meth := k20m0) (c := k20c0) (by decide +kernel) rfl rfl rfl (by decide +kernel)
set_option maxRecDepth 65536 in
theorem w_c18 : (Jvm.Cond.code ({ cls := "java/util/LinkedHashMap", name := "<init>", desc := "(IF)V" } : Jvm.MethodName) jdk_94_method_14_code (3 : Nat) (Option.none : Option Jvm.ClassFile.FieldType)).before args0 about1 = true := code_word (m := ⟨25, 0⟩) (meth := k25m0) (c := k25c0) (by decide +kernel) rfl rfl rfl (by decide +kernel)
set_option maxRecDepth 65536 in
theorem w_c19 : (Jvm.Cond.code ({ cls := "java/util/HashMap", name := "<init>", desc := "(IF)V" } : Jvm.MethodName) jdk_69_method_5_code (3 : Nat) (Option.none : Option Jvm.ClassFile.FieldType)).before args0 about1 = true := code_word (m := ⟨15, 1⟩) (meth := k15m1) (c := k15c1) (by decide +kernel) rfl rfl rfl (by decide +kernel)
set_option maxRecDepth 65536 in
theorem w_c20 : (Jvm.Cond.code ({ cls := "java/lang/Float", name := "isNaN", desc := "(F)Z" } : Jvm.MethodName) jdk_118_method_6_code (1 : Nat) (Option.some Jvm.ClassFile.FieldType.boolean)).before args0 about1 = true := code_word (m := ⟨30, 0⟩) (meth := k30m0) (c := k30c0) (by decide +kernel) rfl rfl rfl (by decide +kernel)
set_option maxRecDepth 65536 in
theorem w_c21 : (Jvm.Cond.code ({ cls := "java/util/HashMap", name := "tableSizeFor", desc := "(I)I" } : Jvm.MethodName) jdk_69_method_4_code (2 : Nat) (Option.some Jvm.ClassFile.FieldType.int)).before args0 about1 = true := code_word (m := ⟨15, 0⟩) (meth := k15m0) (c := k15c0) (by decide +kernel) rfl rfl rfl (by decide +kernel)
set_option maxRecDepth 65536 in
theorem w_c22 : (Jvm.Cond.code ({ cls := "java/lang/Integer", name := "numberOfLeadingZeros", desc := "(I)I" } : Jvm.MethodName) jdk_33_method_47_code (2 : Nat) (Option.some Jvm.ClassFile.FieldType.int)).before args0 about1 = true := code_word (m := ⟨31, 0⟩) (meth := k31m0) (c := k31c0) (by decide +kernel) rfl rfl rfl (by decide +kernel)
set_option maxRecDepth 65536 in
theorem w_c23 : (Jvm.Cond.code ({ cls := "java/util/HashSet", name := "isEmpty", desc := "()Z" } : Jvm.MethodName) jdk_93_method_8_code (1 : Nat) (Option.some Jvm.ClassFile.FieldType.boolean)).before args0 about1 = true := code_word (m := ⟨21, 2⟩) (meth := k21m2) (c := k21c2) (by decide +kernel) rfl rfl rfl (by decide +kernel)
set_option maxRecDepth 65536 in
theorem w_c24 : (Jvm.Cond.code ({ cls := "java/util/HashMap", name := "isEmpty", desc := "()Z" } : Jvm.MethodName) jdk_69_method_11_code (1 : Nat) (Option.some Jvm.ClassFile.FieldType.boolean)).before args0 about1 = true := code_word (m := ⟨15, 3⟩) (meth := k15m3) (c := k15c3) (by decide +kernel) rfl rfl rfl (by decide +kernel)
set_option maxRecDepth 65536 in
theorem w_c25 : (Jvm.Cond.code ({ cls := "com/example/unweave/unweave/abstraction/Operation", name := "ofHavoc", desc := "(I)Lcom/example/unweave/unweave/abstraction/Operation;" } : Jvm.MethodName) prog_15_method_4_code (1 : Nat) (Option.some (Jvm.ClassFile.FieldType.object "com/example/unweave/unweave/abstraction/Operation"))).before args0 about1 = true := code_word (m := ⟨32, 1⟩) (meth := k32m1) (c := k32c1) (by decide +kernel) rfl rfl rfl (by decide +kernel)
set_option maxRecDepth 65536 in
theorem w_c26 : (Jvm.Cond.code ({ cls := "com/example/unweave/unweave/abstraction/Operation", name := "<init>", desc := "(Lcom/example/unweave/unweave/abstraction/Operation$EKind;Lcom/example/unweave/unweave/arith/Formula;ILcom/example/unweave/unweave/arith/LinearTerm;)V" } : Jvm.MethodName) prog_15_method_1_code (5 : Nat) (Option.none : Option Jvm.ClassFile.FieldType)).before args0 about1 = true := code_word (m := ⟨32, 0⟩) (meth := k32m0) (c := k32c0) (by decide +kernel) rfl rfl rfl (by decide +kernel)
set_option maxRecDepth 65536 in
theorem w_c27 : (Jvm.Cond.code ({ cls := "java/util/ArrayList", name := "add", desc := "(Ljava/lang/Object;)Z" } : Jvm.MethodName) jdk_38_method_25_code (2 : Nat) (Option.some Jvm.ClassFile.FieldType.boolean)).before args0 about1 = true := code_word (m := ⟨12, 4⟩) (meth := k12m4) (c := k12c4) (by decide +kernel) rfl rfl rfl (by decide +kernel)
set_option maxRecDepth 65536 in
theorem w_c28 : (Jvm.Cond.code ({ cls := "java/util/ArrayList", name := "add", desc := "(Ljava/lang/Object;[Ljava/lang/Object;I)V" } : Jvm.MethodName) jdk_38_method_24_code (4 : Nat) (Option.none : Option Jvm.ClassFile.FieldType)).before args0 about1 = true := code_word (m := ⟨12, 3⟩) (meth := k12m3) (c := k12c3) (by decide +kernel) rfl rfl rfl (by decide +kernel)
set_option maxRecDepth 65536 in
theorem w_c29 : (Jvm.Cond.code ({ cls := "java/util/ArrayList", name := "grow", desc := "()[Ljava/lang/Object;" } : Jvm.MethodName) jdk_38_method_7_code (1 : Nat) (Option.some (Jvm.ClassFile.FieldType.array (Jvm.ClassFile.FieldType.object "java/lang/Object")))).before args0 about1 = true := code_word (m := ⟨12, 2⟩) (meth := k12m2) (c := k12c2) (by decide +kernel) rfl rfl rfl (by decide +kernel)
set_option maxRecDepth 65536 in
theorem w_c30 : (Jvm.Cond.code ({ cls := "java/util/ArrayList", name := "grow", desc := "(I)[Ljava/lang/Object;" } : Jvm.MethodName) jdk_38_method_6_code (4 : Nat) (Option.some (Jvm.ClassFile.FieldType.array (Jvm.ClassFile.FieldType.object "java/lang/Object")))).before args0 about1 = true := code_word (m := ⟨12, 1⟩) (meth := k12m1) (c := k12c1) (by decide +kernel) rfl rfl rfl (by decide +kernel)
set_option maxRecDepth 65536 in
theorem w_c31 : (Jvm.Cond.code ({ cls := "java/lang/Math", name := "max", desc := "(II)I" } : Jvm.MethodName) jdk_29_method_65_code (2 : Nat) (Option.some Jvm.ClassFile.FieldType.int)).before args0 about1 = true := code_word (m := ⟨35, 1⟩) (meth := k35m1) (c := k35c1) (by decide +kernel) rfl rfl rfl (by decide +kernel)
set_option maxRecDepth 65536 in
theorem w_c32 : (Jvm.Cond.code ({ cls := "java/util/ArrayList$Itr", name := "next", desc := "()Ljava/lang/Object;" } : Jvm.MethodName) jdk_49_method_3_code (3 : Nat) (Option.some (Jvm.ClassFile.FieldType.object "java/lang/Object"))).before args0 about1 = true := code_word (m := ⟨17, 2⟩) (meth := k17m2) (c := k17c2) (by decide +kernel) rfl rfl rfl (by decide +kernel)
set_option maxRecDepth 65536 in
theorem w_c33 : (Jvm.Cond.code ({ cls := "java/util/ArrayList$Itr", name := "checkForComodification", desc := "()V" } : Jvm.MethodName) jdk_49_method_6_code (1 : Nat) (Option.none : Option Jvm.ClassFile.FieldType)).before args0 about1 = true := code_word (m := ⟨17, 3⟩) (meth := k17m3) (c := k17c3) (by decide +kernel) rfl rfl rfl (by decide +kernel)
set_option maxRecDepth 65536 in
theorem w_c34 : (Jvm.Cond.code ({ cls := "com/example/unweave/unweave/abstraction/Operation", name := "getKind", desc := "()Lcom/example/unweave/unweave/abstraction/Operation$EKind;" } : Jvm.MethodName) prog_15_method_5_code (1 : Nat) (Option.some (Jvm.ClassFile.FieldType.object "com/example/unweave/unweave/abstraction/Operation$EKind"))).before args0 about1 = true := code_word (m := ⟨32, 2⟩) (meth := k32m2) (c := k32c2) (by decide +kernel) rfl rfl rfl (by decide +kernel)
set_option maxRecDepth 65536 in
theorem w_c35 : (Jvm.Cond.code ({ cls := "java/lang/Enum", name := "ordinal", desc := "()I" } : Jvm.MethodName) jdk_37_method_2_code (1 : Nat) (Option.some Jvm.ClassFile.FieldType.int)).before args0 about1 = true := code_word (m := ⟨33, 0⟩) (meth := k33m0) (c := k33c0) (by decide +kernel) rfl rfl rfl (by decide +kernel)
set_option maxRecDepth 65536 in
theorem w_c36 : (Jvm.Cond.code ({ cls := "com/example/unweave/unweave/abstraction/Operation", name := "getVariable", desc := "()I" } : Jvm.MethodName) prog_15_method_7_code (1 : Nat) (Option.some Jvm.ClassFile.FieldType.int)).before args0 about1 = true := code_word (m := ⟨32, 3⟩) (meth := k32m3) (c := k32c3) (by decide +kernel) rfl rfl rfl (by decide +kernel)
def codes1 : List Jvm.Cond := [Jvm.Cond.code x code maxLocals ret, Jvm.Cond.code ({ cls := "com/example/unweave/unweave/abstraction/PathEncoding", name := "<init>", desc := "(I)V" } : Jvm.MethodName) prog_17_method_1_code (3 : Nat) (Option.none : Option Jvm.ClassFile.FieldType), Jvm.Cond.code ({ cls := "java/lang/Object", name := "<init>", desc := "()V" } : Jvm.MethodName) object_method_1_code (1 : Nat) (Option.none : Option Jvm.ClassFile.FieldType), Jvm.Cond.code ({ cls := "com/example/unweave/unweave/abstraction/PathEncoding", name := "isChanged", desc := "(I)Z" } : Jvm.MethodName) prog_17_method_4_code (2 : Nat) (Option.some Jvm.ClassFile.FieldType.boolean), Jvm.Cond.code ({ cls := "java/util/ArrayList", name := "<init>", desc := "()V" } : Jvm.MethodName) jdk_38_method_2_code (1 : Nat) (Option.none : Option Jvm.ClassFile.FieldType), Jvm.Cond.code ({ cls := "java/util/AbstractList", name := "<init>", desc := "()V" } : Jvm.MethodName) jdk_39_method_1_code (1 : Nat) (Option.none : Option Jvm.ClassFile.FieldType), Jvm.Cond.code ({ cls := "java/util/AbstractCollection", name := "<init>", desc := "()V" } : Jvm.MethodName) jdk_22_method_1_code (1 : Nat) (Option.none : Option Jvm.ClassFile.FieldType), Jvm.Cond.code ({ cls := "com/example/unweave/unweave/abstraction/PathEncoding", name := "encode", desc := "(Ljava/util/List;)Lcom/example/unweave/unweave/arith/Formula;" } : Jvm.MethodName) prog_17_method_2_code (7 : Nat) (Option.some (Jvm.ClassFile.FieldType.object "com/example/unweave/unweave/arith/Formula")), Jvm.Cond.code ({ cls := "java/util/HashMap", name := "<init>", desc := "()V" } : Jvm.MethodName) jdk_69_method_7_code (1 : Nat) (Option.none : Option Jvm.ClassFile.FieldType), Jvm.Cond.code ({ cls := "java/util/AbstractMap", name := "<init>", desc := "()V" } : Jvm.MethodName) jdk_71_method_1_code (1 : Nat) (Option.none : Option Jvm.ClassFile.FieldType), Jvm.Cond.code ({ cls := "java/util/ArrayList", name := "iterator", desc := "()Ljava/util/Iterator;" } : Jvm.MethodName) jdk_38_method_55_code (1 : Nat) (Option.some (Jvm.ClassFile.FieldType.object "java/util/Iterator")), Jvm.Cond.code ({ cls := "java/util/ArrayList$Itr", name := "<init>", desc := "(Ljava/util/ArrayList;)V" } : Jvm.MethodName) jdk_49_method_1_code (2 : Nat) (Option.none : Option Jvm.ClassFile.FieldType), Jvm.Cond.code ({ cls := "java/util/ArrayList$Itr", name := "hasNext", desc := "()Z" } : Jvm.MethodName) jdk_49_method_2_code (1 : Nat) (Option.some Jvm.ClassFile.FieldType.boolean), Jvm.Cond.code ({ cls := "com/example/unweave/unweave/arith/Formula", name := "and", desc := "(Ljava/util/List;)Lcom/example/unweave/unweave/arith/Formula;" } : Jvm.MethodName) prog_23_method_13_code (1 : Nat) (Option.some (Jvm.ClassFile.FieldType.object "com/example/unweave/unweave/arith/Formula")), Jvm.Cond.code ({ cls := "com/example/unweave/unweave/arith/Formula", name := "_join", desc := "(ZLjava/util/List;)Lcom/example/unweave/unweave/arith/Formula;" } : Jvm.MethodName) prog_23_method_17_code (8 : Nat) (Option.some (Jvm.ClassFile.FieldType.object "com/example/unweave/unweave/arith/Formula")), Jvm.Cond.code ({ cls := "java/util/LinkedHashSet", name := "<init>", desc := "()V" } : Jvm.MethodName) jdk_2620_method_3_code (1 : Nat) (Option.none : Option Jvm.ClassFile.FieldType), Jvm.Cond.code ({ cls := "java/util/HashSet", name := "<init>", desc := "(IFZ)V" } : Jvm.MethodName) jdk_93_method_5_code (4 : Nat) (Option.none : Option Jvm.ClassFile.FieldType), Jvm.Cond.code ({ cls := "java/util/AbstractSet", name := "<init>", desc := "()V" } : Jvm.MethodName) jdk_91_method_1_code (1 : Nat) (Option.none : Option Jvm.ClassFile.FieldType), Jvm.Cond.code ({ cls := "java/util/LinkedHashMap", name := "<init>", desc := "(IF)V" } : Jvm.MethodName) jdk_94_method_14_code (3 : Nat) (Option.none : Option Jvm.ClassFile.FieldType), Jvm.Cond.code ({ cls := "java/util/HashMap", name := "<init>", desc := "(IF)V" } : Jvm.MethodName) jdk_69_method_5_code (3 : Nat) (Option.none : Option Jvm.ClassFile.FieldType), Jvm.Cond.code ({ cls := "java/lang/Float", name := "isNaN", desc := "(F)Z" } : Jvm.MethodName) jdk_118_method_6_code (1 : Nat) (Option.some Jvm.ClassFile.FieldType.boolean), Jvm.Cond.code ({ cls := "java/util/HashMap", name := "tableSizeFor", desc := "(I)I" } : Jvm.MethodName) jdk_69_method_4_code (2 : Nat) (Option.some Jvm.ClassFile.FieldType.int), Jvm.Cond.code ({ cls := "java/lang/Integer", name := "numberOfLeadingZeros", desc := "(I)I" } : Jvm.MethodName) jdk_33_method_47_code (2 : Nat) (Option.some Jvm.ClassFile.FieldType.int), Jvm.Cond.code ({ cls := "java/util/HashSet", name := "isEmpty", desc := "()Z" } : Jvm.MethodName) jdk_93_method_8_code (1 : Nat) (Option.some Jvm.ClassFile.FieldType.boolean), Jvm.Cond.code ({ cls := "java/util/HashMap", name := "isEmpty", desc := "()Z" } : Jvm.MethodName) jdk_69_method_11_code (1 : Nat) (Option.some Jvm.ClassFile.FieldType.boolean), Jvm.Cond.code ({ cls := "com/example/unweave/unweave/abstraction/Operation", name := "ofHavoc", desc := "(I)Lcom/example/unweave/unweave/abstraction/Operation;" } : Jvm.MethodName) prog_15_method_4_code (1 : Nat) (Option.some (Jvm.ClassFile.FieldType.object "com/example/unweave/unweave/abstraction/Operation")), Jvm.Cond.code ({ cls := "com/example/unweave/unweave/abstraction/Operation", name := "<init>", desc := "(Lcom/example/unweave/unweave/abstraction/Operation$EKind;Lcom/example/unweave/unweave/arith/Formula;ILcom/example/unweave/unweave/arith/LinearTerm;)V" } : Jvm.MethodName) prog_15_method_1_code (5 : Nat) (Option.none : Option Jvm.ClassFile.FieldType), Jvm.Cond.code ({ cls := "java/util/ArrayList", name := "add", desc := "(Ljava/lang/Object;)Z" } : Jvm.MethodName) jdk_38_method_25_code (2 : Nat) (Option.some Jvm.ClassFile.FieldType.boolean), Jvm.Cond.code ({ cls := "java/util/ArrayList", name := "add", desc := "(Ljava/lang/Object;[Ljava/lang/Object;I)V" } : Jvm.MethodName) jdk_38_method_24_code (4 : Nat) (Option.none : Option Jvm.ClassFile.FieldType), Jvm.Cond.code ({ cls := "java/util/ArrayList", name := "grow", desc := "()[Ljava/lang/Object;" } : Jvm.MethodName) jdk_38_method_7_code (1 : Nat) (Option.some (Jvm.ClassFile.FieldType.array (Jvm.ClassFile.FieldType.object "java/lang/Object"))), Jvm.Cond.code ({ cls := "java/util/ArrayList", name := "grow", desc := "(I)[Ljava/lang/Object;" } : Jvm.MethodName) jdk_38_method_6_code (4 : Nat) (Option.some (Jvm.ClassFile.FieldType.array (Jvm.ClassFile.FieldType.object "java/lang/Object"))), Jvm.Cond.code ({ cls := "java/lang/Math", name := "max", desc := "(II)I" } : Jvm.MethodName) jdk_29_method_65_code (2 : Nat) (Option.some Jvm.ClassFile.FieldType.int), Jvm.Cond.code ({ cls := "java/util/ArrayList$Itr", name := "next", desc := "()Ljava/lang/Object;" } : Jvm.MethodName) jdk_49_method_3_code (3 : Nat) (Option.some (Jvm.ClassFile.FieldType.object "java/lang/Object")), Jvm.Cond.code ({ cls := "java/util/ArrayList$Itr", name := "checkForComodification", desc := "()V" } : Jvm.MethodName) jdk_49_method_6_code (1 : Nat) (Option.none : Option Jvm.ClassFile.FieldType), Jvm.Cond.code ({ cls := "com/example/unweave/unweave/abstraction/Operation", name := "getKind", desc := "()Lcom/example/unweave/unweave/abstraction/Operation$EKind;" } : Jvm.MethodName) prog_15_method_5_code (1 : Nat) (Option.some (Jvm.ClassFile.FieldType.object "com/example/unweave/unweave/abstraction/Operation$EKind")), Jvm.Cond.code ({ cls := "java/lang/Enum", name := "ordinal", desc := "()I" } : Jvm.MethodName) jdk_37_method_2_code (1 : Nat) (Option.some Jvm.ClassFile.FieldType.int), Jvm.Cond.code ({ cls := "com/example/unweave/unweave/abstraction/Operation", name := "getVariable", desc := "()I" } : Jvm.MethodName) prog_15_method_7_code (1 : Nat) (Option.some Jvm.ClassFile.FieldType.int)]
set_option maxRecDepth 65536 in
theorem codes_eq : words1.filter isCode = codes1 := rfl
theorem w_codes : ∀ c ∈ words1.filter isCode, c.before args0 about1 = true := by
  rw [codes_eq]
  intro c hc
  simp only [codes1, List.mem_cons, List.not_mem_nil, or_false] at hc
  rcases hc with rfl | rfl | rfl | rfl | rfl | rfl | rfl | rfl | rfl | rfl | rfl | rfl | rfl | rfl | rfl | rfl | rfl | rfl | rfl | rfl | rfl | rfl | rfl | rfl | rfl | rfl | rfl | rfl | rfl | rfl | rfl | rfl | rfl | rfl | rfl | rfl | rfl
  · exact w_c0
  · exact w_c1
  · exact w_c2
  · exact w_c3
  · exact w_c4
  · exact w_c5
  · exact w_c6
  · exact w_c7
  · exact w_c8
  · exact w_c9
  · exact w_c10
  · exact w_c11
  · exact w_c12
  · exact w_c13
  · exact w_c14
  · exact w_c15
  · exact w_c16
  · exact w_c17
  · exact w_c18
  · exact w_c19
  · exact w_c20
  · exact w_c21
  · exact w_c22
  · exact w_c23
  · exact w_c24
  · exact w_c25
  · exact w_c26
  · exact w_c27
  · exact w_c28
  · exact w_c29
  · exact w_c30
  · exact w_c31
  · exact w_c32
  · exact w_c33
  · exact w_c34
  · exact w_c35
  · exact w_c36
set_option maxRecDepth 65536 in
theorem w_t1 : (words1.take 24).all (fun c => isCode c || c.before args0 about1) = true := by decide +kernel
set_option maxRecDepth 65536 in
theorem w_t2 : ((words1.drop 24).take 24).all (fun c => isCode c || c.before args0 about1) = true := by decide +kernel
set_option maxRecDepth 65536 in
theorem w_t3 : (((words1.drop 24).drop 24).take 24).all (fun c => isCode c || c.before args0 about1) = true := by decide +kernel
set_option maxRecDepth 65536 in
theorem w_t4 : ((((words1.drop 24).drop 24).drop 24).take 24).all (fun c => isCode c || c.before args0 about1) = true := by decide +kernel
set_option maxRecDepth 65536 in
theorem w_t5 : (((((words1.drop 24).drop 24).drop 24).drop 24).take 24).all (fun c => isCode c || c.before args0 about1) = true := by decide +kernel
set_option maxRecDepth 65536 in
theorem w_t6 : ((((((words1.drop 24).drop 24).drop 24).drop 24).drop 24).take 24).all (fun c => isCode c || c.before args0 about1) = true := by decide +kernel
set_option maxRecDepth 65536 in
theorem w_t7 : (((((((words1.drop 24).drop 24).drop 24).drop 24).drop 24).drop 24).take 24).all (fun c => isCode c || c.before args0 about1) = true := by decide +kernel
set_option maxRecDepth 65536 in
theorem w_t8 : ((((((((words1.drop 24).drop 24).drop 24).drop 24).drop 24).drop 24).drop 24).take 24).all (fun c => isCode c || c.before args0 about1) = true := by decide +kernel
set_option maxRecDepth 65536 in
theorem w_t9 : (((((((((words1.drop 24).drop 24).drop 24).drop 24).drop 24).drop 24).drop 24).drop 24).take 24).all (fun c => isCode c || c.before args0 about1) = true := by decide +kernel
set_option maxRecDepth 65536 in
theorem w_t10 : ((((((((((words1.drop 24).drop 24).drop 24).drop 24).drop 24).drop 24).drop 24).drop 24).drop 24).take 24).all (fun c => isCode c || c.before args0 about1) = true := by decide +kernel
set_option maxRecDepth 65536 in
theorem w_t11 : (((((((((((words1.drop 24).drop 24).drop 24).drop 24).drop 24).drop 24).drop 24).drop 24).drop 24).drop 24).take 24).all (fun c => isCode c || c.before args0 about1) = true := by decide +kernel
set_option maxRecDepth 65536 in
theorem w_t12 : ((((((((((((words1.drop 24).drop 24).drop 24).drop 24).drop 24).drop 24).drop 24).drop 24).drop 24).drop 24).drop 24).take 24).all (fun c => isCode c || c.before args0 about1) = true := by decide +kernel
set_option maxRecDepth 65536 in
theorem w_t13 : ((((((((((((words1.drop 24).drop 24).drop 24).drop 24).drop 24).drop 24).drop 24).drop 24).drop 24).drop 24).drop 24).drop 24).all (fun c => isCode c || c.before args0 about1) = true := by decide +kernel
theorem w_tables : (allAtoms (Jvm.Cond.code x code maxLocals ret :: tables_1)).before args0 about1 = true := by
  rw [allAtoms_all]
  show words1.all (fun c => c.before args0 about1) = true
  refine all_split ?_ w_codes
  rw [← List.take_append_drop 24 words1, List.all_append, w_t1, ← List.take_append_drop 24 (words1.drop 24), List.all_append, w_t2, ← List.take_append_drop 24 ((words1.drop 24).drop 24), List.all_append, w_t3, ← List.take_append_drop 24 (((words1.drop 24).drop 24).drop 24), List.all_append, w_t4, ← List.take_append_drop 24 ((((words1.drop 24).drop 24).drop 24).drop 24), List.all_append, w_t5, ← List.take_append_drop 24 (((((words1.drop 24).drop 24).drop 24).drop 24).drop 24), List.all_append, w_t6, ← List.take_append_drop 24 ((((((words1.drop 24).drop 24).drop 24).drop 24).drop 24).drop 24), List.all_append, w_t7, ← List.take_append_drop 24 (((((((words1.drop 24).drop 24).drop 24).drop 24).drop 24).drop 24).drop 24), List.all_append, w_t8, ← List.take_append_drop 24 ((((((((words1.drop 24).drop 24).drop 24).drop 24).drop 24).drop 24).drop 24).drop 24), List.all_append, w_t9, ← List.take_append_drop 24 (((((((((words1.drop 24).drop 24).drop 24).drop 24).drop 24).drop 24).drop 24).drop 24).drop 24), List.all_append, w_t10, ← List.take_append_drop 24 ((((((((((words1.drop 24).drop 24).drop 24).drop 24).drop 24).drop 24).drop 24).drop 24).drop 24).drop 24), List.all_append, w_t11, ← List.take_append_drop 24 (((((((((((words1.drop 24).drop 24).drop 24).drop 24).drop 24).drop 24).drop 24).drop 24).drop 24).drop 24).drop 24), List.all_append, w_t12, w_t13]
  rfl
set_option maxRecDepth 65536 in
theorem w_rest : rest_1_c.before args0 about1 = true := by decide +kernel
set_option maxRecDepth 65536 in
theorem w_case : (Jvm.Cond.and given_1 narrow_1).before args0 about1 = true := by decide +kernel
theorem w_applies : (headSpec (Jvm.Cond.code x code maxLocals ret :: tables_1) room_1).applies x e0.platform about1 = true :=
  (Spec.applies_iff w_frames).mpr ⟨w_running, w_runnable, w_alone, w_named, w_hears, w_ripe, w_room, w_tables⟩
theorem atStart : AtStart classFile x code maxLocals ret World_1 tables_1 room_1 Calls_1 rest_1 Pre_1 launch0 p0 e0 about1 theMethod args0 below0 :=
  ⟨lists_1, trivial, launch0.admits_env _ _ _, launch0.least_env, fairChoices_fair.cas, fairChoices_fair.clock, w_frames, w_args, w_heap, w_applies, trivial, w_rest, w_case⟩
end start1
theorem witness_1 : WitnessClaimed_1 := ⟨start1.p0, start1.e0, start1.about1, start1.theMethod, start1.args0, start1.below0, start1.atStart⟩
end Jvm.Pilot.@@N@@
