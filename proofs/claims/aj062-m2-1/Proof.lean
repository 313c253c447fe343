import JvmDerived
import JvmDerived.Pilot.@@N@@Statement
import JvmDerived.Pilot.@@N@@Code
set_option linter.unusedVariables false
set_option linter.unusedSimpArgs false
namespace Jvm.RoadKit
open Sem ClassFile Op Lib Jvm.Stand Jvm.Free Jvm.LawKit
section New
variable {p : Program} {l : Launch} {e : Env} {R : Room} {s : State} {m : MethodId} {args : Array Value} {below : List Frame} {meth : Method} {c : Code} {T : State} {locs : List Loc} {cells slots : Nat}
theorem retI (X : Stand p l e R s m args below meth c T locs cells slots) (hx : p.tables.exec = Jvm.exec) {pc : Nat} {Ls : Array Slot} {z : Int32} {rest : List Value} (hret : meth.sig.returnType = some .int) (hd : decode c.code pc = .ok (.ireturn, 1)) {fs : List Frame}
    (hl : ∀ (f : JFrame) (acts : List Action), f.method = m → f.locked = none → f.entered = [] → (doReturn e (T.setTop f) acts (some (.int z))).1 = T.setFrames fs) : Steps p.tables e below (T.setTop (mkF m pc Ls (.int z :: rest))) (T.setFrames fs) :=
  retOut X hx hret rfl (Or.inl ⟨rfl, Or.inl rfl, _, rfl⟩) hd hl
end New
end Jvm.RoadKit
namespace Jvm.Pilot.@@N@@
open Jvm Jvm.ClassFile Sem Op Lib Jvm.Free Jvm.Stand Jvm.LawKit Jvm.RoadKit Bundle Jvm.Pilot.@@N@@.Jvm.D
/-! own_Goes: from A the run comes to a state of which P holds -/
def own_Goes (p : Program) (e : Env) (below : List Frame) (P : State → Prop) (A : State) : Prop := ∃ B, Steps p.tables e below A B ∧ P B
def own_Fin (s : State) (below : List Frame) (QQ : Option Value → Heap → List Loc → Prop) (C N : Nat) (B : State) : Prop := ∃ v L, B.status = .running ∧ Ended B below (.returned v) ∧ QQ v B.heap L ∧ FrameEnd s (.returned v) B L C N
theorem own_via {p : Program} {e : Env} {below : List Frame} {P : State → Prop} {A : State} (B : State) (h : ∀ t, Steps p.tables e below B t → Steps p.tables e below A t) (k : own_Goes p e below P B) : own_Goes p e below P A := by
  obtain ⟨t, h1, h2⟩ := k
  exact ⟨t, h t h1, h2⟩
theorem own_body {p : Program} {e : Env} {below : List Frame} {s s₁ : State} {QQ : Option Value → Heap → List Loc → Prop} {C N ml : Nat} {m : MethodId} {args : Array Value} {F : JFrame} (hF : entryFrame m args ml = F) (k : own_Goes p e below (own_Fin s below QQ C N) (s₁.setTop F)) :
    ∃ s₂ o, Steps p.tables e below (s₁.setTop (entryFrame m args ml)) s₂ ∧ s₂.status = .running ∧ Ended s₂ below o ∧ (∃ v L, o = .returned v ∧ QQ v s₂.heap L ∧ FrameEnd s o s₂ L C N) := by
  obtain ⟨B, h1, v, L, h2, h3, h4, h5⟩ := k
  exact ⟨B, .returned v, hF ▸ h1, h2, h3, v, L, rfl, h4, h5⟩
theorem own_leave {p : Program} {l : Launch} {e : Env} {R : Room} {s : State} {m : MethodId} {args : Array Value} {below : List Frame} {meth : Method} {c : Code} {T : State} {locs : List Loc} {cells slots : Nat} {QQ : Option Value → Heap → List Loc → Prop} {C N : Nat}
    (X : Stand p l e R s m args below meth c T locs cells slots) (hlocks : meth.locks = false) {v : Option Value} (hv : meth.sig.returnType = none → v = none) {F : JFrame}
    (hstep : ∀ fs, (∀ (f : JFrame) (acts : List Action), f.method = m → f.locked = none → f.entered = [] → (doReturn e (T.setTop f) acts v).1 = T.setFrames fs) → Steps p.tables e below (T.setTop F) (T.setFrames fs))
    (hq : QQ v T.heap locs) (hc : cells ≤ C) (hn : slots ≤ N) : own_Goes p e below (own_Fin s below QQ C N) (T.setTop F) := by
  obtain ⟨fs, hr, hrun, hended, hW, hsame⟩ := X.leave hv hlocks
  exact ⟨_, hstep fs hr, v, locs, hrun, hended, hq, ⟨_, rfl⟩, hW, hsame.mono hc hn⟩
/-- what a body that writes nothing leaves -/
def own_Q (r : Option Value) (h0 : Heap) (n0 : Nat) (v : Option Value) (h : Heap) (L : List Loc) : Prop := v = r ∧ Fr n0 L ∧ h = h0
/-! own_A: an array of ints or chars, by a function of the place -/
def own_A (Z : State) (h : Heap) (a : Addr) (ty : FieldType) (n : Nat) (f : Nat → Int32) : Prop := ∃ c : Cell, Arr Z h a c ty ∧ c.slots.size = n ∧ ∀ i, i < n → c.slots[i]? = some (.int (f i))
def own_up (f : Nat → Int32) (j : Nat) (v : Int32) (i : Nat) : Int32 := if i = j then v else f i
section OwnA
variable {Z : State} {h h' : Heap} {a b : Addr} {ty : FieldType} {n sl : Nat} {f : Nat → Int32} {v : Value} {ws : List Addr}
theorem own_A.ext (F : own_A Z h a ty n f) (E : Ext h h') : own_A Z h' a ty n f := by obtain ⟨c, A, r⟩ := F; exact ⟨c, A.ext E, r⟩
theorem own_A.other (F : own_A Z h b ty n f) (W : Wr h h' a sl v) (q : b ≠ a) : own_A Z h' b ty n f := by obtain ⟨c, A, r⟩ := F; exact ⟨c, A.other W q, r⟩
theorem own_A.keep (F : own_A Z h a ty n f) (K : Keep h h' ws) (q : a ∉ ws) : own_A Z h' a ty n f := by obtain ⟨c, A, r⟩ := F; exact ⟨c, ⟨K.2.1 a c A.1 q, A.2⟩, r⟩
theorem own_A.lt (F : own_A Z h a ty n f) : a < h.size := by obtain ⟨c, A, -⟩ := F; exact A.lt
theorem own_A.set {j : Nat} {x : Int32} (F : own_A Z h a ty n f) (W : Wr h h' a j (.int x)) : own_A Z h' a ty n (own_up f j x) := by
  obtain ⟨c, A, S, H⟩ := F
  refine ⟨c.setSlot j (.int x), A.same W, by simpa [Cell.setSlot] using S, fun i hi => ?_⟩
  unfold own_up
  by_cases e : i = j
  · subst e; rw [if_pos rfl]; simp [Cell.setSlot, S, hi]
  · rw [if_neg e]; rw [← H i hi]; exact Array.getElem?_setIfInBounds_ne (Ne.symm e)
theorem own_A.of {k : ClassId} {z : Int32} {vs : List Value} {d : Value} (F : Arv Z h a k ty z vs d) (hf : ∀ i, i < z.toNatClampNeg → vs.getD i d = .int (f i)) : own_A Z h a ty z.toNatClampNeg f := by
  obtain ⟨c, A, -, S, -, H, -⟩ := F
  exact ⟨c, A, S, fun i hi => by rw [H i (by rw [S]; exact hi), hf i hi]⟩
theorem own_A.cast {m : Nat} {g : Nat → Int32} (F : own_A Z h a ty n f) (e : n = m) (q : ∀ i, i < m → f i = g i) : own_A Z h a ty m g := by
  obtain ⟨c, A, S, H⟩ := F
  subst e
  exact ⟨c, A, S, fun i hi => by rw [H i hi, q i hi]⟩
end OwnA
theorem own_in {c : Cell} {n : Nat} {j : Int32} (S : c.slots.size = n) (q : 0 ≤ j.toInt ∧ j.toInt < n) : ¬ (j < 0 ∨ c.slots.size ≤ j.toNatClampNeg) := by
  have e0 : (0 : Int32).toInt = 0 := rfl
  have ek : j.toNatClampNeg = j.toInt.toNat := rfl
  rw [Int32.lt_iff_toInt_lt, S, ek]; omega
theorem own_at {c : Cell} {n : Nat} {f : Nat → Int32} {j : Int32} (H : ∀ i, i < n → c.slots[i]? = some (.int (f i))) (q : 0 ≤ j.toInt ∧ j.toInt < n) : c.slots[j.toNatClampNeg]? = some (.int (f j.toInt.toNat)) := H _ (by have ek : j.toNatClampNeg = j.toInt.toNat := rfl; omega)
theorem own_selpriv {s : State} {args : Array Value} {y : MethodName} {n : Nat} (wi : (Cond.instantiable y.cls n).before args s = true) (hpriv : s.PrivateAt y) (hinst : (Cond.instanceMethod y).before args s = true) (hy : y.cls ≠ "java/lang/invoke/MethodHandle" ∧ y.cls ≠ "java/lang/invoke/VarHandle") : (Cond.selects y.cls y y).before args s = true := by
  obtain ⟨c, k, h1, h2, h3, h4, -⟩ := Cond.instantiable_spec wi
  exact Jvm.Stand.selects_self_of_private h1 h2 (by simp only [Bool.or_eq_false_iff] at h4; exact h4.1) hpriv hinst hy
/-! the Integer cache, as the sheet's set says it -/
def own_Cache (Z : State) (h : Heap) : Prop := ∃ (cA : Addr) (cl : Cell), Sta Z h "java/lang/Integer$IntegerCache" "high" "I" (.int (127 : Int32)) ∧ Sta Z h "java/lang/Integer$IntegerCache" "cache" "[Ljava/lang/Integer;" (.ref cA) ∧ Arr Z h cA cl (.object "java/lang/Integer") ∧ cl.slots.size = 256 ∧ ∀ i, i < 256 → ∃ b, cl.slots[i]? = some (.ref b) ∧ Exa Z h b "java/lang/Integer"
theorem own_stakeep {Z : State} {h h' : Heap} {C n d : String} {v : Value} (F : Sta Z h C n d v) (K : Keep h h' []) : Sta Z h' C n d v := by
  obtain ⟨cf, i, k, f, st, cell, h1, h2, h3, h4, h5, r⟩ := F
  exact ⟨cf, i, k, f, st, cell, h1, h2, h3, h4, K.2.1 _ _ h5 (by simp), r⟩
theorem own_Cache.keep {Z : State} {h h' : Heap} (F : own_Cache Z h) (K : Keep h h' []) : own_Cache Z h' := by
  obtain ⟨cA, cl, s1, s2, A, S, H⟩ := F
  exact ⟨cA, cl, own_stakeep s1 K, own_stakeep s2 K, ⟨K.2.1 _ _ A.1 (by simp), A.2⟩, S, fun i hi => by obtain ⟨b, e, E⟩ := H i hi; exact ⟨b, e, E.keep K⟩⟩
theorem own_elem {t u : Term} {args : Array Value} {s : State} {idx : List Nat} {a : Addr} {j : Int32} {cl : Cell} (ht : t.eval args s none idx s = some (.ref a)) (hu : u.eval args s none idx s = some (.int j)) (hj : ¬ j < 0) (hat : s.arrayAt? a = some cl) : (Term.elem t u).eval args s none idx s = cl.slots[j.toNatClampNeg]? := by
  simp [Term.eval, ht, hu, hj, hat]
theorem own_cache0 {s : State} {args : Array Value} (hfit : Fit s) (hini : (Cond.initialized "java/lang/Integer$IntegerCache").before args s = true)
    (h0 : (Cond.laysStatic "java/lang/Integer$IntegerCache" "high" "I").before args s = true) (h2 : (Cond.laysStatic "java/lang/Integer$IntegerCache" "cache" "[Ljava/lang/Integer;").before args s = true)
    (h3 : (Cond.eq (Term.static "java/lang/Integer$IntegerCache" "high" "I") (Term.int (127 : Int32))).before args s = true)
    (h4 : (Cond.arrayOf (Term.static "java/lang/Integer$IntegerCache" "cache" "[Ljava/lang/Integer;") (.object "java/lang/Integer")).before args s = true)
    (h6 : (Cond.eq (Term.length (Term.static "java/lang/Integer$IntegerCache" "cache" "[Ljava/lang/Integer;")) (Term.int (256 : Int32))).before args s = true)
    (h7 : (Cond.all (Term.static "java/lang/Integer$IntegerCache" "cache" "[Ljava/lang/Integer;") (Cond.and (Cond.exactly (Term.elem (Term.static "java/lang/Integer$IntegerCache" "cache" "[Ljava/lang/Integer;") (Term.index (0 : Nat))) "java/lang/Integer") (Cond.eq (Term.field (Term.elem (Term.static "java/lang/Integer$IntegerCache" "cache" "[Ljava/lang/Integer;") (Term.index (0 : Nat))) "java/lang/Integer" "value" "I") (Term.sub (Term.index (0 : Nat)) (Term.int (128 : Int32)))))).before args s = true) : own_Cache s s.heap := by
  obtain ⟨v, ev, -⟩ := static_fit hfit h0 (ty := .int) (by decide)
  have e3 := Cond.eq_int (show (Cond.eq (Term.static "java/lang/Integer$IntegerCache" "high" "I") (.int 127)).holds args s none s [] = true from h3) (rfl : (Term.int 127).eval args s none [] s = some (.int 127))
  obtain ⟨w, ew, -⟩ := static_fit hfit h2 (ty := .array (.object "java/lang/Integer")) (by decide)
  obtain ⟨cA, cl, rfl, hc, harr, hvm⟩ := Jvm.Free.IntBox.arrayOf_fwd h4 ew
  obtain ⟨q1, q2⟩ := Jvm.Free.IntBox.length_fwd h6 ew hc harr hvm
  have hat := Jvm.Free.IntBox.arrayAt_of hc harr hvm
  have hsz : cl.slots.size = 256 := by
    have := congrArg Int32.toNatClampNeg q2
    have e1 : (256 : Int32).toNatClampNeg = 256 := rfl
    rw [e1] at this
    rw [← this]
    simp only [Int32.toNatClampNeg, Nat.toInt32, Int32.size]
    simp [Int.bmod]
    omega
  refine ⟨cA, cl, Sta.start e3 (Or.inr ⟨hini, h0⟩), Sta.start ew (Or.inr ⟨hini, h2⟩), ⟨hc, harr, hvm⟩, hsz, fun i hi => ?_⟩
  have ha := Cond.all_elim (idx := []) ew hat (Cond.before_iff.mp h7) i (by rw [hsz]; exact hi)
  obtain ⟨a1, -⟩ := and_e ha
  obtain ⟨b, cc, cell, k, t1, t2, t3, t4, t5, t6, t7⟩ := Cond.exactly_spec (show (Cond.exactly (Term.elem (Term.static "java/lang/Integer$IntegerCache" "cache" "[Ljava/lang/Integer;") (Term.index (0 : Nat))) "java/lang/Integer").holds args s none s [i] = true by unfold Cond.holds; rw [a1]; rfl)
  have ew' : (Term.static "java/lang/Integer$IntegerCache" "cache" "[Ljava/lang/Integer;").eval args s none [i] s = some (.ref cA) := ew
  obtain ⟨p1, p2⟩ := Jvm.Free.IntBox.place_nonneg i hi
  refine ⟨b, ?_, cell, k, t3, by rw [t6]; exact t2, by rw [t6]; exact t4, t5, t7⟩
  rw [own_elem ew' (rfl : (Term.index 0).eval args s none [i] s = some (.int i.toInt32)) p1 hat, p2] at t1
  exact t1
/-- an Integer is no K: by the words of the sheet -/
theorem own_notInt {Z : State} {a0 : Array Value} {K : String} {n : Nat} (w1 : (Cond.superclass "java/lang/Integer" "java/lang/Number").before a0 Z = true) (w2 : (Cond.superclass "java/lang/Number" "java/lang/Object").before a0 Z = true) (w3 : (Cond.noSuperclass "java/lang/Object").before a0 Z = true) (wk : (Cond.instantiable K n).before a0 Z = true)
    (h1 : "java/lang/Integer" ≠ K) (h2 : "java/lang/Number" ≠ K) (h3 : "java/lang/Object" ≠ K) : ∃ c t, Z.vm.findClass "java/lang/Integer" = some c ∧ Z.vm.findClass K = some t ∧ Z.vm.assignable c t = false := by
  obtain ⟨t, kt, g1, g2, g3, g4, -⟩ := Cond.instantiable_spec wk
  have root : NS Z "java/lang/Object" K := by
    obtain ⟨c, k, a1, a2, a3, -, -⟩ := Cond.noSuperclass_spec w3
    refine ⟨c, t, a1, g1, fun fuel => ?_⟩
    have ne := ids_ne a1 g1 h3
    match fuel with
    | 0 => rfl
    | f + 1 => simp [Vm.isSubclassAux, ne, a2, a3]
  obtain ⟨c, t', f1, f2, f3⟩ := NS.step w1 (NS.step w2 root h2) h1
  cases g1.symm.trans f2
  obtain ⟨p, k, kp, -, b2, -, -, b5, -, -⟩ := Cond.superclass_spec f1 w1
  have gi : kt.isInterface = false := by simp only [Bool.or_eq_false_iff] at g4; exact g4.1
  refine ⟨c, t, f1, g1, ?_⟩
  have ne := ids_ne f1 g1 h1
  unfold Vm.assignable
  simp [Vm.assignableAux, ne, b2, g2, b5, g3, gi, Vm.isSubclass, f3]
/-! ends that may have interned a String constant -/
def own_FinW (s : State) (below : List Frame) (QQ : Option Value → Heap → List Loc → Prop) (C N : Nat) (B : State) : Prop := ∃ v L, B.status = .running ∧ Ended B below (.returned v) ∧ QQ v B.heap L ∧ ReturnedEndW s (.returned v) B L C N
theorem own_bodyW {p : Program} {e : Env} {below : List Frame} {s s₁ : State} {QQ : Option Value → Heap → List Loc → Prop} {C N ml : Nat} {m : MethodId} {args : Array Value} {F : JFrame} (hF : entryFrame m args ml = F) (k : own_Goes p e below (own_FinW s below QQ C N) (s₁.setTop F)) :
    ∃ s₂ o, Steps p.tables e below (s₁.setTop (entryFrame m args ml)) s₂ ∧ s₂.status = .running ∧ Ended s₂ below o ∧ (∃ v L, o = .returned v ∧ QQ v s₂.heap L ∧ ReturnedEndW s o s₂ L C N) := by
  obtain ⟨B, h1, v, L, h2, h3, h4, h5⟩ := k
  exact ⟨B, .returned v, hF ▸ h1, h2, h3, v, L, rfl, h4, h5⟩
theorem own_leaveW {p : Program} {l : Launch} {e : Env} {R : Room} {s : State} {m : MethodId} {args : Array Value} {below : List Frame} {meth : Method} {c : Code} {T : State} {locs : List Loc} {cells slots : Nat} {QQ : Option Value → Heap → List Loc → Prop} {C N : Nat} {vm₁ : Vm} {k : Nat}
    (X : Stand p l e R (s.setVm vm₁) m args below meth c T locs cells slots) (hS : s.Since vm₁ k) (hk : k ≤ T.heap.size) (hlocks : meth.locks = false) {v : Option Value} (hv : meth.sig.returnType = none → v = none) {F : JFrame}
    (hstep : ∀ fs, (∀ (f : JFrame) (acts : List Action), f.method = m → f.locked = none → f.entered = [] → (doReturn e (T.setTop f) acts v).1 = T.setFrames fs) → Steps p.tables e below (T.setTop F) (T.setFrames fs))
    (hq : QQ v T.heap locs) (hc : cells ≤ C) (hn : slots ≤ N) : own_Goes p e below (own_FinW s below QQ C N) (T.setTop F) := by
  obtain ⟨fs, hr, hrun, hended, hE⟩ := X.leaveW hS hk hv hlocks
  exact ⟨_, hstep fs hr, v, locs, hrun, hended, hq, hE.1, hE.2.1, hE.2.2.1, hE.2.2.2.mono hc hn⟩
theorem own_wS {Z : State} {a0 : Array Value} (hw : ∀ d ∈ tables_1, d.before a0 Z = true) : ∀ a ∈ Bundle.stringAtoms, a.before a0 Z = true := by
  intro d hd
  simp only [Bundle.stringAtoms, List.mem_cons, List.not_mem_nil, or_false] at hd
  rcases hd with rfl | rfl | rfl | rfl | rfl | rfl | rfl
  · exact (hw _ (List.mem_of_getElem? (i := 20) rfl))
  · exact (hw _ (List.mem_of_getElem? (i := 21) rfl))
  · exact (hw _ (List.mem_of_getElem? (i := 22) rfl))
  · exact (hw _ (List.mem_of_getElem? (i := 23) rfl))
  · exact (hw _ (List.mem_of_getElem? (i := 24) rfl))
  · exact (hw _ (List.mem_of_getElem? (i := 25) rfl))
  · exact (hw _ (List.mem_of_getElem? (i := 26) rfl))
/-! the eight constants: M k is the k-th -/
def own_Modes (Z : State) (h : Heap) (M : Nat → Addr) : Prop := (∀ k, k < 8 → Exa Z h (M k) "com/example/denary/denary/context/RoundingMode") ∧ Sta Z h "com/example/denary/denary/context/RoundingMode" "UP" "Lcom/example/denary/denary/context/RoundingMode;" (.ref (M 0)) ∧ Sta Z h "com/example/denary/denary/context/RoundingMode" "DOWN" "Lcom/example/denary/denary/context/RoundingMode;" (.ref (M 1)) ∧ Sta Z h "com/example/denary/denary/context/RoundingMode" "CEILING" "Lcom/example/denary/denary/context/RoundingMode;" (.ref (M 2)) ∧ Sta Z h "com/example/denary/denary/context/RoundingMode" "FLOOR" "Lcom/example/denary/denary/context/RoundingMode;" (.ref (M 3)) ∧ Sta Z h "com/example/denary/denary/context/RoundingMode" "HALF_UP" "Lcom/example/denary/denary/context/RoundingMode;" (.ref (M 4)) ∧ Sta Z h "com/example/denary/denary/context/RoundingMode" "HALF_DOWN" "Lcom/example/denary/denary/context/RoundingMode;" (.ref (M 5)) ∧ Sta Z h "com/example/denary/denary/context/RoundingMode" "HALF_EVEN" "Lcom/example/denary/denary/context/RoundingMode;" (.ref (M 6)) ∧ Sta Z h "com/example/denary/denary/context/RoundingMode" "UNNECESSARY" "Lcom/example/denary/denary/context/RoundingMode;" (.ref (M 7))
def own_md (M : Nat → Addr) (i : Int32) : Addr := if i = (0 : Int32) then M 0 else (if i = (1 : Int32) then M 1 else (if i = (2 : Int32) then M 2 else (if i = (3 : Int32) then M 3 else (if i = (4 : Int32) then M 4 else (if i = (5 : Int32) then M 5 else (if i = (6 : Int32) then M 6 else M 7))))))
theorem own_Modes.keep {Z : State} {h h' : Heap} {M : Nat → Addr} (F : own_Modes Z h M) (K : Keep h h' []) : own_Modes Z h' M := by
  obtain ⟨E, s0, s1, s2, s3, s4, s5, s6, s7⟩ := F
  exact ⟨fun k hk => (E k hk).keep K, own_stakeep s0 K, own_stakeep s1 K, own_stakeep s2 K, own_stakeep s3 K, own_stakeep s4 K, own_stakeep s5 K, own_stakeep s6 K, own_stakeep s7 K⟩
theorem own_mdE {Z : State} {h : Heap} {M : Nat → Addr} (F : own_Modes Z h M) (i : Int32) : Exa Z h (own_md M i) "com/example/denary/denary/context/RoundingMode" := by
  unfold own_md
  repeat' split
  all_goals exact F.1 _ (by decide)
def own_eqm (p q : Int32) (a b : Addr) : Int32 := if p = q then (if a = b then 1 else 0) else 0
theorem own_notTwo {Z : State} {a0 : Array Value} {A B K : String} {n : Nat} (w1 : (Cond.superclass A B).before a0 Z = true) (w2 : (Cond.superclass B "java/lang/Object").before a0 Z = true) (w3 : (Cond.noSuperclass "java/lang/Object").before a0 Z = true) (wk : (Cond.instantiable K n).before a0 Z = true)
    (h1 : A ≠ K) (h2 : B ≠ K) (h3 : "java/lang/Object" ≠ K) : ∃ c t, Z.vm.findClass A = some c ∧ Z.vm.findClass K = some t ∧ Z.vm.assignable c t = false := by
  obtain ⟨t, kt, g1, g2, g3, g4, -⟩ := Cond.instantiable_spec wk
  have root : NS Z "java/lang/Object" K := by
    obtain ⟨c, k, a1, a2, a3, -, -⟩ := Cond.noSuperclass_spec w3
    refine ⟨c, t, a1, g1, fun fuel => ?_⟩
    have ne := ids_ne a1 g1 h3
    match fuel with
    | 0 => rfl
    | f + 1 => simp [Vm.isSubclassAux, ne, a2, a3]
  obtain ⟨c, t', f1, f2, f3⟩ := NS.step w1 (NS.step w2 root h2) h1
  cases g1.symm.trans f2
  obtain ⟨p, k, kp, -, b2, -, -, b5, -, -⟩ := Cond.superclass_spec f1 w1
  have gi : kt.isInterface = false := by simp only [Bool.or_eq_false_iff] at g4; exact g4.1
  refine ⟨c, t, f1, g1, ?_⟩
  have ne := ids_ne f1 g1 h1
  unfold Vm.assignable
  simp [Vm.assignableAux, ne, b2, g2, b5, g3, gi, Vm.isSubclass, f3]
theorem own_neI {Z : State} {h : Heap} {a b : Addr} {C D : String} (E : Exa Z h a C) (F : Exa Z h b D) (hn : C ≠ D := by decide) : a ≠ b := ne_exa E F hn
theorem own_pos1 {p z : Int32} (h : z = (p &&& (2147483647 : Int32))) : ¬ z < (0 : Int32) := by
  rw [h, Int32.lt_iff_toInt_lt]
  have := (c_and p (2147483647 : Int32) (by decide)).1
  have e : (0 : Int32).toInt = 0 := rfl
  omega
theorem own_pos2 {p q y z : Int32} {c : Prop} [Decidable c] (h : y = (p &&& (2147483647 : Int32))) (h2 : z = (if c then (q &&& (2147483647 : Int32)) else y)) : ¬ z < (0 : Int32) := by
  rw [h2]; split
  · exact own_pos1 rfl
  · exact own_pos1 h
theorem own_mdk {M : Nat → Addr} {i : Int32} (hi : 0 ≤ i.toInt ∧ i.toInt ≤ 7) : own_md M i = M i.toInt.toNat := by
  have h8 : i = 0 ∨ i = 1 ∨ i = 2 ∨ i = 3 ∨ i = 4 ∨ i = 5 ∨ i = 6 ∨ i = 7 := by
    simp only [← Int32.toInt_inj]
    show i.toInt = 0 ∨ i.toInt = 1 ∨ i.toInt = 2 ∨ i.toInt = 3 ∨ i.toInt = 4 ∨ i.toInt = 5 ∨ i.toInt = 6 ∨ i.toInt = 7
    omega
  rcases h8 with rfl | rfl | rfl | rfl | rfl | rfl | rfl | rfl <;> rfl
theorem own_m7 {p z : Int32} (h : z = (p &&& (7 : Int32))) : 0 ≤ z.toInt ∧ z.toInt ≤ 7 := by
  have := c_and p (7 : Int32) (by decide)
  have e : (7 : Int32).toInt = 7 := rfl
  rw [h]; omega
theorem own_m7b {p y z : Int32} {c : Prop} [Decidable c] (hy : 0 ≤ y.toInt ∧ y.toInt ≤ 7) (h : z = (if c then (p &&& (7 : Int32)) else y)) : 0 ≤ z.toInt ∧ z.toInt ≤ 7 := by
  rw [h]; split
  · exact own_m7 rfl
  · exact hy
theorem own_mdinj {M : Nat → Addr} {i j : Int32} (hinj : ∀ i j, i < 8 → j < 8 → M i = M j → i = j) (hi : 0 ≤ i.toInt ∧ i.toInt ≤ 7) (hj : 0 ≤ j.toInt ∧ j.toInt ≤ 7) : own_md M i = own_md M j ↔ i = j := by
  rw [own_mdk hi, own_mdk hj]
  constructor
  · intro h
    have := hinj _ _ (by omega) (by omega) h
    apply Int32.toInt_inj.mp; omega
  · intro h; rw [h]
theorem own_law1 {M : Nat → Addr} {p q i j z : Int32} {a b : Addr} (hinj : ∀ i j, i < 8 → j < 8 → M i = M j → i = j) (hi : 0 ≤ i.toInt ∧ i.toInt ≤ 7) (hj : 0 ≤ j.toInt ∧ j.toInt ≤ 7) (ha : a = own_md M i) (hb : b = own_md M j) (hz : z = (if p = q then (if i = j then (1 : Int32) else (0 : Int32)) else (0 : Int32))) : own_eqm p q a b = z ∧ own_eqm q p b a = z := by
  unfold own_eqm
  rw [ha, hb, hz]
  have e1 := own_mdinj (M := M) hinj hi hj
  have e2 := own_mdinj (M := M) hinj hj hi
  by_cases h1 : p = q
  · subst h1
    by_cases h2 : i = j
    · subst h2; simp
    · simp [h2, e1, e2, Ne.symm h2]
  · simp [h1, Ne.symm h1]
theorem own_fieldev {t : Term} {args : Array Value} {s : State} {a : Addr} {C n d : String} (ht : t.eval args s none [] s = some (.ref a)) : (Term.field t C n d).eval args s none [] s = s.fieldOf? a C n d := by simp [Term.eval, ht]
theorem own_const {s : State} {args : Array Value} {C n d : String} {k : Int32} (hini : (Cond.initialized C).before args s = true) (hl : (Cond.laysStatic C n d).before args s = true) (hx : (Cond.exactly (Term.static C n d) C).value args s none s [] = some true)
    (ho : (Cond.eq (Term.field (Term.static C n d) "java/lang/Enum" "ordinal" "I") (Term.int k)).value args s none s [] = some true) : ∃ a, Sta s s.heap C n d (.ref a) ∧ Exa s s.heap a C ∧ s.fieldOf? a "java/lang/Enum" "ordinal" "I" = some (.int k) := by
  obtain ⟨a, c, cell, kk, e1, -⟩ := Cond.exactly_spec (show (Cond.exactly (Term.static C n d) C).holds args s none s [] = true by unfold Cond.holds; rw [hx]; rfl)
  have e3 := Cond.eq_int (show (Cond.eq (Term.field (Term.static C n d) "java/lang/Enum" "ordinal" "I") (Term.int k)).holds args s none s [] = true by unfold Cond.holds; rw [ho]; rfl) (rfl : (Term.int k).eval args s none [] s = some (.int k))
  rw [own_fieldev e1] at e3
  exact ⟨a, Sta.start e1 (Or.inr ⟨hini, hl⟩), Exa.start e1 hx, e3⟩
def own_Q1 (Z : State) (p0 : Int32) (M : Nat → Addr) (h0 : Heap) (n0 : Nat) (v : Option Value) (h : Heap) (L : List Loc) : Prop := v = some (.ref (own_md M p0)) ∧ Fr n0 L ∧ h = h0
theorem d1_0 : decode method_2_code 0 = .ok (.iload_n 0, 1) := by decide +kernel
theorem d1_1 : decode method_2_code 1 = .ok (.ifCond .ne 7, 3) := by decide +kernel
theorem d1_4 : decode method_2_code 4 = .ok (.getstatic 7, 3) := by decide +kernel
theorem d1_7 : decode method_2_code 7 = .ok (.areturn, 1) := by decide +kernel
theorem d1_8 : decode method_2_code 8 = .ok (.iload_n 0, 1) := by decide +kernel
theorem d1_9 : decode method_2_code 9 = .ok (.iconst 1, 1) := by decide +kernel
theorem d1_10 : decode method_2_code 10 = .ok (.if_icmp .ne 7, 3) := by decide +kernel
theorem d1_13 : decode method_2_code 13 = .ok (.getstatic 13, 3) := by decide +kernel
theorem d1_16 : decode method_2_code 16 = .ok (.areturn, 1) := by decide +kernel
theorem d1_17 : decode method_2_code 17 = .ok (.iload_n 0, 1) := by decide +kernel
theorem d1_18 : decode method_2_code 18 = .ok (.iconst 2, 1) := by decide +kernel
theorem d1_19 : decode method_2_code 19 = .ok (.if_icmp .ne 7, 3) := by decide +kernel
theorem d1_22 : decode method_2_code 22 = .ok (.getstatic 16, 3) := by decide +kernel
theorem d1_25 : decode method_2_code 25 = .ok (.areturn, 1) := by decide +kernel
theorem d1_26 : decode method_2_code 26 = .ok (.iload_n 0, 1) := by decide +kernel
theorem d1_27 : decode method_2_code 27 = .ok (.iconst 3, 1) := by decide +kernel
theorem d1_28 : decode method_2_code 28 = .ok (.if_icmp .ne 7, 3) := by decide +kernel
theorem d1_31 : decode method_2_code 31 = .ok (.getstatic 19, 3) := by decide +kernel
theorem d1_34 : decode method_2_code 34 = .ok (.areturn, 1) := by decide +kernel
theorem d1_35 : decode method_2_code 35 = .ok (.iload_n 0, 1) := by decide +kernel
theorem d1_36 : decode method_2_code 36 = .ok (.iconst 4, 1) := by decide +kernel
theorem d1_37 : decode method_2_code 37 = .ok (.if_icmp .ne 7, 3) := by decide +kernel
theorem d1_40 : decode method_2_code 40 = .ok (.getstatic 22, 3) := by decide +kernel
theorem d1_43 : decode method_2_code 43 = .ok (.areturn, 1) := by decide +kernel
theorem d1_44 : decode method_2_code 44 = .ok (.iload_n 0, 1) := by decide +kernel
theorem d1_45 : decode method_2_code 45 = .ok (.iconst 5, 1) := by decide +kernel
theorem d1_46 : decode method_2_code 46 = .ok (.if_icmp .ne 7, 3) := by decide +kernel
theorem d1_49 : decode method_2_code 49 = .ok (.getstatic 25, 3) := by decide +kernel
theorem d1_52 : decode method_2_code 52 = .ok (.areturn, 1) := by decide +kernel
theorem d1_53 : decode method_2_code 53 = .ok (.iload_n 0, 1) := by decide +kernel
theorem d1_54 : decode method_2_code 54 = .ok (.bipush 6, 2) := by decide +kernel
theorem d1_56 : decode method_2_code 56 = .ok (.if_icmp .ne 7, 3) := by decide +kernel
theorem d1_59 : decode method_2_code 59 = .ok (.getstatic 28, 3) := by decide +kernel
theorem d1_62 : decode method_2_code 62 = .ok (.areturn, 1) := by decide +kernel
theorem d1_63 : decode method_2_code 63 = .ok (.getstatic 31, 3) := by decide +kernel
theorem d1_66 : decode method_2_code 66 = .ok (.areturn, 1) := by decide +kernel
theorem pn_com_example_denary_denary_context_MathContextEqualsPinLaw : plainName "com/example/denary/denary/context/MathContextEqualsPinLaw" = true := by first | (simp [plainName, overriddenIn]; done) | decide +kernel
theorem ef_1 (m : MethodId) (p0 : Int32) : entryFrame m #[(.int p0)] 1 = mkF m 0 #[.val (.int p0)] [] := by first | (simp [entryFrame, mkF, argsToLocals, Value.category]; done) | rfl
set_option maxRecDepth 65536 in
set_option maxHeartbeats 40000000 in
theorem rm1 (l : Launch) (Z : State) (a0 : Array Value) (hw : ∀ d ∈ tables_1, d.before a0 Z = true) (ws : List Jvm.Cond) (p0 : Int32) (h0 : Heap) (n0 : Nat) (Z0 : n0 ≤ h0.size) (M : Nat → Addr) (hM : own_Modes Z h0 M) :
    MetFree l (⟨"com/example/denary/denary/context/MathContextEqualsPinLaw", "mode", "(I)Lcom/example/denary/denary/context/RoundingMode;"⟩ : MethodName) (head1 (Jvm.Cond.code (⟨"com/example/denary/denary/context/MathContextEqualsPinLaw", "mode", "(I)Lcom/example/denary/denary/context/RoundingMode;"⟩ : MethodName) method_2_code 1 (some (.object "com/example/denary/denary/context/RoundingMode")) :: ws) ({ frames := 0, cells := 0, slots := 0, locals := 0 } : Room)) (fun a U => a = #[(.int p0)] ∧ Z.Warmed39 U.vm ∧ U.heap = h0) (fun _ _ _ _ _ => True) (fun _ U o U' => ∃ v L, o = .returned v ∧ (own_Q1 Z p0 M h0 n0) v U'.heap L ∧ FrameEnd U o U' L ({ frames := 0, cells := 0, slots := 0, locals := 0 } : Room).cells ({ frames := 0, cells := 0, slots := 0, locals := 0 } : Room).slots) := by
  refine MetFree.of_bodySF (plainFor_of_name pn_com_example_denary_denary_context_MathContextEqualsPinLaw) hisR ?_
  intro p e s m args below meth c s₁ Bd hml0 hP hK
  obtain ⟨rfl, hZ, hh⟩ := hP
  have hx := Bd.exec
  have hby := Bd.bytes
  have hml : c.maxLocals = 1 := hml0
  have hown : s.vm.findClass "com/example/denary/denary/context/MathContextEqualsPinLaw" = some m.cls := findClass_of_methodNamed Bd.named
  have hnm := (name_of_methodNamed Bd.named Bd.method).1
  have X0 : Stand p l e ({ frames := 0, cells := 0, slots := 0, locals := 0 } : Room) s m #[(.int p0)] below meth c s₁ [] 0 0 := Stand.of_body Bd
  have e0 : s₁.heap = h0 := by rw [← hh, Bd.state]; rfl
  have N0 := Fr.nil n0
  refine own_body (QQ := (own_Q1 Z p0 M h0 n0)) (ef_1 m p0) ?_
  obtain ⟨hE, hS0, hS1, hS2, hS3, hS4, hS5, hS6, hS7⟩ := hM
  refine own_via (s₁.setTop (mkF m 1 #[.val (.int p0)] [(.int p0)])) (fun t k => XS.iloadN X0.here hx rfl (hb hby d1_0) rfl  k) ?_
  by_cases hc1_1 : p0 = (0 : Int32)
  · refine own_via (s₁.setTop (mkF m 4 #[.val (.int p0)] [])) (fun t k => XS.ifNo X0.here hx rfl (hb hby d1_1) rfl ((if0 _ _).trans (teq hc1_1).2) k) ?_
    obtain ⟨T2, X2, e2, st2⟩ := getS2 X0 hx hZ hown (host := "") (Or.inl (hw _ (List.mem_of_getElem? (i := 77) rfl))) Via.refl e0 hS0 (g := (mkF m 4 #[.val (.int p0)] [])) rfl (hb hby d1_4)
    refine own_via (T2.setTop (mkF m 7 #[.val (.int p0)] [(.ref (M 0))])) (fun t k => st2 t k) ?_
    refine own_leave X2 Bd.notSynchronized (v := some (.ref (M 0))) (fun h => by rw [Bd.returns] at h; cases h) (fun fs hr => retOut X2 hx Bd.returns rfl (Or.inr (Or.inr (Or.inr (Or.inr ⟨rfl, rfl, rfl⟩)))) (hb hby d1_7) hr) ?_ (by decide) (by decide)
    exact ⟨by unfold own_md; rw [if_pos hc1_1], N0, e2⟩
  · refine own_via (s₁.setTop (mkF m 8 #[.val (.int p0)] [])) (fun t k => XS.ifYes X0.here hx rfl (pc0 := 1) (pc' := 8) rfl (hb hby d1_1) rfl ((if0 _ _).trans (feq hc1_1).2) (by decide) (by decide) k) ?_
    refine own_via (s₁.setTop (mkF m 9 #[.val (.int p0)] [(.int p0)])) (fun t k => XS.iloadN X0.here hx rfl (hb hby d1_8) rfl  k) ?_
    refine own_via (s₁.setTop (mkF m 10 #[.val (.int p0)] [(.int (1 : Int32)), (.int p0)])) (fun t k => XS.iconst X0.here hx rfl (hb hby d1_9) k) ?_
    by_cases hc10_3 : p0 = (1 : Int32)
    · refine own_via (s₁.setTop (mkF m 13 #[.val (.int p0)] [])) (fun t k => XS.icmpNo X0.here hx rfl (hb hby d1_10) rfl (teq hc10_3).2 k) ?_
      obtain ⟨T4, X4, e4, st4⟩ := getS2 X0 hx hZ hown (host := "") (Or.inl (hw _ (List.mem_of_getElem? (i := 35) rfl))) Via.refl e0 hS1 (g := (mkF m 13 #[.val (.int p0)] [])) rfl (hb hby d1_13)
      refine own_via (T4.setTop (mkF m 16 #[.val (.int p0)] [(.ref (M 1))])) (fun t k => st4 t k) ?_
      refine own_leave X4 Bd.notSynchronized (v := some (.ref (M 1))) (fun h => by rw [Bd.returns] at h; cases h) (fun fs hr => retOut X4 hx Bd.returns rfl (Or.inr (Or.inr (Or.inr (Or.inr ⟨rfl, rfl, rfl⟩)))) (hb hby d1_16) hr) ?_ (by decide) (by decide)
      exact ⟨by unfold own_md; rw [if_neg hc1_1, if_pos hc10_3], N0, e4⟩
    · refine own_via (s₁.setTop (mkF m 17 #[.val (.int p0)] [])) (fun t k => XS.icmpYes X0.here hx rfl (pc0 := 10) (pc' := 17) rfl (hb hby d1_10) rfl (feq hc10_3).2 (by decide) (by decide) k) ?_
      refine own_via (s₁.setTop (mkF m 18 #[.val (.int p0)] [(.int p0)])) (fun t k => XS.iloadN X0.here hx rfl (hb hby d1_17) rfl  k) ?_
      refine own_via (s₁.setTop (mkF m 19 #[.val (.int p0)] [(.int (2 : Int32)), (.int p0)])) (fun t k => XS.iconst X0.here hx rfl (hb hby d1_18) k) ?_
      by_cases hc19_5 : p0 = (2 : Int32)
      · refine own_via (s₁.setTop (mkF m 22 #[.val (.int p0)] [])) (fun t k => XS.icmpNo X0.here hx rfl (hb hby d1_19) rfl (teq hc19_5).2 k) ?_
        obtain ⟨T6, X6, e6, st6⟩ := getS2 X0 hx hZ hown (host := "") (Or.inl (hw _ (List.mem_of_getElem? (i := 8) rfl))) Via.refl e0 hS2 (g := (mkF m 22 #[.val (.int p0)] [])) rfl (hb hby d1_22)
        refine own_via (T6.setTop (mkF m 25 #[.val (.int p0)] [(.ref (M 2))])) (fun t k => st6 t k) ?_
        refine own_leave X6 Bd.notSynchronized (v := some (.ref (M 2))) (fun h => by rw [Bd.returns] at h; cases h) (fun fs hr => retOut X6 hx Bd.returns rfl (Or.inr (Or.inr (Or.inr (Or.inr ⟨rfl, rfl, rfl⟩)))) (hb hby d1_25) hr) ?_ (by decide) (by decide)
        exact ⟨by unfold own_md; rw [if_neg hc1_1, if_neg hc10_3, if_pos hc19_5], N0, e6⟩
      · refine own_via (s₁.setTop (mkF m 26 #[.val (.int p0)] [])) (fun t k => XS.icmpYes X0.here hx rfl (pc0 := 19) (pc' := 26) rfl (hb hby d1_19) rfl (feq hc19_5).2 (by decide) (by decide) k) ?_
        refine own_via (s₁.setTop (mkF m 27 #[.val (.int p0)] [(.int p0)])) (fun t k => XS.iloadN X0.here hx rfl (hb hby d1_26) rfl  k) ?_
        refine own_via (s₁.setTop (mkF m 28 #[.val (.int p0)] [(.int (3 : Int32)), (.int p0)])) (fun t k => XS.iconst X0.here hx rfl (hb hby d1_27) k) ?_
        by_cases hc28_7 : p0 = (3 : Int32)
        · refine own_via (s₁.setTop (mkF m 31 #[.val (.int p0)] [])) (fun t k => XS.icmpNo X0.here hx rfl (hb hby d1_28) rfl (teq hc28_7).2 k) ?_
          obtain ⟨T8, X8, e8, st8⟩ := getS2 X0 hx hZ hown (host := "") (Or.inl (hw _ (List.mem_of_getElem? (i := 60) rfl))) Via.refl e0 hS3 (g := (mkF m 31 #[.val (.int p0)] [])) rfl (hb hby d1_31)
          refine own_via (T8.setTop (mkF m 34 #[.val (.int p0)] [(.ref (M 3))])) (fun t k => st8 t k) ?_
          refine own_leave X8 Bd.notSynchronized (v := some (.ref (M 3))) (fun h => by rw [Bd.returns] at h; cases h) (fun fs hr => retOut X8 hx Bd.returns rfl (Or.inr (Or.inr (Or.inr (Or.inr ⟨rfl, rfl, rfl⟩)))) (hb hby d1_34) hr) ?_ (by decide) (by decide)
          exact ⟨by unfold own_md; rw [if_neg hc1_1, if_neg hc10_3, if_neg hc19_5, if_pos hc28_7], N0, e8⟩
        · refine own_via (s₁.setTop (mkF m 35 #[.val (.int p0)] [])) (fun t k => XS.icmpYes X0.here hx rfl (pc0 := 28) (pc' := 35) rfl (hb hby d1_28) rfl (feq hc28_7).2 (by decide) (by decide) k) ?_
          refine own_via (s₁.setTop (mkF m 36 #[.val (.int p0)] [(.int p0)])) (fun t k => XS.iloadN X0.here hx rfl (hb hby d1_35) rfl  k) ?_
          refine own_via (s₁.setTop (mkF m 37 #[.val (.int p0)] [(.int (4 : Int32)), (.int p0)])) (fun t k => XS.iconst X0.here hx rfl (hb hby d1_36) k) ?_
          by_cases hc37_9 : p0 = (4 : Int32)
          · refine own_via (s₁.setTop (mkF m 40 #[.val (.int p0)] [])) (fun t k => XS.icmpNo X0.here hx rfl (hb hby d1_37) rfl (teq hc37_9).2 k) ?_
            obtain ⟨T10, X10, e10, st10⟩ := getS2 X0 hx hZ hown (host := "") (Or.inl (hw _ (List.mem_of_getElem? (i := 79) rfl))) Via.refl e0 hS4 (g := (mkF m 40 #[.val (.int p0)] [])) rfl (hb hby d1_40)
            refine own_via (T10.setTop (mkF m 43 #[.val (.int p0)] [(.ref (M 4))])) (fun t k => st10 t k) ?_
            refine own_leave X10 Bd.notSynchronized (v := some (.ref (M 4))) (fun h => by rw [Bd.returns] at h; cases h) (fun fs hr => retOut X10 hx Bd.returns rfl (Or.inr (Or.inr (Or.inr (Or.inr ⟨rfl, rfl, rfl⟩)))) (hb hby d1_43) hr) ?_ (by decide) (by decide)
            exact ⟨by unfold own_md; rw [if_neg hc1_1, if_neg hc10_3, if_neg hc19_5, if_neg hc28_7, if_pos hc37_9], N0, e10⟩
          · refine own_via (s₁.setTop (mkF m 44 #[.val (.int p0)] [])) (fun t k => XS.icmpYes X0.here hx rfl (pc0 := 37) (pc' := 44) rfl (hb hby d1_37) rfl (feq hc37_9).2 (by decide) (by decide) k) ?_
            refine own_via (s₁.setTop (mkF m 45 #[.val (.int p0)] [(.int p0)])) (fun t k => XS.iloadN X0.here hx rfl (hb hby d1_44) rfl  k) ?_
            refine own_via (s₁.setTop (mkF m 46 #[.val (.int p0)] [(.int (5 : Int32)), (.int p0)])) (fun t k => XS.iconst X0.here hx rfl (hb hby d1_45) k) ?_
            by_cases hc46_11 : p0 = (5 : Int32)
            · refine own_via (s₁.setTop (mkF m 49 #[.val (.int p0)] [])) (fun t k => XS.icmpNo X0.here hx rfl (hb hby d1_46) rfl (teq hc46_11).2 k) ?_
              obtain ⟨T12, X12, e12, st12⟩ := getS2 X0 hx hZ hown (host := "") (Or.inl (hw _ (List.mem_of_getElem? (i := 57) rfl))) Via.refl e0 hS5 (g := (mkF m 49 #[.val (.int p0)] [])) rfl (hb hby d1_49)
              refine own_via (T12.setTop (mkF m 52 #[.val (.int p0)] [(.ref (M 5))])) (fun t k => st12 t k) ?_
              refine own_leave X12 Bd.notSynchronized (v := some (.ref (M 5))) (fun h => by rw [Bd.returns] at h; cases h) (fun fs hr => retOut X12 hx Bd.returns rfl (Or.inr (Or.inr (Or.inr (Or.inr ⟨rfl, rfl, rfl⟩)))) (hb hby d1_52) hr) ?_ (by decide) (by decide)
              exact ⟨by unfold own_md; rw [if_neg hc1_1, if_neg hc10_3, if_neg hc19_5, if_neg hc28_7, if_neg hc37_9, if_pos hc46_11], N0, e12⟩
            · refine own_via (s₁.setTop (mkF m 53 #[.val (.int p0)] [])) (fun t k => XS.icmpYes X0.here hx rfl (pc0 := 46) (pc' := 53) rfl (hb hby d1_46) rfl (feq hc46_11).2 (by decide) (by decide) k) ?_
              refine own_via (s₁.setTop (mkF m 54 #[.val (.int p0)] [(.int p0)])) (fun t k => XS.iloadN X0.here hx rfl (hb hby d1_53) rfl  k) ?_
              refine own_via (s₁.setTop (mkF m 56 #[.val (.int p0)] [(.int (6 : Int32)), (.int p0)])) (fun t k => XS.bipush X0.here hx rfl (hb hby d1_54) k) ?_
              by_cases hc56_13 : p0 = (6 : Int32)
              · refine own_via (s₁.setTop (mkF m 59 #[.val (.int p0)] [])) (fun t k => XS.icmpNo X0.here hx rfl (hb hby d1_56) rfl (teq hc56_13).2 k) ?_
                obtain ⟨T14, X14, e14, st14⟩ := getS2 X0 hx hZ hown (host := "") (Or.inl (hw _ (List.mem_of_getElem? (i := 81) rfl))) Via.refl e0 hS6 (g := (mkF m 59 #[.val (.int p0)] [])) rfl (hb hby d1_59)
                refine own_via (T14.setTop (mkF m 62 #[.val (.int p0)] [(.ref (M 6))])) (fun t k => st14 t k) ?_
                refine own_leave X14 Bd.notSynchronized (v := some (.ref (M 6))) (fun h => by rw [Bd.returns] at h; cases h) (fun fs hr => retOut X14 hx Bd.returns rfl (Or.inr (Or.inr (Or.inr (Or.inr ⟨rfl, rfl, rfl⟩)))) (hb hby d1_62) hr) ?_ (by decide) (by decide)
                exact ⟨by unfold own_md; rw [if_neg hc1_1, if_neg hc10_3, if_neg hc19_5, if_neg hc28_7, if_neg hc37_9, if_neg hc46_11, if_pos hc56_13], N0, e14⟩
              · refine own_via (s₁.setTop (mkF m 63 #[.val (.int p0)] [])) (fun t k => XS.icmpYes X0.here hx rfl (pc0 := 56) (pc' := 63) rfl (hb hby d1_56) rfl (feq hc56_13).2 (by decide) (by decide) k) ?_
                obtain ⟨T15, X15, e15, st15⟩ := getS2 X0 hx hZ hown (host := "") (Or.inl (hw _ (List.mem_of_getElem? (i := 42) rfl))) Via.refl e0 hS7 (g := (mkF m 63 #[.val (.int p0)] [])) rfl (hb hby d1_63)
                refine own_via (T15.setTop (mkF m 66 #[.val (.int p0)] [(.ref (M 7))])) (fun t k => st15 t k) ?_
                refine own_leave X15 Bd.notSynchronized (v := some (.ref (M 7))) (fun h => by rw [Bd.returns] at h; cases h) (fun fs hr => retOut X15 hx Bd.returns rfl (Or.inr (Or.inr (Or.inr (Or.inr ⟨rfl, rfl, rfl⟩)))) (hb hby d1_66) hr) ?_ (by decide) (by decide)
                exact ⟨by unfold own_md; rw [if_neg hc1_1, if_neg hc10_3, if_neg hc19_5, if_neg hc28_7, if_neg hc37_9, if_neg hc46_11, if_neg hc56_13], N0, e15⟩
def own_Q4 (Z : State) (p0 : Addr) (p1 : Addr)  (h0 : Heap) (n0 : Nat) (v : Option Value) (h : Heap) (L : List Loc) : Prop := v = some (.ref p0) ∧ Fr n0 L ∧ h = h0
theorem d4_0 : decode jdk_31_method_11_code 0 = .ok (.aload_n 0, 1) := by decide +kernel
theorem d4_1 : decode jdk_31_method_11_code 1 = .ok (.ifnonnull 12, 3) := by decide +kernel
theorem d4_13 : decode jdk_31_method_11_code 13 = .ok (.aload_n 0, 1) := by decide +kernel
theorem d4_14 : decode jdk_31_method_11_code 14 = .ok (.areturn, 1) := by decide +kernel
theorem pn_java_util_Objects : plainName "java/util/Objects" = true := by first | (simp [plainName, overriddenIn]; done) | decide +kernel
theorem ef_4 (m : MethodId) (p0 : Addr) (p1 : Addr) : entryFrame m #[(.ref p0), (.ref p1)] 2 = mkF m 0 #[.val (.ref p0), .val (.ref p1)] [] := by first | (simp [entryFrame, mkF, argsToLocals, Value.category]; done) | rfl
set_option maxRecDepth 65536 in
set_option maxHeartbeats 40000000 in
theorem rm4 (l : Launch) (Z : State) (a0 : Array Value) (hw : ∀ d ∈ tables_1, d.before a0 Z = true) (ws : List Jvm.Cond) (p0 : Addr) (p1 : Addr) (h0 : Heap) (n0 : Nat) (Z0 : n0 ≤ h0.size)  :
    MetFree l (⟨"java/util/Objects", "requireNonNull", "(Ljava/lang/Object;Ljava/lang/String;)Ljava/lang/Object;"⟩ : MethodName) (head1 (Jvm.Cond.code (⟨"java/util/Objects", "requireNonNull", "(Ljava/lang/Object;Ljava/lang/String;)Ljava/lang/Object;"⟩ : MethodName) jdk_31_method_11_code 2 (some (.object "java/lang/Object")) :: ws) ({ frames := 0, cells := 0, slots := 0, locals := 0 } : Room)) (fun a U => a = #[(.ref p0), (.ref p1)] ∧ Z.Warmed39 U.vm ∧ U.heap = h0) (fun _ _ _ _ _ => True) (fun _ U o U' => ∃ v L, o = .returned v ∧ (own_Q4 Z p0 p1  h0 n0) v U'.heap L ∧ FrameEnd U o U' L ({ frames := 0, cells := 0, slots := 0, locals := 0 } : Room).cells ({ frames := 0, cells := 0, slots := 0, locals := 0 } : Room).slots) := by
  refine MetFree.of_bodySF (plainFor_of_name pn_java_util_Objects) hisR ?_
  intro p e s m args below meth c s₁ Bd hml0 hP hK
  obtain ⟨rfl, hZ, hh⟩ := hP
  have hx := Bd.exec
  have hby := Bd.bytes
  have hml : c.maxLocals = 2 := hml0
  have hown : s.vm.findClass "java/util/Objects" = some m.cls := findClass_of_methodNamed Bd.named
  have hnm := (name_of_methodNamed Bd.named Bd.method).1
  have X0 : Stand p l e ({ frames := 0, cells := 0, slots := 0, locals := 0 } : Room) s m #[(.ref p0), (.ref p1)] below meth c s₁ [] 0 0 := Stand.of_body Bd
  have e0 : s₁.heap = h0 := by rw [← hh, Bd.state]; rfl
  have N0 := Fr.nil n0
  refine own_body (QQ := (own_Q4 Z p0 p1  h0 n0)) (ef_4 m p0 p1) ?_
  refine own_via (s₁.setTop (mkF m 1 #[.val (.ref p0), .val (.ref p1)] [(.ref p0)])) (fun t k => XS.aloadN X0.here hx rfl (hb hby d4_0) rfl rfl k) ?_
  refine own_via (s₁.setTop (mkF m 13 #[.val (.ref p0), .val (.ref p1)] [])) (fun t k => XS.ifnonnullYes X0.here hx rfl (pc0 := 1) (pc' := 13) rfl (hb hby d4_1) rfl (by decide) (by decide) k) ?_
  refine own_via (s₁.setTop (mkF m 14 #[.val (.ref p0), .val (.ref p1)] [(.ref p0)])) (fun t k => XS.aloadN X0.here hx rfl (hb hby d4_13) rfl rfl k) ?_
  refine own_leave X0 Bd.notSynchronized (v := some (.ref p0)) (fun h => by rw [Bd.returns] at h; cases h) (fun fs hr => retOut X0 hx Bd.returns rfl (Or.inr (Or.inr (Or.inr (Or.inr ⟨rfl, rfl, rfl⟩)))) (hb hby d4_14) hr) ?_ (by decide) (by decide)
  exact ⟨rfl, N0, e0⟩
def own_Q2 (Z : State) (p0 : Addr) (p1 : Int32) (p2 : Addr)  (h0 : Heap) (n0 : Nat) (v : Option Value) (h : Heap) (L : List Loc) : Prop := v = none ∧ Fr n0 L ∧ Keep h0 h [p0] ∧ Exa Z h p0 "com/example/denary/denary/context/MathContext" ∧ Fld Z h p0 "com/example/denary/denary/context/MathContext" "precision" "I" (.int p1) ∧ Fld Z h p0 "com/example/denary/denary/context/MathContext" "roundingMode" "Lcom/example/denary/denary/context/RoundingMode;" (.ref p2)
theorem d2_0 : decode prog_29_method_2_code 0 = .ok (.aload_n 0, 1) := by decide +kernel
theorem d2_1 : decode prog_29_method_2_code 1 = .ok (.invokespecial 13, 3) := by decide +kernel
theorem d2_4 : decode prog_29_method_2_code 4 = .ok (.iload_n 1, 1) := by decide +kernel
theorem d2_5 : decode prog_29_method_2_code 5 = .ok (.ifCond .ge 17, 3) := by decide +kernel
theorem d2_22 : decode prog_29_method_2_code 22 = .ok (.aload_n 0, 1) := by decide +kernel
theorem d2_23 : decode prog_29_method_2_code 23 = .ok (.iload_n 1, 1) := by decide +kernel
theorem d2_24 : decode prog_29_method_2_code 24 = .ok (.putfield 27, 3) := by decide +kernel
theorem d2_27 : decode prog_29_method_2_code 27 = .ok (.aload_n 0, 1) := by decide +kernel
theorem d2_28 : decode prog_29_method_2_code 28 = .ok (.aload_n 2, 1) := by decide +kernel
theorem d2_29 : decode prog_29_method_2_code 29 = .ok (.ldc 31, 2) := by decide +kernel
theorem d2_31 : decode prog_29_method_2_code 31 = .ok (.invokestatic 33, 3) := by decide +kernel
theorem d2_34 : decode prog_29_method_2_code 34 = .ok (.checkcast 2, 3) := by decide +kernel
theorem d2_37 : decode prog_29_method_2_code 37 = .ok (.putfield 39, 3) := by decide +kernel
theorem d2_40 : decode prog_29_method_2_code 40 = .ok (.return_, 1) := by decide +kernel
theorem pd_0 : parseMethodDescriptor "(Ljava/lang/Object;Ljava/lang/String;)Ljava/lang/Object;" = some ⟨[(.object "java/lang/Object"), (.object "java/lang/String")], some (.object "java/lang/Object")⟩ := by decide +kernel
theorem pn_com_example_denary_denary_context_MathContext : plainName "com/example/denary/denary/context/MathContext" = true := by first | (simp [plainName, overriddenIn]; done) | decide +kernel
theorem ef_2 (m : MethodId) (p0 : Addr) (p1 : Int32) (p2 : Addr) : entryFrame m #[(.ref p0), (.int p1), (.ref p2)] 3 = mkF m 0 #[.val (.ref p0), .val (.int p1), .val (.ref p2)] [] := by first | (simp [entryFrame, mkF, argsToLocals, Value.category]; done) | rfl
set_option maxRecDepth 65536 in
set_option maxHeartbeats 40000000 in
theorem rm2 (l : Launch) (Z : State) (a0 : Array Value) (hw : ∀ d ∈ tables_1, d.before a0 Z = true) (ws : List Jvm.Cond) (p0 : Addr) (p1 : Int32) (p2 : Addr) (h0 : Heap) (n0 : Nat) (Z0 : n0 ≤ h0.size) (P0 : Fld Z h0 p0 "com/example/denary/denary/context/MathContext" "precision" "I" (.int (0 : Int32))) (P1 : Fld Z h0 p0 "com/example/denary/denary/context/MathContext" "roundingMode" "Lcom/example/denary/denary/context/RoundingMode;" .null) (P2 : Exa Z h0 p0 "com/example/denary/denary/context/MathContext") (P3 : Exa Z h0 p2 "com/example/denary/denary/context/RoundingMode") (gg_p0 : n0 ≤ p0) (hp : ¬ p1 < (0 : Int32)) (hne : p2 ≠ p0) :
    MetFree l (⟨"com/example/denary/denary/context/MathContext", "<init>", "(ILcom/example/denary/denary/context/RoundingMode;)V"⟩ : MethodName) (head1 (Jvm.Cond.code (⟨"com/example/denary/denary/context/MathContext", "<init>", "(ILcom/example/denary/denary/context/RoundingMode;)V"⟩ : MethodName) prog_29_method_2_code 3 none :: ws) ({ frames := 1, cells := 2, slots := 20, locals := 14 } : Room)) (fun a U => a = #[(.ref p0), (.int p1), (.ref p2)] ∧ Z.Warmed39 U.vm ∧ U.heap = h0) (fun _ _ _ _ _ => True) (fun _ U o U' => ∃ v L, o = .returned v ∧ (own_Q2 Z p0 p1 p2  h0 n0) v U'.heap L ∧ ReturnedEndW U o U' L ({ frames := 1, cells := 2, slots := 20, locals := 14 } : Room).cells ({ frames := 1, cells := 2, slots := 20, locals := 14 } : Room).slots) := by
  refine MetFree.of_bodySF (plainFor_of_name pn_com_example_denary_denary_context_MathContext) hisR ?_
  intro p e s m args below meth c s₁ Bd hml0 hP hK
  obtain ⟨rfl, hZ, hh⟩ := hP
  have hx := Bd.exec
  have hby := Bd.bytes
  have hml : c.maxLocals = 3 := hml0
  have hown : s.vm.findClass "com/example/denary/denary/context/MathContext" = some m.cls := findClass_of_methodNamed Bd.named
  have hnm := (name_of_methodNamed Bd.named Bd.method).1
  have X0 : Stand p l e ({ frames := 1, cells := 2, slots := 20, locals := 14 } : Room) s m #[(.ref p0), (.int p1), (.ref p2)] below meth c s₁ [] 0 0 := Stand.of_body Bd
  have e0 : s₁.heap = h0 := by rw [← hh, Bd.state]; rfl
  have N0 := Fr.nil n0
  refine own_bodyW (QQ := (own_Q2 Z p0 p1 p2  h0 n0)) (ef_2 m p0 p1 p2) ?_
  have hSi0 : s.Since s.vm 0 := (State.WarmedH.refl s).since 0
  refine own_via (s₁.setTop (mkF m 1 #[.val (.ref p0), .val (.int p1), .val (.ref p2)] [(.ref p0)])) (fun t k => XS.aloadN X0.here hx rfl (hb hby d2_0) rfl rfl k) ?_
  obtain ⟨T16, X16, e16, st16⟩ := initO X0 hx hZ hown (hw _ (List.mem_of_getElem? (i := 14) rfl)) (hw _ (List.mem_of_getElem? (i := 15) rfl)) (hw _ (List.mem_of_getElem? (i := 16) rfl)) e0 (g := (mkF m 1 #[.val (.ref p0), .val (.int p1), .val (.ref p2)] [(.ref p0)])) rfl (by rw [hml]; rfl) rfl (hb hby d2_1) (by decide) (W := 0) (by show 2 * 0 + _ ≤ _; exact Nat.le_of_eq rfl) (by decide)
  refine own_via (T16.setTop (mkF m 4 #[.val (.ref p0), .val (.int p1), .val (.ref p2)] [])) (fun t k => st16 t k) ?_
  refine own_via (T16.setTop (mkF m 5 #[.val (.ref p0), .val (.int p1), .val (.ref p2)] [(.int p1)])) (fun t k => XS.iloadN X16.here hx rfl (hb hby d2_4) rfl  k) ?_
  refine own_via (T16.setTop (mkF m 22 #[.val (.ref p0), .val (.int p1), .val (.ref p2)] [])) (fun t k => XS.ifYes X16.here hx rfl (pc0 := 5) (pc' := 22) rfl (hb hby d2_5) rfl ((if0 _ _).trans (flt hp).2.1) (by decide) (by decide) k) ?_
  refine own_via (T16.setTop (mkF m 23 #[.val (.ref p0), .val (.int p1), .val (.ref p2)] [(.ref p0)])) (fun t k => XS.aloadN X16.here hx rfl (hb hby d2_22) rfl rfl k) ?_
  refine own_via (T16.setTop (mkF m 24 #[.val (.ref p0), .val (.int p1), .val (.ref p2)] [(.int p1), (.ref p0)])) (fun t k => XS.iloadN X16.here hx rfl (hb hby d2_23) rfl  k) ?_
  obtain ⟨T17, h17, X17, e17, W17, st17⟩ := putF X16 hx hZ hown (host := "") (Or.inl (hw _ (List.mem_of_getElem? (i := 17) rfl))) Via.refl e16 P0 P2 (Or.inr ⟨(hw _ (List.mem_of_getElem? (i := 18) rfl)), rfl, hnm⟩) (hw _ (List.mem_of_getElem? (i := 2) rfl)) (ty := .int) (by decide) rfl rfl (g := (mkF m 24 #[.val (.ref p0), .val (.int p1), .val (.ref p2)] [(.int p1), (.ref p0)])) rfl rfl (hb hby d2_24)
  have Fw17 := P0.same W17
  have N17 := Fr.snoc X17 N0 gg_p0
  have K18 : Keep h0 h17 [p0] := (Keep.refl h0 [p0]).wr W17 (Or.inl (List.mem_of_getElem? (i := 0) rfl))
  refine own_via (T17.setTop (mkF m 27 #[.val (.ref p0), .val (.int p1), .val (.ref p2)] [])) (fun t k => st17 t k) ?_
  refine own_via (T17.setTop (mkF m 28 #[.val (.ref p0), .val (.int p1), .val (.ref p2)] [(.ref p0)])) (fun t k => XS.aloadN X17.here hx rfl (hb hby d2_27) rfl rfl k) ?_
  refine own_via (T17.setTop (mkF m 29 #[.val (.ref p0), .val (.int p1), .val (.ref p2)] [(.ref p2), (.ref p0)])) (fun t k => XS.aloadN X17.here hx rfl (hb hby d2_28) rfl rfl k) ?_
  obtain ⟨b19, T19, h19, kk19, X19, e19, E19, hSi19, hki19, hZ, hown, st19⟩ := ldcS (s := s) (vm0 := s.vm) X17 hx hZ hown (hw _ (List.mem_of_getElem? (i := 19) rfl)) (own_wS hw) e17 hSi0 (Nat.le_trans (Nat.zero_le _) (Keep.of_wr W17).1) (g := (mkF m 29 #[.val (.ref p0), .val (.int p1), .val (.ref p2)] [(.ref p2), (.ref p0)])) rfl (hb hby d2_29) (n := 16) (by decide) (by decide) (by decide) (by decide)
  have K20 : Keep h0 h19 [p0] := K18.ext E19
  refine own_via (T19.setTop (mkF m 31 #[.val (.ref p0), .val (.int p1), .val (.ref p2)] [(.ref b19), (.ref p2), (.ref p0)])) (fun t k => st19 t k) ?_
  obtain ⟨_, _, ⟨T21, L21, k21, n21⟩, -, X21, ⟨Lc21, hQ21, l21, y21, z21⟩, st21⟩ := Jvm.LawKit.callS X19 hx (y := (⟨"java/util/Objects", "requireNonNull", "(Ljava/lang/Object;Ljava/lang/String;)Ljava/lang/Object;"⟩ : MethodName)) hown (mvT hZ (hw _ (List.mem_of_getElem? (i := 27) rfl))) (mvT hZ (hw _ (List.mem_of_getElem? (i := 28) rfl))) (mvT hZ (hw _ (List.mem_of_getElem? (i := 29) rfl))) (mvT hZ (hw _ (List.mem_of_getElem? (i := 30) rfl))) (by decide) (backOf (W := 1) (rm4 l Z a0 hw [] p2 b19 h19 n0 (Nat.le_trans Z0 K20.1) ) hZ (hw _ (List.mem_of_getElem? (i := 30) rfl)) (hw _ (List.mem_of_getElem? (i := 29) rfl)) (by decide) (by decide)) (g := (mkF m 31 #[.val (.ref p0), .val (.int p1), .val (.ref p2)] [(.ref b19), (.ref p2), (.ref p0)])) rfl (by rw [hml]; rfl) (argsL := [(.ref p2), (.ref b19)]) (rest := [(.ref p0)]) (lenOf pd_0 rfl) rfl (by show 2 * 0 + _ ≤ _; exact Nat.le_of_eq rfl) (hb hby d2_31) (fun _ _ => ⟨rfl, e19, (by decide : 2 + 0 ≤ _), (by decide : 20 + 0 ≤ _)⟩)
  dsimp only [Pt.U, Pt.locs, Pt.cells, Pt.slots] at X21 l21 y21 z21 st21 hQ21
  rw [y21, z21] at X21
  have X21 : Stand _ _ _ _ _ _ _ _ _ _ T21 L21 2 20 := X21
  obtain ⟨rfl, N21q, e21⟩ := hQ21
  have N21 : Fr n0 L21 := by rw [l21]; exact Fr.app N17 N21q
  refine own_via (T21.setTop (mkF m 34 #[.val (.ref p0), .val (.int p1), .val (.ref p2)] [(.ref p2), (.ref p0)])) (fun t k => st21 t k) ?_
  have F23 := ((P3.wr W17).ext E19)
  obtain ⟨T22, X22, e22, st22⟩ := castY X21 hx hZ hown (hw _ (List.mem_of_getElem? (i := 31) rfl)) e21 (Ins.self F23) (g := (mkF m 34 #[.val (.ref p0), .val (.int p1), .val (.ref p2)] [(.ref p2), (.ref p0)])) rfl rfl (hb hby d2_34)
  refine own_via (T22.setTop (mkF m 37 #[.val (.ref p0), .val (.int p1), .val (.ref p2)] [(.ref p2), (.ref p0)])) (fun t k => st22 t k) ?_
  have F25 := ((P1.other W17 (Or.inr (slot_ne (Or.inr (hw _ (List.mem_of_getElem? (i := 34) rfl))) (Or.inr (hw _ (List.mem_of_getElem? (i := 18) rfl))) (by decide) (t := (.object "com/example/denary/denary/context/RoundingMode")) (t' := .int) (by decide) (by decide)))).ext E19)
  have F26 := ((P2.wr W17).ext E19)
  obtain ⟨T24, h24, X24, e24, W24, st24⟩ := putF X22 hx hZ hown (host := "") (Or.inl (hw _ (List.mem_of_getElem? (i := 33) rfl))) Via.refl e22 F25 F26 (Or.inr ⟨(hw _ (List.mem_of_getElem? (i := 34) rfl)), rfl, hnm⟩) (hw _ (List.mem_of_getElem? (i := 2) rfl)) (ty := (.object "com/example/denary/denary/context/RoundingMode")) (by decide) rfl rfl (g := (mkF m 37 #[.val (.ref p0), .val (.int p1), .val (.ref p2)] [(.ref p2), (.ref p0)])) rfl rfl (hb hby d2_37)
  have Fw24 := F25.same W24
  have N24 := Fr.snoc X24 N21 gg_p0
  have K27 : Keep h0 h24 [p0] := K20.wr W24 (Or.inl (List.mem_of_getElem? (i := 0) rfl))
  refine own_via (T24.setTop (mkF m 40 #[.val (.ref p0), .val (.int p1), .val (.ref p2)] [])) (fun t k => st24 t k) ?_
  refine own_leaveW (s := s) (vm₁ := T19.vm) X24 hSi19 (by rw [e24]; exact (Nat.le_trans hki19 (Keep.of_wr W24).1)) Bd.notSynchronized (v := none) (fun _ => rfl) (fun fs hr => X24.returnOut hx Bd.returns (hb hby d2_40) hr) ?_ (by decide) (by decide)
  have F28 := (F26.wr W24)
  have F29 := ((Fw17.ext E19).other W24 (Or.inr (slot_ne (Or.inr (hw _ (List.mem_of_getElem? (i := 18) rfl))) (Or.inr (hw _ (List.mem_of_getElem? (i := 34) rfl))) (by decide) (t := .int) (t' := (.object "com/example/denary/denary/context/RoundingMode")) (by decide) (by decide))))
  show (own_Q2 Z p0 p1 p2  h0 n0) _ T24.heap _
  rw [e24]
  exact ⟨rfl, N24, K27, F28, F29, Fw24⟩
theorem d8_0 : decode jdk_18_method_1_code 0 = .ok (.aload_n 0, 1) := by decide +kernel
theorem d8_1 : decode jdk_18_method_1_code 1 = .ok (.invokespecial 1, 3) := by decide +kernel
theorem d8_4 : decode jdk_18_method_1_code 4 = .ok (.return_, 1) := by decide +kernel
theorem pn_java_lang_Number : plainName "java/lang/Number" = true := by first | (simp [plainName, overriddenIn]; done) | decide +kernel
theorem ef_8 (m : MethodId) (p0 : Addr) : entryFrame m #[(.ref p0)] 1 = mkF m 0 #[.val (.ref p0)] [] := by first | (simp [entryFrame, mkF, argsToLocals, Value.category]; done) | rfl
set_option maxRecDepth 65536 in
set_option maxHeartbeats 40000000 in
theorem rm8 (l : Launch) (Z : State) (a0 : Array Value) (hw : ∀ d ∈ tables_1, d.before a0 Z = true) (ws : List Jvm.Cond) (p0 : Addr) (h0 : Heap) (n0 : Nat) (Z0 : n0 ≤ h0.size)  :
    MetFree l (⟨"java/lang/Number", "<init>", "()V"⟩ : MethodName) (head1 (Jvm.Cond.code (⟨"java/lang/Number", "<init>", "()V"⟩ : MethodName) jdk_18_method_1_code 1 none :: ws) ({ frames := 1, cells := 0, slots := 0, locals := 12 } : Room)) (fun a U => a = #[(.ref p0)] ∧ Z.Warmed39 U.vm ∧ U.heap = h0) (fun _ _ _ _ _ => True) (fun _ U o U' => ∃ v L, o = .returned v ∧ (own_Q none h0 n0) v U'.heap L ∧ FrameEnd U o U' L ({ frames := 1, cells := 0, slots := 0, locals := 12 } : Room).cells ({ frames := 1, cells := 0, slots := 0, locals := 12 } : Room).slots) := by
  refine MetFree.of_bodySF (plainFor_of_name pn_java_lang_Number) hisR ?_
  intro p e s m args below meth c s₁ Bd hml0 hP hK
  obtain ⟨rfl, hZ, hh⟩ := hP
  have hx := Bd.exec
  have hby := Bd.bytes
  have hml : c.maxLocals = 1 := hml0
  have hown : s.vm.findClass "java/lang/Number" = some m.cls := findClass_of_methodNamed Bd.named
  have hnm := (name_of_methodNamed Bd.named Bd.method).1
  have X0 : Stand p l e ({ frames := 1, cells := 0, slots := 0, locals := 12 } : Room) s m #[(.ref p0)] below meth c s₁ [] 0 0 := Stand.of_body Bd
  have e0 : s₁.heap = h0 := by rw [← hh, Bd.state]; rfl
  have N0 := Fr.nil n0
  refine own_body (QQ := (own_Q none h0 n0)) (ef_8 m p0) ?_
  refine own_via (s₁.setTop (mkF m 1 #[.val (.ref p0)] [(.ref p0)])) (fun t k => XS.aloadN X0.here hx rfl (hb hby d8_0) rfl rfl k) ?_
  obtain ⟨T30, X30, e30, st30⟩ := initO X0 hx hZ hown (hw _ (List.mem_of_getElem? (i := 74) rfl)) (hw _ (List.mem_of_getElem? (i := 15) rfl)) (hw _ (List.mem_of_getElem? (i := 16) rfl)) e0 (g := (mkF m 1 #[.val (.ref p0)] [(.ref p0)])) rfl (by rw [hml]; rfl) rfl (hb hby d8_1) (by decide) (W := 0) (by show 2 * 0 + _ ≤ _; exact Nat.le_of_eq rfl) (by decide)
  refine own_via (T30.setTop (mkF m 4 #[.val (.ref p0)] [])) (fun t k => st30 t k) ?_
  refine own_leave X30 Bd.notSynchronized (v := none) (fun _ => rfl) (fun fs hr => X30.returnOut hx Bd.returns (hb hby d8_4) hr) ?_ (by decide) (by decide)
  refine ⟨?_, N0, e30⟩
  rfl
def own_Q7 (Z : State) (p0 : Addr) (p1 : Int32)  (h0 : Heap) (n0 : Nat) (v : Option Value) (h : Heap) (L : List Loc) : Prop := v = none ∧ Fr n0 L ∧ Keep h0 h [p0] ∧ Exa Z h p0 "java/lang/Integer" ∧ Fld Z h p0 "java/lang/Integer" "value" "I" (.int p1)
theorem d7_0 : decode jdk_33_method_23_code 0 = .ok (.aload_n 0, 1) := by decide +kernel
theorem d7_1 : decode jdk_33_method_23_code 1 = .ok (.invokespecial 202, 3) := by decide +kernel
theorem d7_4 : decode jdk_33_method_23_code 4 = .ok (.aload_n 0, 1) := by decide +kernel
theorem d7_5 : decode jdk_33_method_23_code 5 = .ok (.iload_n 1, 1) := by decide +kernel
theorem d7_6 : decode jdk_33_method_23_code 6 = .ok (.putfield 205, 3) := by decide +kernel
theorem d7_9 : decode jdk_33_method_23_code 9 = .ok (.return_, 1) := by decide +kernel
theorem pd_1 : parseMethodDescriptor "()V" = some ⟨[], none⟩ := by decide +kernel
theorem pn_java_lang_Integer : plainName "java/lang/Integer" = true := by first | (simp [plainName, overriddenIn]; done) | decide +kernel
theorem ef_7 (m : MethodId) (p0 : Addr) (p1 : Int32) : entryFrame m #[(.ref p0), (.int p1)] 2 = mkF m 0 #[.val (.ref p0), .val (.int p1)] [] := by first | (simp [entryFrame, mkF, argsToLocals, Value.category]; done) | rfl
set_option maxRecDepth 65536 in
set_option maxHeartbeats 40000000 in
theorem rm7 (l : Launch) (Z : State) (a0 : Array Value) (hw : ∀ d ∈ tables_1, d.before a0 Z = true) (ws : List Jvm.Cond) (p0 : Addr) (p1 : Int32) (h0 : Heap) (n0 : Nat) (Z0 : n0 ≤ h0.size) (P0 : Fld Z h0 p0 "java/lang/Integer" "value" "I" (.int (0 : Int32))) (P1 : Exa Z h0 p0 "java/lang/Integer") (gg_p0 : n0 ≤ p0) :
    MetFree l (⟨"java/lang/Integer", "<init>", "(I)V"⟩ : MethodName) (head1 (Jvm.Cond.code (⟨"java/lang/Integer", "<init>", "(I)V"⟩ : MethodName) jdk_33_method_23_code 2 none :: ws) ({ frames := 2, cells := 0, slots := 0, locals := 24 } : Room)) (fun a U => a = #[(.ref p0), (.int p1)] ∧ Z.Warmed39 U.vm ∧ U.heap = h0) (fun _ _ _ _ _ => True) (fun _ U o U' => ∃ v L, o = .returned v ∧ (own_Q7 Z p0 p1  h0 n0) v U'.heap L ∧ FrameEnd U o U' L ({ frames := 2, cells := 0, slots := 0, locals := 24 } : Room).cells ({ frames := 2, cells := 0, slots := 0, locals := 24 } : Room).slots) := by
  refine MetFree.of_bodySF (plainFor_of_name pn_java_lang_Integer) hisR ?_
  intro p e s m args below meth c s₁ Bd hml0 hP hK
  obtain ⟨rfl, hZ, hh⟩ := hP
  have hx := Bd.exec
  have hby := Bd.bytes
  have hml : c.maxLocals = 2 := hml0
  have hown : s.vm.findClass "java/lang/Integer" = some m.cls := findClass_of_methodNamed Bd.named
  have hnm := (name_of_methodNamed Bd.named Bd.method).1
  have X0 : Stand p l e ({ frames := 2, cells := 0, slots := 0, locals := 24 } : Room) s m #[(.ref p0), (.int p1)] below meth c s₁ [] 0 0 := Stand.of_body Bd
  have e0 : s₁.heap = h0 := by rw [← hh, Bd.state]; rfl
  have N0 := Fr.nil n0
  refine own_body (QQ := (own_Q7 Z p0 p1  h0 n0)) (ef_7 m p0 p1) ?_
  refine own_via (s₁.setTop (mkF m 1 #[.val (.ref p0), .val (.int p1)] [(.ref p0)])) (fun t k => XS.aloadN X0.here hx rfl (hb hby d7_0) rfl rfl k) ?_
  obtain ⟨_, _, ⟨T31, L31, k31, n31⟩, -, X31, ⟨Lc31, hQ31, l31, y31, z31⟩, st31⟩ := X0.specialBack hx (y := (⟨"java/lang/Number", "<init>", "()V"⟩ : MethodName)) rfl hown (mvT hZ (hw _ (List.mem_of_getElem? (i := 68) rfl))) (mvT hZ (hw _ (List.mem_of_getElem? (i := 69) rfl))) (mvT hZ (hw _ (List.mem_of_getElem? (i := 73) rfl))) (by decide) (backOf (W := 0) (rm8 l Z a0 hw [] p0 h0 n0 (Nat.le_trans Z0 (Keep.refl h0 [p0]).1)) hZ (hw _ (List.mem_of_getElem? (i := 73) rfl)) (hw _ (List.mem_of_getElem? (i := 72) rfl)) (by decide) (by decide)) (g := (mkF m 1 #[.val (.ref p0), .val (.int p1)] [(.ref p0)])) rfl (by rw [hml]; rfl) (Steps.refl _) (a := p0) (argsL := []) (rest := []) (lenOf pd_1 rfl) rfl (by show 2 * 0 + _ ≤ _; exact Nat.le_of_eq rfl) (hb hby d7_1) (fun _ _ => ⟨rfl, e0, (by decide : 0 + 0 ≤ _), (by decide : 0 + 0 ≤ _)⟩)
  dsimp only [Pt.U, Pt.locs, Pt.cells, Pt.slots] at X31 l31 y31 z31 st31 hQ31
  rw [y31, z31] at X31
  have X31 : Stand _ _ _ _ _ _ _ _ _ _ T31 L31 0 0 := X31
  obtain ⟨rfl, N31q, e31⟩ := hQ31
  have N31 : Fr n0 L31 := by rw [l31]; exact Fr.app N0 N31q
  refine own_via (T31.setTop (mkF m 4 #[.val (.ref p0), .val (.int p1)] [])) (fun t k => st31.trans k) ?_
  refine own_via (T31.setTop (mkF m 5 #[.val (.ref p0), .val (.int p1)] [(.ref p0)])) (fun t k => XS.aloadN X31.here hx rfl (hb hby d7_4) rfl rfl k) ?_
  refine own_via (T31.setTop (mkF m 6 #[.val (.ref p0), .val (.int p1)] [(.int p1), (.ref p0)])) (fun t k => XS.iloadN X31.here hx rfl (hb hby d7_5) rfl  k) ?_
  obtain ⟨T32, h32, X32, e32, W32, st32⟩ := putF X31 hx hZ hown (host := "") (Or.inl (hw _ (List.mem_of_getElem? (i := 75) rfl))) Via.refl e31 P0 P1 (Or.inr ⟨(hw _ (List.mem_of_getElem? (i := 76) rfl)), rfl, hnm⟩) (hw _ (List.mem_of_getElem? (i := 63) rfl)) (ty := .int) (by decide) rfl rfl (g := (mkF m 6 #[.val (.ref p0), .val (.int p1)] [(.int p1), (.ref p0)])) rfl rfl (hb hby d7_6)
  have Fw32 := P0.same W32
  have N32 := Fr.snoc X32 N31 gg_p0
  have K33 : Keep h0 h32 [p0] := (Keep.refl h0 [p0]).wr W32 (Or.inl (List.mem_of_getElem? (i := 0) rfl))
  refine own_via (T32.setTop (mkF m 9 #[.val (.ref p0), .val (.int p1)] [])) (fun t k => st32 t k) ?_
  refine own_leave X32 Bd.notSynchronized (v := none) (fun _ => rfl) (fun fs hr => X32.returnOut hx Bd.returns (hb hby d7_9) hr) ?_ (by decide) (by decide)
  have F34 := (P1.wr W32)
  show (own_Q7 Z p0 p1  h0 n0) _ T32.heap _
  rw [e32]
  exact ⟨rfl, N32, K33, F34, Fw32⟩
theorem own_cidx {x : Int32} (h1 : ¬ x < (-128 : Int32)) (h2 : ¬ (127 : Int32) < x) : 0 ≤ (x + (128 : Int32)).toInt ∧ (x + (128 : Int32)).toInt < 256 := by
  have e1 : (-128 : Int32).toInt = -128 := rfl
  have e2 : (127 : Int32).toInt = 127 := rfl
  have e3 : (128 : Int32).toInt = 128 := rfl
  rw [Int32.lt_iff_toInt_lt] at h1 h2
  have := c_iadd x (128 : Int32); have := rng32 (x + (128 : Int32))
  omega
def own_Q6 (Z : State) (p0 : Int32)  (h0 : Heap) (n0 : Nat) (v : Option Value) (h : Heap) (L : List Loc) : Prop := ∃ (r : Addr), v = some (.ref r) ∧ Fr n0 L ∧ Keep h0 h [] ∧ Exa Z h r "java/lang/Integer"
theorem d6_0 : decode jdk_33_method_22_code 0 = .ok (.iload_n 0, 1) := by decide +kernel
theorem d6_1 : decode jdk_33_method_22_code 1 = .ok (.bipush (-128), 2) := by decide +kernel
theorem d6_3 : decode jdk_33_method_22_code 3 = .ok (.if_icmp .lt 20, 3) := by decide +kernel
theorem d6_6 : decode jdk_33_method_22_code 6 = .ok (.iload_n 0, 1) := by decide +kernel
theorem d6_7 : decode jdk_33_method_22_code 7 = .ok (.getstatic 191, 3) := by decide +kernel
theorem d6_10 : decode jdk_33_method_22_code 10 = .ok (.if_icmp .gt 13, 3) := by decide +kernel
theorem d6_13 : decode jdk_33_method_22_code 13 = .ok (.getstatic 195, 3) := by decide +kernel
theorem d6_16 : decode jdk_33_method_22_code 16 = .ok (.iload_n 0, 1) := by decide +kernel
theorem d6_17 : decode jdk_33_method_22_code 17 = .ok (.sipush 128, 3) := by decide +kernel
theorem d6_20 : decode jdk_33_method_22_code 20 = .ok (.iadd, 1) := by decide +kernel
theorem d6_21 : decode jdk_33_method_22_code 21 = .ok (.aaload, 1) := by decide +kernel
theorem d6_22 : decode jdk_33_method_22_code 22 = .ok (.areturn, 1) := by decide +kernel
theorem d6_23 : decode jdk_33_method_22_code 23 = .ok (.new 1, 3) := by decide +kernel
theorem d6_26 : decode jdk_33_method_22_code 26 = .ok (.dup, 1) := by decide +kernel
theorem d6_27 : decode jdk_33_method_22_code 27 = .ok (.iload_n 0, 1) := by decide +kernel
theorem d6_28 : decode jdk_33_method_22_code 28 = .ok (.invokespecial 199, 3) := by decide +kernel
theorem d6_31 : decode jdk_33_method_22_code 31 = .ok (.areturn, 1) := by decide +kernel
theorem pd_2 : parseMethodDescriptor "(I)V" = some ⟨[.int], none⟩ := by decide +kernel
theorem ef_6 (m : MethodId) (p0 : Int32) : entryFrame m #[(.int p0)] 1 = mkF m 0 #[.val (.int p0)] [] := by first | (simp [entryFrame, mkF, argsToLocals, Value.category]; done) | rfl
set_option maxRecDepth 65536 in
set_option maxHeartbeats 40000000 in
theorem rm6 (l : Launch) (Z : State) (a0 : Array Value) (hw : ∀ d ∈ tables_1, d.before a0 Z = true) (ws : List Jvm.Cond) (p0 : Int32) (h0 : Heap) (n0 : Nat) (Z0 : n0 ≤ h0.size) (hcache : own_Cache Z h0) :
    MetFree l (⟨"java/lang/Integer", "valueOf", "(I)Ljava/lang/Integer;"⟩ : MethodName) (head1 (Jvm.Cond.code (⟨"java/lang/Integer", "valueOf", "(I)Ljava/lang/Integer;"⟩ : MethodName) jdk_33_method_22_code 1 (some (.object "java/lang/Integer")) :: ws) ({ frames := 3, cells := 1, slots := 1, locals := 38 } : Room)) (fun a U => a = #[(.int p0)] ∧ Z.Warmed39 U.vm ∧ U.heap = h0) (fun _ _ _ _ _ => True) (fun _ U o U' => ∃ v L, o = .returned v ∧ (own_Q6 Z p0  h0 n0) v U'.heap L ∧ FrameEnd U o U' L ({ frames := 3, cells := 1, slots := 1, locals := 38 } : Room).cells ({ frames := 3, cells := 1, slots := 1, locals := 38 } : Room).slots) := by
  refine MetFree.of_bodySF (plainFor_of_name pn_java_lang_Integer) hisR ?_
  intro p e s m args below meth c s₁ Bd hml0 hP hK
  obtain ⟨rfl, hZ, hh⟩ := hP
  have hx := Bd.exec
  have hby := Bd.bytes
  have hml : c.maxLocals = 1 := hml0
  have hown : s.vm.findClass "java/lang/Integer" = some m.cls := findClass_of_methodNamed Bd.named
  have hnm := (name_of_methodNamed Bd.named Bd.method).1
  have X0 : Stand p l e ({ frames := 3, cells := 1, slots := 1, locals := 38 } : Room) s m #[(.int p0)] below meth c s₁ [] 0 0 := Stand.of_body Bd
  have e0 : s₁.heap = h0 := by rw [← hh, Bd.state]; rfl
  have N0 := Fr.nil n0
  refine own_body (QQ := (own_Q6 Z p0  h0 n0)) (ef_6 m p0) ?_
  obtain ⟨cA, cl, hS1, hS2, hAr, hsz, hel⟩ := hcache
  refine own_via (s₁.setTop (mkF m 1 #[.val (.int p0)] [(.int p0)])) (fun t k => XS.iloadN X0.here hx rfl (hb hby d6_0) rfl  k) ?_
  refine own_via (s₁.setTop (mkF m 3 #[.val (.int p0)] [(.int (-128 : Int32)), (.int p0)])) (fun t k => XS.bipush X0.here hx rfl (hb hby d6_1) k) ?_
  by_cases hlo : p0 < (-128 : Int32)
  · refine own_via (s₁.setTop (mkF m 23 #[.val (.int p0)] [])) (fun t k => XS.icmpYes X0.here hx rfl (pc0 := 3) (pc' := 23) rfl (hb hby d6_3) rfl (tlt hlo).1 (by decide) (by decide) k) ?_
    obtain ⟨T35, h35, X35, e35, E35, A35, D35, -, st35⟩ := newO X0 hx hZ hown (hw _ (List.mem_of_getElem? (i := 62) rfl)) (hw _ (List.mem_of_getElem? (i := 63) rfl)) (hw _ (List.mem_of_getElem? (i := 50) rfl)) e0 (g := (mkF m 23 #[.val (.int p0)] [])) rfl (hb hby d6_23) (by decide) (by decide)
    obtain ⟨b35, g35⟩ : ∃ z, z = h0.size := ⟨_, rfl⟩
    rw [← g35] at A35 D35 st35
    have gg_b35 : n0 ≤ b35 := Nat.le_trans (Nat.le_trans Z0 (Keep.refl h0 []).1) (Nat.le_of_eq g35.symm)
    have sz_b35 : h0.size ≤ b35 := Nat.le_trans (Keep.refl h0 []).1 (Nat.le_of_eq g35.symm)
    have F_value_b35 : Fld Z h35 b35 "java/lang/Integer" "value" "I" (.int (0 : Int32)) := D35 (Or.inr (hw _ (List.mem_of_getElem? (i := 76) rfl))) (ty := .int) (by decide)
    have K36 : Keep h0 h35 [] := (Keep.refl h0 []).ext E35
    refine own_via (T35.setTop (mkF m 26 #[.val (.int p0)] [(.ref b35)])) (fun t k => st35 t k) ?_
    refine own_via (T35.setTop (mkF m 27 #[.val (.int p0)] [(.ref b35), (.ref b35)])) (fun t k => XS.dup X35.here hx rfl (hb hby d6_26) rfl rfl k) ?_
    refine own_via (T35.setTop (mkF m 28 #[.val (.int p0)] [(.int p0), (.ref b35), (.ref b35)])) (fun t k => XS.iloadN X35.here hx rfl (hb hby d6_27) rfl  k) ?_
    obtain ⟨_, _, ⟨T37, L37, k37, n37⟩, -, X37, ⟨Lc37, hQ37, l37, y37, z37⟩, st37⟩ := X35.specialBack hx (y := (⟨"java/lang/Integer", "<init>", "(I)V"⟩ : MethodName)) rfl hown (mvT hZ (hw _ (List.mem_of_getElem? (i := 64) rfl))) (mvT hZ (hw _ (List.mem_of_getElem? (i := 65) rfl))) (mvT hZ (hw _ (List.mem_of_getElem? (i := 67) rfl))) (by decide) (backOf (W := 1) (rm7 l Z a0 hw [] b35 p0 h35 n0 (Nat.le_trans Z0 K36.1) F_value_b35 A35 gg_b35) hZ (hw _ (List.mem_of_getElem? (i := 67) rfl)) (hw _ (List.mem_of_getElem? (i := 50) rfl)) (by decide) (by decide)) (g := (mkF m 28 #[.val (.int p0)] [(.int p0), (.ref b35), (.ref b35)])) rfl (by rw [hml]; rfl) (Steps.refl _) (a := b35) (argsL := [(.int p0)]) (rest := [(.ref b35)]) (lenOf pd_2 rfl) rfl (by show 2 * 0 + _ ≤ _; exact Nat.le_of_eq rfl) (hb hby d6_28) (fun _ _ => ⟨rfl, e35, (by decide : 1 + 0 ≤ _), (by decide : 1 + 0 ≤ _)⟩)
    dsimp only [Pt.U, Pt.locs, Pt.cells, Pt.slots] at X37 l37 y37 z37 st37 hQ37
    rw [y37, z37] at X37
    have X37 : Stand _ _ _ _ _ _ _ _ _ _ T37 L37 1 1 := X37
    obtain ⟨h37, e37⟩ : ∃ h, T37.heap = h := ⟨_, rfl⟩
    rw [e37] at hQ37
    obtain ⟨rfl, N37q, K37q, G37_0, G37_1⟩ := hQ37
    have N37 : Fr n0 L37 := by rw [l37]; exact Fr.app N0 N37q
    have K38 : Keep h0 h37 [] := K36.trans K37q (fun x hx => (List.mem_cons.mp hx).elim (fun e => e ▸ Or.inr sz_b35) (fun hx => nomatch hx))
    refine own_via (T37.setTop (mkF m 31 #[.val (.int p0)] [(.ref b35)])) (fun t k => st37.trans k) ?_
    refine own_leave X37 Bd.notSynchronized (v := some (.ref b35)) (fun h => by rw [Bd.returns] at h; cases h) (fun fs hr => retOut X37 hx Bd.returns rfl (Or.inr (Or.inr (Or.inr (Or.inr ⟨rfl, rfl, rfl⟩)))) (hb hby d6_31) hr) ?_ (by decide) (by decide)
    show (own_Q6 Z p0  h0 n0) _ T37.heap _
    rw [e37]
    exact ⟨b35, rfl, N37, K38, G37_0⟩
  · refine own_via (s₁.setTop (mkF m 6 #[.val (.int p0)] [])) (fun t k => XS.icmpNo X0.here hx rfl (hb hby d6_3) rfl (flt hlo).1 k) ?_
    refine own_via (s₁.setTop (mkF m 7 #[.val (.int p0)] [(.int p0)])) (fun t k => XS.iloadN X0.here hx rfl (hb hby d6_6) rfl  k) ?_
    obtain ⟨T39, X39, e39, st39⟩ := getS2 X0 hx hZ hown (host := "") (Or.inl (hw _ (List.mem_of_getElem? (i := 52) rfl))) Via.refl e0 hS1 (g := (mkF m 7 #[.val (.int p0)] [(.int p0)])) rfl (hb hby d6_7)
    refine own_via (T39.setTop (mkF m 10 #[.val (.int p0)] [(.int (127 : Int32)), (.int p0)])) (fun t k => st39 t k) ?_
    by_cases hhi : (127 : Int32) < p0
    · refine own_via (T39.setTop (mkF m 23 #[.val (.int p0)] [])) (fun t k => XS.icmpYes X39.here hx rfl (pc0 := 10) (pc' := 23) rfl (hb hby d6_10) rfl (tlt hhi).2.2.1 (by decide) (by decide) k) ?_
      obtain ⟨T40, h40, X40, e40, E40, A40, D40, -, st40⟩ := newO X39 hx hZ hown (hw _ (List.mem_of_getElem? (i := 62) rfl)) (hw _ (List.mem_of_getElem? (i := 63) rfl)) (hw _ (List.mem_of_getElem? (i := 50) rfl)) e39 (g := (mkF m 23 #[.val (.int p0)] [])) rfl (hb hby d6_23) (by decide) (by decide)
      obtain ⟨b40, g40⟩ : ∃ z, z = h0.size := ⟨_, rfl⟩
      rw [← g40] at A40 D40 st40
      have gg_b40 : n0 ≤ b40 := Nat.le_trans (Nat.le_trans Z0 (Keep.refl h0 []).1) (Nat.le_of_eq g40.symm)
      have sz_b40 : h0.size ≤ b40 := Nat.le_trans (Keep.refl h0 []).1 (Nat.le_of_eq g40.symm)
      have F_value_b40 : Fld Z h40 b40 "java/lang/Integer" "value" "I" (.int (0 : Int32)) := D40 (Or.inr (hw _ (List.mem_of_getElem? (i := 76) rfl))) (ty := .int) (by decide)
      have K41 : Keep h0 h40 [] := (Keep.refl h0 []).ext E40
      refine own_via (T40.setTop (mkF m 26 #[.val (.int p0)] [(.ref b40)])) (fun t k => st40 t k) ?_
      refine own_via (T40.setTop (mkF m 27 #[.val (.int p0)] [(.ref b40), (.ref b40)])) (fun t k => XS.dup X40.here hx rfl (hb hby d6_26) rfl rfl k) ?_
      refine own_via (T40.setTop (mkF m 28 #[.val (.int p0)] [(.int p0), (.ref b40), (.ref b40)])) (fun t k => XS.iloadN X40.here hx rfl (hb hby d6_27) rfl  k) ?_
      obtain ⟨_, _, ⟨T42, L42, k42, n42⟩, -, X42, ⟨Lc42, hQ42, l42, y42, z42⟩, st42⟩ := X40.specialBack hx (y := (⟨"java/lang/Integer", "<init>", "(I)V"⟩ : MethodName)) rfl hown (mvT hZ (hw _ (List.mem_of_getElem? (i := 64) rfl))) (mvT hZ (hw _ (List.mem_of_getElem? (i := 65) rfl))) (mvT hZ (hw _ (List.mem_of_getElem? (i := 67) rfl))) (by decide) (backOf (W := 1) (rm7 l Z a0 hw [] b40 p0 h40 n0 (Nat.le_trans Z0 K41.1) F_value_b40 A40 gg_b40) hZ (hw _ (List.mem_of_getElem? (i := 67) rfl)) (hw _ (List.mem_of_getElem? (i := 50) rfl)) (by decide) (by decide)) (g := (mkF m 28 #[.val (.int p0)] [(.int p0), (.ref b40), (.ref b40)])) rfl (by rw [hml]; rfl) (Steps.refl _) (a := b40) (argsL := [(.int p0)]) (rest := [(.ref b40)]) (lenOf pd_2 rfl) rfl (by show 2 * 0 + _ ≤ _; exact Nat.le_of_eq rfl) (hb hby d6_28) (fun _ _ => ⟨rfl, e40, (by decide : 1 + 0 ≤ _), (by decide : 1 + 0 ≤ _)⟩)
      dsimp only [Pt.U, Pt.locs, Pt.cells, Pt.slots] at X42 l42 y42 z42 st42 hQ42
      rw [y42, z42] at X42
      have X42 : Stand _ _ _ _ _ _ _ _ _ _ T42 L42 1 1 := X42
      obtain ⟨h42, e42⟩ : ∃ h, T42.heap = h := ⟨_, rfl⟩
      rw [e42] at hQ42
      obtain ⟨rfl, N42q, K42q, G42_0, G42_1⟩ := hQ42
      have N42 : Fr n0 L42 := by rw [l42]; exact Fr.app N0 N42q
      have K43 : Keep h0 h42 [] := K41.trans K42q (fun x hx => (List.mem_cons.mp hx).elim (fun e => e ▸ Or.inr sz_b40) (fun hx => nomatch hx))
      refine own_via (T42.setTop (mkF m 31 #[.val (.int p0)] [(.ref b40)])) (fun t k => st42.trans k) ?_
      refine own_leave X42 Bd.notSynchronized (v := some (.ref b40)) (fun h => by rw [Bd.returns] at h; cases h) (fun fs hr => retOut X42 hx Bd.returns rfl (Or.inr (Or.inr (Or.inr (Or.inr ⟨rfl, rfl, rfl⟩)))) (hb hby d6_31) hr) ?_ (by decide) (by decide)
      show (own_Q6 Z p0  h0 n0) _ T42.heap _
      rw [e42]
      exact ⟨b40, rfl, N42, K43, G42_0⟩
    · refine own_via (T39.setTop (mkF m 13 #[.val (.int p0)] [])) (fun t k => XS.icmpNo X39.here hx rfl (hb hby d6_10) rfl (flt hhi).2.2.1 k) ?_
      obtain ⟨T44, X44, e44, st44⟩ := getS2 X39 hx hZ hown (host := "") (Or.inl (hw _ (List.mem_of_getElem? (i := 54) rfl))) Via.refl e39 hS2 (g := (mkF m 13 #[.val (.int p0)] [])) rfl (hb hby d6_13)
      refine own_via (T44.setTop (mkF m 16 #[.val (.int p0)] [(.ref cA)])) (fun t k => st44 t k) ?_
      refine own_via (T44.setTop (mkF m 17 #[.val (.int p0)] [(.int p0), (.ref cA)])) (fun t k => XS.iloadN X44.here hx rfl (hb hby d6_16) rfl  k) ?_
      refine own_via (T44.setTop (mkF m 20 #[.val (.int p0)] [(.int (128 : Int32)), (.int p0), (.ref cA)])) (fun t k => XS.sipush X44.here hx rfl (hb hby d6_17) k) ?_
      refine own_via (T44.setTop (mkF m 21 #[.val (.int p0)] [(.int (p0 + (128 : Int32))), (.ref cA)])) (fun t k => XS.iadd X44.here hx rfl (hb hby d6_20) rfl k) ?_
      have hj := own_cidx hlo hhi
      obtain ⟨bI, hbI, EI⟩ := hel ((p0 + (128 : Int32))).toNatClampNeg (by have ek : ((p0 + (128 : Int32))).toNatClampNeg = ((p0 + (128 : Int32))).toInt.toNat := rfl; omega)
      refine own_via (T44.setTop (mkF m 22 #[.val (.int p0)] [(.ref bI)])) (fun t k => X44.aaload hx (j := (p0 + (128 : Int32))) (v := (.ref bI)) (by rw [e44]; exact hAr.1) (State.isArrayOf_alike hZ.alike hAr.2.1) rfl hAr.2.2 (own_in hsz hj) hbI (g := (mkF m 21 #[.val (.int p0)] [(.int (p0 + (128 : Int32))), (.ref cA)])) rfl rfl (hb hby d6_21) _ k) ?_
      refine own_leave X44 Bd.notSynchronized (v := some (.ref bI)) (fun h => by rw [Bd.returns] at h; cases h) (fun fs hr => retOut X44 hx Bd.returns rfl (Or.inr (Or.inr (Or.inr (Or.inr ⟨rfl, rfl, rfl⟩)))) (hb hby d6_22) hr) ?_ (by decide) (by decide)
      show (own_Q6 Z p0  h0 n0) _ T44.heap _
      rw [e44]
      exact ⟨bI, rfl, N0, (Keep.refl h0 []), EI⟩
def own_Q5s (Z : State) (p0 : Addr)  (h0 : Heap) (n0 : Nat) (v : Option Value) (h : Heap) (L : List Loc) : Prop := v = some (.int (1 : Int32)) ∧ Fr n0 L ∧ h = h0
theorem d5_0 : decode prog_29_method_9_code 0 = .ok (.aload_n 0, 1) := by decide +kernel
theorem d5_1 : decode prog_29_method_9_code 1 = .ok (.aload_n 1, 1) := by decide +kernel
theorem d5_2 : decode prog_29_method_9_code 2 = .ok (.if_acmp .ne 5, 3) := by decide +kernel
theorem d5_5 : decode prog_29_method_9_code 5 = .ok (.iconst 1, 1) := by decide +kernel
theorem d5_6 : decode prog_29_method_9_code 6 = .ok (.ireturn, 1) := by decide +kernel
theorem ef_5s (m : MethodId) (p0 : Addr) : entryFrame m #[(.ref p0), (.ref p0)] 3 = mkF m 0 #[.val (.ref p0), .val (.ref p0), .unset] [] := by first | (simp [entryFrame, mkF, argsToLocals, Value.category]; done) | rfl
set_option maxRecDepth 65536 in
set_option maxHeartbeats 40000000 in
theorem rm5s (l : Launch) (Z : State) (a0 : Array Value) (hw : ∀ d ∈ tables_1, d.before a0 Z = true) (ws : List Jvm.Cond) (p0 : Addr) (h0 : Heap) (n0 : Nat) (Z0 : n0 ≤ h0.size)  :
    MetFree l (⟨"com/example/denary/denary/context/MathContext", "equals", "(Ljava/lang/Object;)Z"⟩ : MethodName) (head1 (Jvm.Cond.code (⟨"com/example/denary/denary/context/MathContext", "equals", "(Ljava/lang/Object;)Z"⟩ : MethodName) prog_29_method_9_code 3 (some .boolean) :: ws) ({ frames := 0, cells := 0, slots := 0, locals := 0 } : Room)) (fun a U => a = #[(.ref p0), (.ref p0)] ∧ Z.Warmed39 U.vm ∧ U.heap = h0) (fun _ _ _ _ _ => True) (fun _ U o U' => ∃ v L, o = .returned v ∧ (own_Q5s Z p0  h0 n0) v U'.heap L ∧ FrameEnd U o U' L ({ frames := 0, cells := 0, slots := 0, locals := 0 } : Room).cells ({ frames := 0, cells := 0, slots := 0, locals := 0 } : Room).slots) := by
  refine MetFree.of_bodySF (plainFor_of_name pn_com_example_denary_denary_context_MathContext) hisR ?_
  intro p e s m args below meth c s₁ Bd hml0 hP hK
  obtain ⟨rfl, hZ, hh⟩ := hP
  have hx := Bd.exec
  have hby := Bd.bytes
  have hml : c.maxLocals = 3 := hml0
  have hown : s.vm.findClass "com/example/denary/denary/context/MathContext" = some m.cls := findClass_of_methodNamed Bd.named
  have hnm := (name_of_methodNamed Bd.named Bd.method).1
  have X0 : Stand p l e ({ frames := 0, cells := 0, slots := 0, locals := 0 } : Room) s m #[(.ref p0), (.ref p0)] below meth c s₁ [] 0 0 := Stand.of_body Bd
  have e0 : s₁.heap = h0 := by rw [← hh, Bd.state]; rfl
  have N0 := Fr.nil n0
  refine own_body (QQ := (own_Q5s Z p0  h0 n0)) (ef_5s m p0) ?_
  refine own_via (s₁.setTop (mkF m 1 #[.val (.ref p0), .val (.ref p0), .unset] [(.ref p0)])) (fun t k => XS.aloadN X0.here hx rfl (hb hby d5_0) rfl rfl k) ?_
  refine own_via (s₁.setTop (mkF m 2 #[.val (.ref p0), .val (.ref p0), .unset] [(.ref p0), (.ref p0)])) (fun t k => XS.aloadN X0.here hx rfl (hb hby d5_1) rfl rfl k) ?_
  refine own_via (s₁.setTop (mkF m 5 #[.val (.ref p0), .val (.ref p0), .unset] [])) (fun t k => Jvm.RoadKit.acmp (g := (mkF m 2 #[.val (.ref p0), .val (.ref p0), .unset] [(.ref p0), (.ref p0)])) X0 hx rfl rfl rfl (pc0 := 2) (pc' := 5) (same := true) rfl (hb hby d5_2) rfl (decide_eq_true rfl) (by decide) (by decide) k) ?_
  refine own_via (s₁.setTop (mkF m 6 #[.val (.ref p0), .val (.ref p0), .unset] [(.int (1 : Int32))])) (fun t k => XS.iconst X0.here hx rfl (hb hby d5_5) k) ?_
  refine own_leave X0 Bd.notSynchronized (v := some (.int (1 : Int32))) (fun h => by rw [Bd.returns] at h; cases h) (fun fs hr => retN X0 hx (t := .boolean) Bd.returns (by simp) (hb hby d5_6) hr) ?_ (by decide) (by decide)
  exact ⟨rfl, N0, e0⟩
def own_Q5n (Z : State) (p0 : Addr)  (h0 : Heap) (n0 : Nat) (v : Option Value) (h : Heap) (L : List Loc) : Prop := v = some (.int (0 : Int32)) ∧ Fr n0 L ∧ h = h0
theorem d5_7 : decode prog_29_method_9_code 7 = .ok (.aload_n 1, 1) := by decide +kernel
theorem d5_8 : decode prog_29_method_9_code 8 = .ok (.instanceof 8, 3) := by decide +kernel
theorem d5_11 : decode prog_29_method_9_code 11 = .ok (.ifCond .ne 5, 3) := by decide +kernel
theorem d5_14 : decode prog_29_method_9_code 14 = .ok (.iconst 0, 1) := by decide +kernel
theorem d5_15 : decode prog_29_method_9_code 15 = .ok (.ireturn, 1) := by decide +kernel
theorem ef_5n (m : MethodId) (p0 : Addr) : entryFrame m #[(.ref p0), .null] 3 = mkF m 0 #[.val (.ref p0), .val .null, .unset] [] := by first | (simp [entryFrame, mkF, argsToLocals, Value.category]; done) | rfl
set_option maxRecDepth 65536 in
set_option maxHeartbeats 40000000 in
theorem rm5n (l : Launch) (Z : State) (a0 : Array Value) (hw : ∀ d ∈ tables_1, d.before a0 Z = true) (ws : List Jvm.Cond) (p0 : Addr) (h0 : Heap) (n0 : Nat) (Z0 : n0 ≤ h0.size)  :
    MetFree l (⟨"com/example/denary/denary/context/MathContext", "equals", "(Ljava/lang/Object;)Z"⟩ : MethodName) (head1 (Jvm.Cond.code (⟨"com/example/denary/denary/context/MathContext", "equals", "(Ljava/lang/Object;)Z"⟩ : MethodName) prog_29_method_9_code 3 (some .boolean) :: ws) ({ frames := 0, cells := 0, slots := 0, locals := 0 } : Room)) (fun a U => a = #[(.ref p0), .null] ∧ Z.Warmed39 U.vm ∧ U.heap = h0) (fun _ _ _ _ _ => True) (fun _ U o U' => ∃ v L, o = .returned v ∧ (own_Q5n Z p0  h0 n0) v U'.heap L ∧ FrameEnd U o U' L ({ frames := 0, cells := 0, slots := 0, locals := 0 } : Room).cells ({ frames := 0, cells := 0, slots := 0, locals := 0 } : Room).slots) := by
  refine MetFree.of_bodySF (plainFor_of_name pn_com_example_denary_denary_context_MathContext) hisR ?_
  intro p e s m args below meth c s₁ Bd hml0 hP hK
  obtain ⟨rfl, hZ, hh⟩ := hP
  have hx := Bd.exec
  have hby := Bd.bytes
  have hml : c.maxLocals = 3 := hml0
  have hown : s.vm.findClass "com/example/denary/denary/context/MathContext" = some m.cls := findClass_of_methodNamed Bd.named
  have hnm := (name_of_methodNamed Bd.named Bd.method).1
  have X0 : Stand p l e ({ frames := 0, cells := 0, slots := 0, locals := 0 } : Room) s m #[(.ref p0), .null] below meth c s₁ [] 0 0 := Stand.of_body Bd
  have e0 : s₁.heap = h0 := by rw [← hh, Bd.state]; rfl
  have N0 := Fr.nil n0
  refine own_body (QQ := (own_Q5n Z p0  h0 n0)) (ef_5n m p0) ?_
  refine own_via (s₁.setTop (mkF m 1 #[.val (.ref p0), .val .null, .unset] [(.ref p0)])) (fun t k => XS.aloadN X0.here hx rfl (hb hby d5_0) rfl rfl k) ?_
  refine own_via (s₁.setTop (mkF m 2 #[.val (.ref p0), .val .null, .unset] [.null, (.ref p0)])) (fun t k => XS.aloadN X0.here hx rfl (hb hby d5_1) rfl rfl k) ?_
  refine own_via (s₁.setTop (mkF m 7 #[.val (.ref p0), .val .null, .unset] [])) (fun t k => Jvm.RoadKit.acmp (g := (mkF m 2 #[.val (.ref p0), .val .null, .unset] [.null, (.ref p0)])) X0 hx rfl rfl rfl (pc0 := 2) (pc' := 7) (same := false) rfl (hb hby d5_2) rfl (decide_eq_false nofun) (by decide) (by decide) k) ?_
  refine own_via (s₁.setTop (mkF m 8 #[.val (.ref p0), .val .null, .unset] [.null])) (fun t k => XS.aloadN X0.here hx rfl (hb hby d5_7) rfl rfl k) ?_
  refine own_via (s₁.setTop (mkF m 11 #[.val (.ref p0), .val .null, .unset] [(.int (0 : Int32))])) (fun t k => X0.instanceofNull hx (g := (mkF m 8 #[.val (.ref p0), .val .null, .unset] [.null])) rfl rfl (hb hby d5_8) _ k) ?_
  refine own_via (s₁.setTop (mkF m 14 #[.val (.ref p0), .val .null, .unset] [])) (fun t k => XS.ifNo X0.here hx rfl (hb hby d5_11) rfl ((if0 _ _).trans (teq (by decide)).2) k) ?_
  refine own_via (s₁.setTop (mkF m 15 #[.val (.ref p0), .val .null, .unset] [(.int (0 : Int32))])) (fun t k => XS.iconst X0.here hx rfl (hb hby d5_14) k) ?_
  refine own_leave X0 Bd.notSynchronized (v := some (.int (0 : Int32))) (fun h => by rw [Bd.returns] at h; cases h) (fun fs hr => retN X0 hx (t := .boolean) Bd.returns (by simp) (hb hby d5_15) hr) ?_ (by decide) (by decide)
  exact ⟨rfl, N0, e0⟩
def own_Q5i (Z : State) (p0 : Addr) (p1 : Addr)  (h0 : Heap) (n0 : Nat) (v : Option Value) (h : Heap) (L : List Loc) : Prop := v = some (.int (0 : Int32)) ∧ Fr n0 L ∧ h = h0
theorem ef_5i (m : MethodId) (p0 : Addr) (p1 : Addr) : entryFrame m #[(.ref p0), (.ref p1)] 3 = mkF m 0 #[.val (.ref p0), .val (.ref p1), .unset] [] := by first | (simp [entryFrame, mkF, argsToLocals, Value.category]; done) | rfl
set_option maxRecDepth 65536 in
set_option maxHeartbeats 40000000 in
theorem rm5i (l : Launch) (Z : State) (a0 : Array Value) (hw : ∀ d ∈ tables_1, d.before a0 Z = true) (ws : List Jvm.Cond) (p0 : Addr) (p1 : Addr) (h0 : Heap) (n0 : Nat) (Z0 : n0 ≤ h0.size) (P0 : Exa Z h0 p1 "java/lang/Integer") (hno : ∃ c t, Z.vm.findClass "java/lang/Integer" = some c ∧ Z.vm.findClass "com/example/denary/denary/context/MathContext" = some t ∧ Z.vm.assignable c t = false) (hne : p0 ≠ p1) :
    MetFree l (⟨"com/example/denary/denary/context/MathContext", "equals", "(Ljava/lang/Object;)Z"⟩ : MethodName) (head1 (Jvm.Cond.code (⟨"com/example/denary/denary/context/MathContext", "equals", "(Ljava/lang/Object;)Z"⟩ : MethodName) prog_29_method_9_code 3 (some .boolean) :: ws) ({ frames := 0, cells := 0, slots := 0, locals := 0 } : Room)) (fun a U => a = #[(.ref p0), (.ref p1)] ∧ Z.Warmed39 U.vm ∧ U.heap = h0) (fun _ _ _ _ _ => True) (fun _ U o U' => ∃ v L, o = .returned v ∧ (own_Q5i Z p0 p1  h0 n0) v U'.heap L ∧ FrameEnd U o U' L ({ frames := 0, cells := 0, slots := 0, locals := 0 } : Room).cells ({ frames := 0, cells := 0, slots := 0, locals := 0 } : Room).slots) := by
  refine MetFree.of_bodySF (plainFor_of_name pn_com_example_denary_denary_context_MathContext) hisR ?_
  intro p e s m args below meth c s₁ Bd hml0 hP hK
  obtain ⟨rfl, hZ, hh⟩ := hP
  have hx := Bd.exec
  have hby := Bd.bytes
  have hml : c.maxLocals = 3 := hml0
  have hown : s.vm.findClass "com/example/denary/denary/context/MathContext" = some m.cls := findClass_of_methodNamed Bd.named
  have hnm := (name_of_methodNamed Bd.named Bd.method).1
  have X0 : Stand p l e ({ frames := 0, cells := 0, slots := 0, locals := 0 } : Room) s m #[(.ref p0), (.ref p1)] below meth c s₁ [] 0 0 := Stand.of_body Bd
  have e0 : s₁.heap = h0 := by rw [← hh, Bd.state]; rfl
  have N0 := Fr.nil n0
  refine own_body (QQ := (own_Q5i Z p0 p1  h0 n0)) (ef_5i m p0 p1) ?_
  refine own_via (s₁.setTop (mkF m 1 #[.val (.ref p0), .val (.ref p1), .unset] [(.ref p0)])) (fun t k => XS.aloadN X0.here hx rfl (hb hby d5_0) rfl rfl k) ?_
  refine own_via (s₁.setTop (mkF m 2 #[.val (.ref p0), .val (.ref p1), .unset] [(.ref p1), (.ref p0)])) (fun t k => XS.aloadN X0.here hx rfl (hb hby d5_1) rfl rfl k) ?_
  refine own_via (s₁.setTop (mkF m 7 #[.val (.ref p0), .val (.ref p1), .unset] [])) (fun t k => Jvm.RoadKit.acmp (g := (mkF m 2 #[.val (.ref p0), .val (.ref p1), .unset] [(.ref p1), (.ref p0)])) X0 hx rfl rfl rfl (pc0 := 2) (pc' := 7) (same := false) rfl (hb hby d5_2) rfl (decide_eq_false fun q => hne (Value.ref.inj q)) (by decide) (by decide) k) ?_
  refine own_via (s₁.setTop (mkF m 8 #[.val (.ref p0), .val (.ref p1), .unset] [(.ref p1)])) (fun t k => XS.aloadN X0.here hx rfl (hb hby d5_7) rfl rfl k) ?_
  obtain ⟨T46, X46, e46, st46⟩ := instNo X0 hx hZ hown (hw _ (List.mem_of_getElem? (i := 44) rfl)) e0 P0 hno (g := (mkF m 8 #[.val (.ref p0), .val (.ref p1), .unset] [(.ref p1)])) rfl rfl (hb hby d5_8)
  refine own_via (T46.setTop (mkF m 11 #[.val (.ref p0), .val (.ref p1), .unset] [(.int (0 : Int32))])) (fun t k => st46 t k) ?_
  refine own_via (T46.setTop (mkF m 14 #[.val (.ref p0), .val (.ref p1), .unset] [])) (fun t k => XS.ifNo X46.here hx rfl (hb hby d5_11) rfl ((if0 _ _).trans (teq (by decide)).2) k) ?_
  refine own_via (T46.setTop (mkF m 15 #[.val (.ref p0), .val (.ref p1), .unset] [(.int (0 : Int32))])) (fun t k => XS.iconst X46.here hx rfl (hb hby d5_14) k) ?_
  refine own_leave X46 Bd.notSynchronized (v := some (.int (0 : Int32))) (fun h => by rw [Bd.returns] at h; cases h) (fun fs hr => retN X46 hx (t := .boolean) Bd.returns (by simp) (hb hby d5_15) hr) ?_ (by decide) (by decide)
  exact ⟨rfl, N0, e46⟩
def own_Q5r (Z : State) (p0 : Addr) (p1 : Addr)  (h0 : Heap) (n0 : Nat) (v : Option Value) (h : Heap) (L : List Loc) : Prop := v = some (.int (0 : Int32)) ∧ Fr n0 L ∧ h = h0
theorem ef_5r (m : MethodId) (p0 : Addr) (p1 : Addr) : entryFrame m #[(.ref p0), (.ref p1)] 3 = mkF m 0 #[.val (.ref p0), .val (.ref p1), .unset] [] := by first | (simp [entryFrame, mkF, argsToLocals, Value.category]; done) | rfl
set_option maxRecDepth 65536 in
set_option maxHeartbeats 40000000 in
theorem rm5r (l : Launch) (Z : State) (a0 : Array Value) (hw : ∀ d ∈ tables_1, d.before a0 Z = true) (ws : List Jvm.Cond) (p0 : Addr) (p1 : Addr) (h0 : Heap) (n0 : Nat) (Z0 : n0 ≤ h0.size) (P0 : Exa Z h0 p1 "com/example/denary/denary/context/RoundingMode") (hnr : ∃ c t, Z.vm.findClass "com/example/denary/denary/context/RoundingMode" = some c ∧ Z.vm.findClass "com/example/denary/denary/context/MathContext" = some t ∧ Z.vm.assignable c t = false) (hne : p0 ≠ p1) :
    MetFree l (⟨"com/example/denary/denary/context/MathContext", "equals", "(Ljava/lang/Object;)Z"⟩ : MethodName) (head1 (Jvm.Cond.code (⟨"com/example/denary/denary/context/MathContext", "equals", "(Ljava/lang/Object;)Z"⟩ : MethodName) prog_29_method_9_code 3 (some .boolean) :: ws) ({ frames := 0, cells := 0, slots := 0, locals := 0 } : Room)) (fun a U => a = #[(.ref p0), (.ref p1)] ∧ Z.Warmed39 U.vm ∧ U.heap = h0) (fun _ _ _ _ _ => True) (fun _ U o U' => ∃ v L, o = .returned v ∧ (own_Q5r Z p0 p1  h0 n0) v U'.heap L ∧ FrameEnd U o U' L ({ frames := 0, cells := 0, slots := 0, locals := 0 } : Room).cells ({ frames := 0, cells := 0, slots := 0, locals := 0 } : Room).slots) := by
  refine MetFree.of_bodySF (plainFor_of_name pn_com_example_denary_denary_context_MathContext) hisR ?_
  intro p e s m args below meth c s₁ Bd hml0 hP hK
  obtain ⟨rfl, hZ, hh⟩ := hP
  have hx := Bd.exec
  have hby := Bd.bytes
  have hml : c.maxLocals = 3 := hml0
  have hown : s.vm.findClass "com/example/denary/denary/context/MathContext" = some m.cls := findClass_of_methodNamed Bd.named
  have hnm := (name_of_methodNamed Bd.named Bd.method).1
  have X0 : Stand p l e ({ frames := 0, cells := 0, slots := 0, locals := 0 } : Room) s m #[(.ref p0), (.ref p1)] below meth c s₁ [] 0 0 := Stand.of_body Bd
  have e0 : s₁.heap = h0 := by rw [← hh, Bd.state]; rfl
  have N0 := Fr.nil n0
  refine own_body (QQ := (own_Q5r Z p0 p1  h0 n0)) (ef_5r m p0 p1) ?_
  refine own_via (s₁.setTop (mkF m 1 #[.val (.ref p0), .val (.ref p1), .unset] [(.ref p0)])) (fun t k => XS.aloadN X0.here hx rfl (hb hby d5_0) rfl rfl k) ?_
  refine own_via (s₁.setTop (mkF m 2 #[.val (.ref p0), .val (.ref p1), .unset] [(.ref p1), (.ref p0)])) (fun t k => XS.aloadN X0.here hx rfl (hb hby d5_1) rfl rfl k) ?_
  refine own_via (s₁.setTop (mkF m 7 #[.val (.ref p0), .val (.ref p1), .unset] [])) (fun t k => Jvm.RoadKit.acmp (g := (mkF m 2 #[.val (.ref p0), .val (.ref p1), .unset] [(.ref p1), (.ref p0)])) X0 hx rfl rfl rfl (pc0 := 2) (pc' := 7) (same := false) rfl (hb hby d5_2) rfl (decide_eq_false fun q => hne (Value.ref.inj q)) (by decide) (by decide) k) ?_
  refine own_via (s₁.setTop (mkF m 8 #[.val (.ref p0), .val (.ref p1), .unset] [(.ref p1)])) (fun t k => XS.aloadN X0.here hx rfl (hb hby d5_7) rfl rfl k) ?_
  obtain ⟨T47, X47, e47, st47⟩ := instNo X0 hx hZ hown (hw _ (List.mem_of_getElem? (i := 44) rfl)) e0 P0 hnr (g := (mkF m 8 #[.val (.ref p0), .val (.ref p1), .unset] [(.ref p1)])) rfl rfl (hb hby d5_8)
  refine own_via (T47.setTop (mkF m 11 #[.val (.ref p0), .val (.ref p1), .unset] [(.int (0 : Int32))])) (fun t k => st47 t k) ?_
  refine own_via (T47.setTop (mkF m 14 #[.val (.ref p0), .val (.ref p1), .unset] [])) (fun t k => XS.ifNo X47.here hx rfl (hb hby d5_11) rfl ((if0 _ _).trans (teq (by decide)).2) k) ?_
  refine own_via (T47.setTop (mkF m 15 #[.val (.ref p0), .val (.ref p1), .unset] [(.int (0 : Int32))])) (fun t k => XS.iconst X47.here hx rfl (hb hby d5_14) k) ?_
  refine own_leave X47 Bd.notSynchronized (v := some (.int (0 : Int32))) (fun h => by rw [Bd.returns] at h; cases h) (fun fs hr => retN X47 hx (t := .boolean) Bd.returns (by simp) (hb hby d5_15) hr) ?_ (by decide) (by decide)
  exact ⟨rfl, N0, e47⟩
def own_Q5 (Z : State) (p0 : Addr) (p1 : Addr) (pr0 : Int32) (pr1 : Int32) (r0 : Addr) (r1 : Addr) (h0 : Heap) (n0 : Nat) (v : Option Value) (h : Heap) (L : List Loc) : Prop := v = some (.int (own_eqm pr0 pr1 r0 r1)) ∧ Fr n0 L ∧ h = h0
theorem d5_16 : decode prog_29_method_9_code 16 = .ok (.aload_n 1, 1) := by decide +kernel
theorem d5_17 : decode prog_29_method_9_code 17 = .ok (.checkcast 8, 3) := by decide +kernel
theorem d5_20 : decode prog_29_method_9_code 20 = .ok (.astore_n 2, 1) := by decide +kernel
theorem d5_21 : decode prog_29_method_9_code 21 = .ok (.aload_n 0, 1) := by decide +kernel
theorem d5_22 : decode prog_29_method_9_code 22 = .ok (.getfield 27, 3) := by decide +kernel
theorem d5_25 : decode prog_29_method_9_code 25 = .ok (.aload_n 2, 1) := by decide +kernel
theorem d5_26 : decode prog_29_method_9_code 26 = .ok (.getfield 27, 3) := by decide +kernel
theorem d5_29 : decode prog_29_method_9_code 29 = .ok (.if_icmp .ne 18, 3) := by decide +kernel
theorem d5_32 : decode prog_29_method_9_code 32 = .ok (.aload_n 0, 1) := by decide +kernel
theorem d5_33 : decode prog_29_method_9_code 33 = .ok (.getfield 39, 3) := by decide +kernel
theorem d5_36 : decode prog_29_method_9_code 36 = .ok (.aload_n 2, 1) := by decide +kernel
theorem d5_37 : decode prog_29_method_9_code 37 = .ok (.getfield 39, 3) := by decide +kernel
theorem d5_40 : decode prog_29_method_9_code 40 = .ok (.if_acmp .ne 7, 3) := by decide +kernel
theorem d5_43 : decode prog_29_method_9_code 43 = .ok (.iconst 1, 1) := by decide +kernel
theorem d5_44 : decode prog_29_method_9_code 44 = .ok (.goto 4, 3) := by decide +kernel
theorem d5_47 : decode prog_29_method_9_code 47 = .ok (.iconst 0, 1) := by decide +kernel
theorem d5_48 : decode prog_29_method_9_code 48 = .ok (.ireturn, 1) := by decide +kernel
theorem ef_5 (m : MethodId) (p0 : Addr) (p1 : Addr) : entryFrame m #[(.ref p0), (.ref p1)] 3 = mkF m 0 #[.val (.ref p0), .val (.ref p1), .unset] [] := by first | (simp [entryFrame, mkF, argsToLocals, Value.category]; done) | rfl
set_option maxRecDepth 65536 in
set_option maxHeartbeats 40000000 in
theorem rm5 (l : Launch) (Z : State) (a0 : Array Value) (hw : ∀ d ∈ tables_1, d.before a0 Z = true) (ws : List Jvm.Cond) (p0 : Addr) (p1 : Addr) (h0 : Heap) (n0 : Nat) (Z0 : n0 ≤ h0.size) (pr0 : Int32) (pr1 : Int32) (r0 : Addr) (r1 : Addr) (P0 : Fld Z h0 p0 "com/example/denary/denary/context/MathContext" "precision" "I" (.int pr0)) (P1 : Fld Z h0 p1 "com/example/denary/denary/context/MathContext" "precision" "I" (.int pr1)) (P2 : Fld Z h0 p0 "com/example/denary/denary/context/MathContext" "roundingMode" "Lcom/example/denary/denary/context/RoundingMode;" (.ref r0)) (P3 : Fld Z h0 p1 "com/example/denary/denary/context/MathContext" "roundingMode" "Lcom/example/denary/denary/context/RoundingMode;" (.ref r1)) (P4 : Exa Z h0 p1 "com/example/denary/denary/context/MathContext") (hne : p0 ≠ p1) :
    MetFree l (⟨"com/example/denary/denary/context/MathContext", "equals", "(Ljava/lang/Object;)Z"⟩ : MethodName) (head1 (Jvm.Cond.code (⟨"com/example/denary/denary/context/MathContext", "equals", "(Ljava/lang/Object;)Z"⟩ : MethodName) prog_29_method_9_code 3 (some .boolean) :: ws) ({ frames := 0, cells := 0, slots := 0, locals := 0 } : Room)) (fun a U => a = #[(.ref p0), (.ref p1)] ∧ Z.Warmed39 U.vm ∧ U.heap = h0) (fun _ _ _ _ _ => True) (fun _ U o U' => ∃ v L, o = .returned v ∧ (own_Q5 Z p0 p1 pr0 pr1 r0 r1 h0 n0) v U'.heap L ∧ FrameEnd U o U' L ({ frames := 0, cells := 0, slots := 0, locals := 0 } : Room).cells ({ frames := 0, cells := 0, slots := 0, locals := 0 } : Room).slots) := by
  refine MetFree.of_bodySF (plainFor_of_name pn_com_example_denary_denary_context_MathContext) hisR ?_
  intro p e s m args below meth c s₁ Bd hml0 hP hK
  obtain ⟨rfl, hZ, hh⟩ := hP
  have hx := Bd.exec
  have hby := Bd.bytes
  have hml : c.maxLocals = 3 := hml0
  have hown : s.vm.findClass "com/example/denary/denary/context/MathContext" = some m.cls := findClass_of_methodNamed Bd.named
  have hnm := (name_of_methodNamed Bd.named Bd.method).1
  have X0 : Stand p l e ({ frames := 0, cells := 0, slots := 0, locals := 0 } : Room) s m #[(.ref p0), (.ref p1)] below meth c s₁ [] 0 0 := Stand.of_body Bd
  have e0 : s₁.heap = h0 := by rw [← hh, Bd.state]; rfl
  have N0 := Fr.nil n0
  refine own_body (QQ := (own_Q5 Z p0 p1 pr0 pr1 r0 r1 h0 n0)) (ef_5 m p0 p1) ?_
  refine own_via (s₁.setTop (mkF m 1 #[.val (.ref p0), .val (.ref p1), .unset] [(.ref p0)])) (fun t k => XS.aloadN X0.here hx rfl (hb hby d5_0) rfl rfl k) ?_
  refine own_via (s₁.setTop (mkF m 2 #[.val (.ref p0), .val (.ref p1), .unset] [(.ref p1), (.ref p0)])) (fun t k => XS.aloadN X0.here hx rfl (hb hby d5_1) rfl rfl k) ?_
  refine own_via (s₁.setTop (mkF m 7 #[.val (.ref p0), .val (.ref p1), .unset] [])) (fun t k => Jvm.RoadKit.acmp (g := (mkF m 2 #[.val (.ref p0), .val (.ref p1), .unset] [(.ref p1), (.ref p0)])) X0 hx rfl rfl rfl (pc0 := 2) (pc' := 7) (same := false) rfl (hb hby d5_2) rfl (decide_eq_false fun q => hne (Value.ref.inj q)) (by decide) (by decide) k) ?_
  refine own_via (s₁.setTop (mkF m 8 #[.val (.ref p0), .val (.ref p1), .unset] [(.ref p1)])) (fun t k => XS.aloadN X0.here hx rfl (hb hby d5_7) rfl rfl k) ?_
  obtain ⟨T48, X48, e48, st48⟩ := instY X0 hx hZ hown (hw _ (List.mem_of_getElem? (i := 44) rfl)) e0 (Ins.self P4) (g := (mkF m 8 #[.val (.ref p0), .val (.ref p1), .unset] [(.ref p1)])) rfl rfl (hb hby d5_8)
  refine own_via (T48.setTop (mkF m 11 #[.val (.ref p0), .val (.ref p1), .unset] [(.int (1 : Int32))])) (fun t k => st48 t k) ?_
  refine own_via (T48.setTop (mkF m 16 #[.val (.ref p0), .val (.ref p1), .unset] [])) (fun t k => XS.ifYes X48.here hx rfl (pc0 := 11) (pc' := 16) rfl (hb hby d5_11) rfl ((if0 _ _).trans (feq (by decide)).2) (by decide) (by decide) k) ?_
  refine own_via (T48.setTop (mkF m 17 #[.val (.ref p0), .val (.ref p1), .unset] [(.ref p1)])) (fun t k => XS.aloadN X48.here hx rfl (hb hby d5_16) rfl rfl k) ?_
  obtain ⟨T49, X49, e49, st49⟩ := castY X48 hx hZ hown (hw _ (List.mem_of_getElem? (i := 44) rfl)) e48 (Ins.self P4) (g := (mkF m 17 #[.val (.ref p0), .val (.ref p1), .unset] [(.ref p1)])) rfl rfl (hb hby d5_17)
  refine own_via (T49.setTop (mkF m 20 #[.val (.ref p0), .val (.ref p1), .unset] [(.ref p1)])) (fun t k => st49 t k) ?_
  refine own_via (T49.setTop (mkF m 21 #[.val (.ref p0), .val (.ref p1), .val (.ref p1)] [])) (fun t k => XS.astoreN X49.here hx rfl (hb hby d5_20) rfl rfl (l' := #[.val (.ref p0), .val (.ref p1), .val (.ref p1)]) rfl k) ?_
  refine own_via (T49.setTop (mkF m 22 #[.val (.ref p0), .val (.ref p1), .val (.ref p1)] [(.ref p0)])) (fun t k => XS.aloadN X49.here hx rfl (hb hby d5_21) rfl rfl k) ?_
  obtain ⟨T50, X50, e50, st50⟩ := getF X49 hx hZ hown (host := "") (Or.inl (hw _ (List.mem_of_getElem? (i := 17) rfl))) Via.refl e49 P0 (g := (mkF m 22 #[.val (.ref p0), .val (.ref p1), .val (.ref p1)] [(.ref p0)])) rfl rfl (hb hby d5_22)
  refine own_via (T50.setTop (mkF m 25 #[.val (.ref p0), .val (.ref p1), .val (.ref p1)] [(.int pr0)])) (fun t k => st50 t k) ?_
  refine own_via (T50.setTop (mkF m 26 #[.val (.ref p0), .val (.ref p1), .val (.ref p1)] [(.ref p1), (.int pr0)])) (fun t k => XS.aloadN X50.here hx rfl (hb hby d5_25) rfl rfl k) ?_
  obtain ⟨T51, X51, e51, st51⟩ := getF X50 hx hZ hown (host := "") (Or.inl (hw _ (List.mem_of_getElem? (i := 17) rfl))) Via.refl e50 P1 (g := (mkF m 26 #[.val (.ref p0), .val (.ref p1), .val (.ref p1)] [(.ref p1), (.int pr0)])) rfl rfl (hb hby d5_26)
  refine own_via (T51.setTop (mkF m 29 #[.val (.ref p0), .val (.ref p1), .val (.ref p1)] [(.int pr1), (.int pr0)])) (fun t k => st51 t k) ?_
  by_cases hc29_52 : pr0 = pr1
  · refine own_via (T51.setTop (mkF m 32 #[.val (.ref p0), .val (.ref p1), .val (.ref p1)] [])) (fun t k => XS.icmpNo X51.here hx rfl (hb hby d5_29) rfl (teq hc29_52).2 k) ?_
    refine own_via (T51.setTop (mkF m 33 #[.val (.ref p0), .val (.ref p1), .val (.ref p1)] [(.ref p0)])) (fun t k => XS.aloadN X51.here hx rfl (hb hby d5_32) rfl rfl k) ?_
    obtain ⟨T53, X53, e53, st53⟩ := getF X51 hx hZ hown (host := "") (Or.inl (hw _ (List.mem_of_getElem? (i := 33) rfl))) Via.refl e51 P2 (g := (mkF m 33 #[.val (.ref p0), .val (.ref p1), .val (.ref p1)] [(.ref p0)])) rfl rfl (hb hby d5_33)
    refine own_via (T53.setTop (mkF m 36 #[.val (.ref p0), .val (.ref p1), .val (.ref p1)] [(.ref r0)])) (fun t k => st53 t k) ?_
    refine own_via (T53.setTop (mkF m 37 #[.val (.ref p0), .val (.ref p1), .val (.ref p1)] [(.ref p1), (.ref r0)])) (fun t k => XS.aloadN X53.here hx rfl (hb hby d5_36) rfl rfl k) ?_
    obtain ⟨T54, X54, e54, st54⟩ := getF X53 hx hZ hown (host := "") (Or.inl (hw _ (List.mem_of_getElem? (i := 33) rfl))) Via.refl e53 P3 (g := (mkF m 37 #[.val (.ref p0), .val (.ref p1), .val (.ref p1)] [(.ref p1), (.ref r0)])) rfl rfl (hb hby d5_37)
    refine own_via (T54.setTop (mkF m 40 #[.val (.ref p0), .val (.ref p1), .val (.ref p1)] [(.ref r1), (.ref r0)])) (fun t k => st54 t k) ?_
    by_cases ha40_55 : r0 = r1
    · refine own_via (T54.setTop (mkF m 43 #[.val (.ref p0), .val (.ref p1), .val (.ref p1)] [])) (fun t k => Jvm.RoadKit.acmp (g := (mkF m 40 #[.val (.ref p0), .val (.ref p1), .val (.ref p1)] [(.ref r1), (.ref r0)])) X54 hx rfl rfl rfl (pc0 := 40) (pc' := 43) (same := true) rfl (hb hby d5_40) rfl (decide_eq_true (congrArg Value.ref ha40_55)) (by decide) (by decide) k) ?_
      refine own_via (T54.setTop (mkF m 44 #[.val (.ref p0), .val (.ref p1), .val (.ref p1)] [(.int (1 : Int32))])) (fun t k => XS.iconst X54.here hx rfl (hb hby d5_43) k) ?_
      refine own_via (T54.setTop (mkF m 48 #[.val (.ref p0), .val (.ref p1), .val (.ref p1)] [(.int (1 : Int32))])) (fun t k => XS.goto X54.here hx rfl (pc0 := 44) (pc' := 48) rfl (hb hby d5_44) (by decide) (by decide) k) ?_
      refine own_leave X54 Bd.notSynchronized (v := some (.int (1 : Int32))) (fun h => by rw [Bd.returns] at h; cases h) (fun fs hr => retN X54 hx (t := .boolean) Bd.returns (by simp) (hb hby d5_48) hr) ?_ (by decide) (by decide)
      exact ⟨(by show some (Value.int _) = some (Value.int _); unfold own_eqm; rw [if_pos hc29_52, if_pos ha40_55]), N0, e54⟩
    · refine own_via (T54.setTop (mkF m 47 #[.val (.ref p0), .val (.ref p1), .val (.ref p1)] [])) (fun t k => Jvm.RoadKit.acmp (g := (mkF m 40 #[.val (.ref p0), .val (.ref p1), .val (.ref p1)] [(.ref r1), (.ref r0)])) X54 hx rfl rfl rfl (pc0 := 40) (pc' := 47) (same := false) rfl (hb hby d5_40) rfl (decide_eq_false fun q => ha40_55 (Value.ref.inj q)) (by decide) (by decide) k) ?_
      refine own_via (T54.setTop (mkF m 48 #[.val (.ref p0), .val (.ref p1), .val (.ref p1)] [(.int (0 : Int32))])) (fun t k => XS.iconst X54.here hx rfl (hb hby d5_47) k) ?_
      refine own_leave X54 Bd.notSynchronized (v := some (.int (0 : Int32))) (fun h => by rw [Bd.returns] at h; cases h) (fun fs hr => retN X54 hx (t := .boolean) Bd.returns (by simp) (hb hby d5_48) hr) ?_ (by decide) (by decide)
      exact ⟨(by show some (Value.int _) = some (Value.int _); unfold own_eqm; rw [if_pos hc29_52, if_neg ha40_55]), N0, e54⟩
  · refine own_via (T51.setTop (mkF m 47 #[.val (.ref p0), .val (.ref p1), .val (.ref p1)] [])) (fun t k => XS.icmpYes X51.here hx rfl (pc0 := 29) (pc' := 47) rfl (hb hby d5_29) rfl (feq hc29_52).2 (by decide) (by decide) k) ?_
    refine own_via (T51.setTop (mkF m 48 #[.val (.ref p0), .val (.ref p1), .val (.ref p1)] [(.int (0 : Int32))])) (fun t k => XS.iconst X51.here hx rfl (hb hby d5_47) k) ?_
    refine own_leave X51 Bd.notSynchronized (v := some (.int (0 : Int32))) (fun h => by rw [Bd.returns] at h; cases h) (fun fs hr => retN X51 hx (t := .boolean) Bd.returns (by simp) (hb hby d5_48) hr) ?_ (by decide) (by decide)
    exact ⟨(by show some (Value.int _) = some (Value.int _); unfold own_eqm; rw [if_neg hc29_52]), N0, e51⟩
theorem own_noI {Z : State} {a0 : Array Value} (hw : ∀ d ∈ tables_1, d.before a0 Z = true) : ∃ c t, Z.vm.findClass "java/lang/Integer" = some c ∧ Z.vm.findClass "com/example/denary/denary/context/MathContext" = some t ∧ Z.vm.assignable c t = false := own_notInt (hw _ (List.mem_of_getElem? (i := 55) rfl)) (hw _ (List.mem_of_getElem? (i := 56) rfl)) (hw _ (List.mem_of_getElem? (i := 47) rfl)) (hw _ (List.mem_of_getElem? (i := 2) rfl)) (by decide) (by decide) (by decide)
theorem own_noR {Z : State} {a0 : Array Value} (hw : ∀ d ∈ tables_1, d.before a0 Z = true) : ∃ c t, Z.vm.findClass "com/example/denary/denary/context/RoundingMode" = some c ∧ Z.vm.findClass "com/example/denary/denary/context/MathContext" = some t ∧ Z.vm.assignable c t = false := own_notTwo (hw _ (List.mem_of_getElem? (i := 45) rfl)) (hw _ (List.mem_of_getElem? (i := 46) rfl)) (hw _ (List.mem_of_getElem? (i := 47) rfl)) (hw _ (List.mem_of_getElem? (i := 2) rfl)) (by decide) (by decide) (by decide)
def own_Q0 (n0 : Nat) (v : Option Value) (h : Heap) (L : List Loc) : Prop := v = some (.int 1) ∧ Fr n0 L
theorem pd_3 : parseMethodDescriptor "(I)Lcom/example/denary/denary/context/RoundingMode;" = some ⟨[.int], some (.object "com/example/denary/denary/context/RoundingMode")⟩ := by decide +kernel
theorem pd_4 : parseMethodDescriptor "(ILcom/example/denary/denary/context/RoundingMode;)V" = some ⟨[.int, (.object "com/example/denary/denary/context/RoundingMode")], none⟩ := by decide +kernel
theorem pd_5 : parseMethodDescriptor "(Ljava/lang/Object;)Z" = some ⟨[(.object "java/lang/Object")], some .boolean⟩ := by decide +kernel
theorem pd_6 : parseMethodDescriptor "(I)Ljava/lang/Integer;" = some ⟨[.int], some (.object "java/lang/Integer")⟩ := by decide +kernel
theorem ef_0 (m : MethodId) (p0 : Int32) (p1 : Int32) (p2 : Int32) (p3 : Int32) (p4 : Int32) : entryFrame m #[(.int p0), (.int p1), (.int p2), (.int p3), (.int p4)] maxLocals = mkF m 0 #[.val (.int p0), .val (.int p1), .val (.int p2), .val (.int p3), .val (.int p4), .unset, .unset, .unset, .unset, .unset, .unset, .unset, .unset] [] := by first | (simp [entryFrame, mkF, argsToLocals, Value.category, maxLocals]; done) | rfl
set_option maxRecDepth 65536 in
set_option maxHeartbeats 40000000 in
theorem rm0 (l : Launch) (Z : State) (a0 : Array Value) (hw : ∀ d ∈ tables_1, d.before a0 Z = true) (ws : List Jvm.Cond) (p0 : Int32) (p1 : Int32) (p2 : Int32) (p3 : Int32) (p4 : Int32) (h0 : Heap) (n0 : Nat) (Z0 : n0 ≤ h0.size) (M : Nat → Addr) (hM : own_Modes Z h0 M) (hinj : ∀ i j, i < 8 → j < 8 → M i = M j → i = j) (hcache : own_Cache Z h0) :
    MetFree l x (head1 (Jvm.Cond.code x code maxLocals ret :: ws) room_1) (fun a U => a = #[(.int p0), (.int p1), (.int p2), (.int p3), (.int p4)] ∧ Z.Warmed39 U.vm ∧ U.heap = h0) (fun _ _ _ _ _ => True) (fun _ U o U' => ∃ v L, o = .returned v ∧ (own_Q0 n0) v U'.heap L ∧ ReturnedEndW U o U' L room_1.cells room_1.slots) := by
  refine MetFree.of_bodySF (plainFor_of_name pn_com_example_denary_denary_context_MathContextEqualsPinLaw) hisR ?_
  intro p e s m args below meth c s₁ Bd hml0 hP hK
  obtain ⟨rfl, hZ, hh⟩ := hP
  have hx := Bd.exec
  have hby := Bd.bytes
  have hml : c.maxLocals = 13 := hml0
  have hown : s.vm.findClass "com/example/denary/denary/context/MathContextEqualsPinLaw" = some m.cls := findClass_of_methodNamed Bd.named
  have hnm := (name_of_methodNamed Bd.named Bd.method).1
  have X0 : Stand p l e room_1 s m #[(.int p0), (.int p1), (.int p2), (.int p3), (.int p4)] below meth c s₁ [] 0 0 := Stand.of_body Bd
  have e0 : s₁.heap = h0 := by rw [← hh, Bd.state]; rfl
  have N0 := Fr.nil n0
  refine own_bodyW (QQ := (own_Q0 n0)) (ef_0 m p0 p1 p2 p3 p4) ?_
  have hSi0 : s.Since s.vm 0 := (State.WarmedH.refl s).since 0
  refine own_via (s₁.setTop (mkF m 1 #[.val (.int p0), .val (.int p1), .val (.int p2), .val (.int p3), .val (.int p4), .unset, .unset, .unset, .unset, .unset, .unset, .unset, .unset] [(.int p0)])) (fun t k => XS.iloadN X0.here hx rfl (hb hby at_0) rfl  k) ?_
  refine own_via (s₁.setTop (mkF m 3 #[.val (.int p0), .val (.int p1), .val (.int p2), .val (.int p3), .val (.int p4), .unset, .unset, .unset, .unset, .unset, .unset, .unset, .unset] [(.int (2147483647 : Int32)), (.int p0)])) (fun t k => X0.ldcInt hx hown (mvT hZ (hw _ (List.mem_of_getElem? (i := 0) rfl))) (g := (mkF m 1 #[.val (.int p0), .val (.int p1), .val (.int p2), .val (.int p3), .val (.int p4), .unset, .unset, .unset, .unset, .unset, .unset, .unset, .unset] [(.int p0)])) rfl (hb hby at_1) _ k) ?_
  refine own_via (s₁.setTop (mkF m 4 #[.val (.int p0), .val (.int p1), .val (.int p2), .val (.int p3), .val (.int p4), .unset, .unset, .unset, .unset, .unset, .unset, .unset, .unset] [(.int (p0 &&& (2147483647 : Int32)))])) (fun t k => XS.iand X0.here hx rfl (hb hby at_3) rfl k) ?_
  obtain ⟨zp1, hzp1⟩ : ∃ z : Int32, z = (p0 &&& (2147483647 : Int32)) := ⟨_, rfl⟩
  refine own_via (s₁.setTop (mkF m 6 #[.val (.int p0), .val (.int p1), .val (.int p2), .val (.int p3), .val (.int p4), .val (.int zp1), .unset, .unset, .unset, .unset, .unset, .unset, .unset] [])) (fun t k => XS.istore X0.here hx rfl (hb hby at_4) rfl (l' := #[.val (.int p0), .val (.int p1), .val (.int p2), .val (.int p3), .val (.int p4), .val (.int zp1), .unset, .unset, .unset, .unset, .unset, .unset, .unset]) (by rw [hzp1]; rfl) k) ?_
  refine own_via (s₁.setTop (mkF m 8 #[.val (.int p0), .val (.int p1), .val (.int p2), .val (.int p3), .val (.int p4), .val (.int zp1), .unset, .unset, .unset, .unset, .unset, .unset, .unset] [(.int p4)])) (fun t k => XS.iload X0.here hx rfl (hb hby at_6) rfl  k) ?_
  refine own_via (s₁.setTop (mkF m 9 #[.val (.int p0), .val (.int p1), .val (.int p2), .val (.int p3), .val (.int p4), .val (.int zp1), .unset, .unset, .unset, .unset, .unset, .unset, .unset] [(.int (4 : Int32)), (.int p4)])) (fun t k => XS.iconst X0.here hx rfl (hb hby at_8) k) ?_
  refine own_via (s₁.setTop (mkF m 10 #[.val (.int p0), .val (.int p1), .val (.int p2), .val (.int p3), .val (.int p4), .val (.int zp1), .unset, .unset, .unset, .unset, .unset, .unset, .unset] [(.int (p4 &&& (4 : Int32)))])) (fun t k => XS.iand X0.here hx rfl (hb hby at_9) rfl k) ?_
  obtain ⟨zp2, hzp2⟩ : ∃ z : Int32, z = (if (p4 &&& (4 : Int32)) = (0 : Int32) then (p1 &&& (2147483647 : Int32)) else zp1) := ⟨_, rfl⟩
  refine own_via (s₁.setTop (mkF m 22 #[.val (.int p0), .val (.int p1), .val (.int p2), .val (.int p3), .val (.int p4), .val (.int zp1), .unset, .unset, .unset, .unset, .unset, .unset, .unset] [(.int zp2)])) (fun t k => ?_) ?_
  · skip
    by_cases hj10_56 : (p4 &&& (4 : Int32)) = (0 : Int32)
    · refine XS.ifYes X0.here hx rfl (pc0 := 10) (pc' := 18) rfl (hb hby at_10) rfl ((if0 _ _).trans (teq hj10_56).1) (by decide) (by decide) (?_ : Steps p.tables e below (s₁.setTop (mkF m 18 #[.val (.int p0), .val (.int p1), .val (.int p2), .val (.int p3), .val (.int p4), .val (.int zp1), .unset, .unset, .unset, .unset, .unset, .unset, .unset] [])) t)
      refine XS.iloadN X0.here hx rfl (hb hby at_18) rfl  (?_ : Steps p.tables e below (s₁.setTop (mkF m 19 #[.val (.int p0), .val (.int p1), .val (.int p2), .val (.int p3), .val (.int p4), .val (.int zp1), .unset, .unset, .unset, .unset, .unset, .unset, .unset] [(.int p1)])) t)
      refine X0.ldcInt hx hown (mvT hZ (hw _ (List.mem_of_getElem? (i := 0) rfl))) (g := (mkF m 19 #[.val (.int p0), .val (.int p1), .val (.int p2), .val (.int p3), .val (.int p4), .val (.int zp1), .unset, .unset, .unset, .unset, .unset, .unset, .unset] [(.int p1)])) rfl (hb hby at_19) _ (?_ : Steps p.tables e below (s₁.setTop (mkF m 21 #[.val (.int p0), .val (.int p1), .val (.int p2), .val (.int p3), .val (.int p4), .val (.int zp1), .unset, .unset, .unset, .unset, .unset, .unset, .unset] [(.int (2147483647 : Int32)), (.int p1)])) t)
      refine XS.iand X0.here hx rfl (hb hby at_21) rfl (?_ : Steps p.tables e below (s₁.setTop (mkF m 22 #[.val (.int p0), .val (.int p1), .val (.int p2), .val (.int p3), .val (.int p4), .val (.int zp1), .unset, .unset, .unset, .unset, .unset, .unset, .unset] [(.int (p1 &&& (2147483647 : Int32)))])) t)
      have q_zp2 := (hzp2.trans (if_pos hj10_56))
      subst q_zp2
      exact k
    · refine XS.ifNo X0.here hx rfl (hb hby at_10) rfl ((if0 _ _).trans (feq hj10_56).1) (?_ : Steps p.tables e below (s₁.setTop (mkF m 13 #[.val (.int p0), .val (.int p1), .val (.int p2), .val (.int p3), .val (.int p4), .val (.int zp1), .unset, .unset, .unset, .unset, .unset, .unset, .unset] [])) t)
      refine XS.iload X0.here hx rfl (hb hby at_13) rfl  (?_ : Steps p.tables e below (s₁.setTop (mkF m 15 #[.val (.int p0), .val (.int p1), .val (.int p2), .val (.int p3), .val (.int p4), .val (.int zp1), .unset, .unset, .unset, .unset, .unset, .unset, .unset] [(.int zp1)])) t)
      refine XS.goto X0.here hx rfl (pc0 := 15) (pc' := 22) rfl (hb hby at_15) (by decide) (by decide) (?_ : Steps p.tables e below (s₁.setTop (mkF m 22 #[.val (.int p0), .val (.int p1), .val (.int p2), .val (.int p3), .val (.int p4), .val (.int zp1), .unset, .unset, .unset, .unset, .unset, .unset, .unset] [(.int zp1)])) t)
      have q_zp2 := (hzp2.trans (if_neg hj10_56))
      subst q_zp2
      exact k
  refine own_via (s₁.setTop (mkF m 24 #[.val (.int p0), .val (.int p1), .val (.int p2), .val (.int p3), .val (.int p4), .val (.int zp1), .val (.int zp2), .unset, .unset, .unset, .unset, .unset, .unset] [])) (fun t k => XS.istore X0.here hx rfl (hb hby at_22) rfl (l' := #[.val (.int p0), .val (.int p1), .val (.int p2), .val (.int p3), .val (.int p4), .val (.int zp1), .val (.int zp2), .unset, .unset, .unset, .unset, .unset, .unset]) rfl k) ?_
  refine own_via (s₁.setTop (mkF m 25 #[.val (.int p0), .val (.int p1), .val (.int p2), .val (.int p3), .val (.int p4), .val (.int zp1), .val (.int zp2), .unset, .unset, .unset, .unset, .unset, .unset] [(.int p2)])) (fun t k => XS.iloadN X0.here hx rfl (hb hby at_24) rfl  k) ?_
  refine own_via (s₁.setTop (mkF m 27 #[.val (.int p0), .val (.int p1), .val (.int p2), .val (.int p3), .val (.int p4), .val (.int zp1), .val (.int zp2), .unset, .unset, .unset, .unset, .unset, .unset] [(.int (7 : Int32)), (.int p2)])) (fun t k => XS.bipush X0.here hx rfl (hb hby at_25) k) ?_
  refine own_via (s₁.setTop (mkF m 28 #[.val (.int p0), .val (.int p1), .val (.int p2), .val (.int p3), .val (.int p4), .val (.int zp1), .val (.int zp2), .unset, .unset, .unset, .unset, .unset, .unset] [(.int (p2 &&& (7 : Int32)))])) (fun t k => XS.iand X0.here hx rfl (hb hby at_27) rfl k) ?_
  obtain ⟨zi1, hzi1⟩ : ∃ z : Int32, z = (p2 &&& (7 : Int32)) := ⟨_, rfl⟩
  refine own_via (s₁.setTop (mkF m 30 #[.val (.int p0), .val (.int p1), .val (.int p2), .val (.int p3), .val (.int p4), .val (.int zp1), .val (.int zp2), .val (.int zi1), .unset, .unset, .unset, .unset, .unset] [])) (fun t k => XS.istore X0.here hx rfl (hb hby at_28) rfl (l' := #[.val (.int p0), .val (.int p1), .val (.int p2), .val (.int p3), .val (.int p4), .val (.int zp1), .val (.int zp2), .val (.int zi1), .unset, .unset, .unset, .unset, .unset]) (by rw [hzi1]; rfl) k) ?_
  refine own_via (s₁.setTop (mkF m 32 #[.val (.int p0), .val (.int p1), .val (.int p2), .val (.int p3), .val (.int p4), .val (.int zp1), .val (.int zp2), .val (.int zi1), .unset, .unset, .unset, .unset, .unset] [(.int p4)])) (fun t k => XS.iload X0.here hx rfl (hb hby at_30) rfl  k) ?_
  refine own_via (s₁.setTop (mkF m 34 #[.val (.int p0), .val (.int p1), .val (.int p2), .val (.int p3), .val (.int p4), .val (.int zp1), .val (.int zp2), .val (.int zi1), .unset, .unset, .unset, .unset, .unset] [(.int (8 : Int32)), (.int p4)])) (fun t k => XS.bipush X0.here hx rfl (hb hby at_32) k) ?_
  refine own_via (s₁.setTop (mkF m 35 #[.val (.int p0), .val (.int p1), .val (.int p2), .val (.int p3), .val (.int p4), .val (.int zp1), .val (.int zp2), .val (.int zi1), .unset, .unset, .unset, .unset, .unset] [(.int (p4 &&& (8 : Int32)))])) (fun t k => XS.iand X0.here hx rfl (hb hby at_34) rfl k) ?_
  obtain ⟨zi2, hzi2⟩ : ∃ z : Int32, z = (if (p4 &&& (8 : Int32)) = (0 : Int32) then (p3 &&& (7 : Int32)) else zi1) := ⟨_, rfl⟩
  refine own_via (s₁.setTop (mkF m 47 #[.val (.int p0), .val (.int p1), .val (.int p2), .val (.int p3), .val (.int p4), .val (.int zp1), .val (.int zp2), .val (.int zi1), .unset, .unset, .unset, .unset, .unset] [(.int zi2)])) (fun t k => ?_) ?_
  · skip
    by_cases hj35_57 : (p4 &&& (8 : Int32)) = (0 : Int32)
    · refine XS.ifYes X0.here hx rfl (pc0 := 35) (pc' := 43) rfl (hb hby at_35) rfl ((if0 _ _).trans (teq hj35_57).1) (by decide) (by decide) (?_ : Steps p.tables e below (s₁.setTop (mkF m 43 #[.val (.int p0), .val (.int p1), .val (.int p2), .val (.int p3), .val (.int p4), .val (.int zp1), .val (.int zp2), .val (.int zi1), .unset, .unset, .unset, .unset, .unset] [])) t)
      refine XS.iloadN X0.here hx rfl (hb hby at_43) rfl  (?_ : Steps p.tables e below (s₁.setTop (mkF m 44 #[.val (.int p0), .val (.int p1), .val (.int p2), .val (.int p3), .val (.int p4), .val (.int zp1), .val (.int zp2), .val (.int zi1), .unset, .unset, .unset, .unset, .unset] [(.int p3)])) t)
      refine XS.bipush X0.here hx rfl (hb hby at_44) (?_ : Steps p.tables e below (s₁.setTop (mkF m 46 #[.val (.int p0), .val (.int p1), .val (.int p2), .val (.int p3), .val (.int p4), .val (.int zp1), .val (.int zp2), .val (.int zi1), .unset, .unset, .unset, .unset, .unset] [(.int (7 : Int32)), (.int p3)])) t)
      refine XS.iand X0.here hx rfl (hb hby at_46) rfl (?_ : Steps p.tables e below (s₁.setTop (mkF m 47 #[.val (.int p0), .val (.int p1), .val (.int p2), .val (.int p3), .val (.int p4), .val (.int zp1), .val (.int zp2), .val (.int zi1), .unset, .unset, .unset, .unset, .unset] [(.int (p3 &&& (7 : Int32)))])) t)
      have q_zi2 := (hzi2.trans (if_pos hj35_57))
      subst q_zi2
      exact k
    · refine XS.ifNo X0.here hx rfl (hb hby at_35) rfl ((if0 _ _).trans (feq hj35_57).1) (?_ : Steps p.tables e below (s₁.setTop (mkF m 38 #[.val (.int p0), .val (.int p1), .val (.int p2), .val (.int p3), .val (.int p4), .val (.int zp1), .val (.int zp2), .val (.int zi1), .unset, .unset, .unset, .unset, .unset] [])) t)
      refine XS.iload X0.here hx rfl (hb hby at_38) rfl  (?_ : Steps p.tables e below (s₁.setTop (mkF m 40 #[.val (.int p0), .val (.int p1), .val (.int p2), .val (.int p3), .val (.int p4), .val (.int zp1), .val (.int zp2), .val (.int zi1), .unset, .unset, .unset, .unset, .unset] [(.int zi1)])) t)
      refine XS.goto X0.here hx rfl (pc0 := 40) (pc' := 47) rfl (hb hby at_40) (by decide) (by decide) (?_ : Steps p.tables e below (s₁.setTop (mkF m 47 #[.val (.int p0), .val (.int p1), .val (.int p2), .val (.int p3), .val (.int p4), .val (.int zp1), .val (.int zp2), .val (.int zi1), .unset, .unset, .unset, .unset, .unset] [(.int zi1)])) t)
      have q_zi2 := (hzi2.trans (if_neg hj35_57))
      subst q_zi2
      exact k
  refine own_via (s₁.setTop (mkF m 49 #[.val (.int p0), .val (.int p1), .val (.int p2), .val (.int p3), .val (.int p4), .val (.int zp1), .val (.int zp2), .val (.int zi1), .val (.int zi2), .unset, .unset, .unset, .unset] [])) (fun t k => XS.istore X0.here hx rfl (hb hby at_47) rfl (l' := #[.val (.int p0), .val (.int p1), .val (.int p2), .val (.int p3), .val (.int p4), .val (.int zp1), .val (.int zp2), .val (.int zi1), .val (.int zi2), .unset, .unset, .unset, .unset]) rfl k) ?_
  obtain ⟨T58, h58, X58, e58, E58, A58, D58, -, st58⟩ := newO X0 hx hZ hown (hw _ (List.mem_of_getElem? (i := 1) rfl)) (hw _ (List.mem_of_getElem? (i := 2) rfl)) (hw _ (List.mem_of_getElem? (i := 3) rfl)) e0 (g := (mkF m 49 #[.val (.int p0), .val (.int p1), .val (.int p2), .val (.int p3), .val (.int p4), .val (.int zp1), .val (.int zp2), .val (.int zi1), .val (.int zi2), .unset, .unset, .unset, .unset] [])) rfl (hb hby at_49) (by decide) (by decide)
  obtain ⟨b58, g58⟩ : ∃ z, z = h0.size := ⟨_, rfl⟩
  rw [← g58] at A58 D58 st58
  have gg_b58 : n0 ≤ b58 := Nat.le_trans (Nat.le_trans Z0 (Keep.refl h0 []).1) (Nat.le_of_eq g58.symm)
  have sz_b58 : h0.size ≤ b58 := Nat.le_trans (Keep.refl h0 []).1 (Nat.le_of_eq g58.symm)
  have F_precision_b58 : Fld Z h58 b58 "com/example/denary/denary/context/MathContext" "precision" "I" (.int (0 : Int32)) := D58 (Or.inr (hw _ (List.mem_of_getElem? (i := 18) rfl))) (ty := .int) (by decide)
  have F_roundingMode_b58 : Fld Z h58 b58 "com/example/denary/denary/context/MathContext" "roundingMode" "Lcom/example/denary/denary/context/RoundingMode;" .null := D58 (Or.inr (hw _ (List.mem_of_getElem? (i := 34) rfl))) (ty := (.object "com/example/denary/denary/context/RoundingMode")) (by decide)
  have K59 : Keep h0 h58 [] := (Keep.refl h0 []).ext E58
  refine own_via (T58.setTop (mkF m 52 #[.val (.int p0), .val (.int p1), .val (.int p2), .val (.int p3), .val (.int p4), .val (.int zp1), .val (.int zp2), .val (.int zi1), .val (.int zi2), .unset, .unset, .unset, .unset] [(.ref b58)])) (fun t k => st58 t k) ?_
  refine own_via (T58.setTop (mkF m 53 #[.val (.int p0), .val (.int p1), .val (.int p2), .val (.int p3), .val (.int p4), .val (.int zp1), .val (.int zp2), .val (.int zi1), .val (.int zi2), .unset, .unset, .unset, .unset] [(.ref b58), (.ref b58)])) (fun t k => XS.dup X58.here hx rfl (hb hby at_52) rfl rfl k) ?_
  refine own_via (T58.setTop (mkF m 55 #[.val (.int p0), .val (.int p1), .val (.int p2), .val (.int p3), .val (.int p4), .val (.int zp1), .val (.int zp2), .val (.int zi1), .val (.int zi2), .unset, .unset, .unset, .unset] [(.int zp1), (.ref b58), (.ref b58)])) (fun t k => XS.iload X58.here hx rfl (hb hby at_53) rfl  k) ?_
  refine own_via (T58.setTop (mkF m 57 #[.val (.int p0), .val (.int p1), .val (.int p2), .val (.int p3), .val (.int p4), .val (.int zp1), .val (.int zp2), .val (.int zi1), .val (.int zi2), .unset, .unset, .unset, .unset] [(.int zi1), (.int zp1), (.ref b58), (.ref b58)])) (fun t k => XS.iload X58.here hx rfl (hb hby at_55) rfl  k) ?_
  obtain ⟨_, _, ⟨T60, L60, k60, n60⟩, -, X60, ⟨Lc60, hQ60, l60, y60, z60⟩, st60⟩ := Jvm.LawKit.callS X58 hx (y := (⟨"com/example/denary/denary/context/MathContextEqualsPinLaw", "mode", "(I)Lcom/example/denary/denary/context/RoundingMode;"⟩ : MethodName)) hown (mvT hZ (hw _ (List.mem_of_getElem? (i := 4) rfl))) (mvT hZ (hw _ (List.mem_of_getElem? (i := 5) rfl))) (mvT hZ (hw _ (List.mem_of_getElem? (i := 6) rfl))) (mvT hZ (hw _ (List.mem_of_getElem? (i := 7) rfl))) (by decide) (backOf (W := 3) (rm1 l Z a0 hw [] zi1 h58 n0 (Nat.le_trans Z0 K59.1) M (hM.keep K59)) hZ (hw _ (List.mem_of_getElem? (i := 7) rfl)) (hw _ (List.mem_of_getElem? (i := 6) rfl)) (by decide) (by decide)) (g := (mkF m 57 #[.val (.int p0), .val (.int p1), .val (.int p2), .val (.int p3), .val (.int p4), .val (.int zp1), .val (.int zp2), .val (.int zi1), .val (.int zi2), .unset, .unset, .unset, .unset] [(.int zi1), (.int zp1), (.ref b58), (.ref b58)])) rfl (by rw [hml]; rfl) (argsL := [(.int zi1)]) (rest := [(.int zp1), (.ref b58), (.ref b58)]) (lenOf pd_3 rfl) rfl (by show 2 * 0 + _ ≤ _; exact Nat.le_of_eq rfl) (hb hby at_57) (fun _ _ => ⟨rfl, e58, (by decide : 1 + 0 ≤ _), (by decide : 2 + 0 ≤ _)⟩)
  dsimp only [Pt.U, Pt.locs, Pt.cells, Pt.slots] at X60 l60 y60 z60 st60 hQ60
  rw [y60, z60] at X60
  have X60 : Stand _ _ _ _ _ _ _ _ _ _ T60 L60 1 2 := X60
  obtain ⟨rfl, N60q, e60⟩ := hQ60
  have N60 : Fr n0 L60 := by rw [l60]; exact Fr.app N0 N60q
  obtain ⟨a60, ha60⟩ : ∃ z : Addr, z = (own_md M zi1) := ⟨_, rfl⟩
  rw [← ha60] at st60
  refine own_via (T60.setTop (mkF m 60 #[.val (.int p0), .val (.int p1), .val (.int p2), .val (.int p3), .val (.int p4), .val (.int zp1), .val (.int zp2), .val (.int zi1), .val (.int zi2), .unset, .unset, .unset, .unset] [(.ref a60), (.int zp1), (.ref b58), (.ref b58)])) (fun t k => st60 t k) ?_
  have EXa60 : Exa Z h58 a60 "com/example/denary/denary/context/RoundingMode" := by rw [ha60]; exact own_mdE (hM.keep K59) _
  have lta60 : a60 < h0.size := by rw [ha60]; exact (own_mdE hM _).lt
  have ne_a60_b58 : a60 ≠ b58 := Nat.ne_of_lt (Nat.lt_of_lt_of_le lta60 sz_b58)
  obtain ⟨_, _, ⟨T61, L61, k61, n61⟩, -, X61, hSn61, hgn61, ⟨Lc61, hQ61, l61, y61, z61⟩, st61⟩ := X60.specialBackS hx (y := (⟨"com/example/denary/denary/context/MathContext", "<init>", "(ILcom/example/denary/denary/context/RoundingMode;)V"⟩ : MethodName)) rfl hown (mvT hZ (hw _ (List.mem_of_getElem? (i := 11) rfl))) (mvT hZ (hw _ (List.mem_of_getElem? (i := 12) rfl))) (mvT hZ (hw _ (List.mem_of_getElem? (i := 13) rfl))) (by decide) (backOfS (W := 1) (rm2 l Z a0 hw [] b58 zp1 a60 h58 n0 (Nat.le_trans Z0 K59.1) F_precision_b58 F_roundingMode_b58 A58 EXa60 gg_b58 (own_pos1 hzp1) ne_a60_b58) hZ (hw _ (List.mem_of_getElem? (i := 13) rfl)) (hw _ (List.mem_of_getElem? (i := 3) rfl)) (by decide) (by decide)) (g := (mkF m 60 #[.val (.int p0), .val (.int p1), .val (.int p2), .val (.int p3), .val (.int p4), .val (.int zp1), .val (.int zp2), .val (.int zi1), .val (.int zi2), .unset, .unset, .unset, .unset] [(.ref a60), (.int zp1), (.ref b58), (.ref b58)])) rfl (by rw [hml]; rfl) (Steps.refl _) (a := b58) (argsL := [(.int zp1), (.ref a60)]) (rest := [(.ref b58)]) (lenOf pd_4 rfl) rfl (by show 2 * 0 + _ ≤ _; exact Nat.le_of_eq rfl) (hb hby at_60) (fun _ _ => ⟨rfl, e60, (by decide : 1 + 2 ≤ _), (by decide : 2 + 20 ≤ _)⟩)
  dsimp only [Pt.U, Pt.locs, Pt.cells, Pt.slots] at X61 l61 y61 z61 st61 hQ61 hSn61 hgn61
  have hSi61 : s.Since T61.vm T61.heap.size := foldS (s := s) (vm0 := s.vm) (T := T60) hSi0 (by rw [e60]; exact (Nat.le_trans (Nat.zero_le _) E58.1)) hSn61 hgn61
  have hown : (s.setVm T61.vm).vm.findClass "com/example/denary/denary/context/MathContextEqualsPinLaw" = some m.cls := by show T61.vm.findClass _ = _; rw [hSn61.1.alike.findClass]; exact hown
  have hZ : Z.Warmed39 (s.setVm T61.vm).vm := State.Warmed39.trans (t := s.setVm s.vm) hZ hSn61.1
  have X61 : Stand p l e room_1 (s.setVm T61.vm) m #[(.int p0), (.int p1), (.int p2), (.int p3), (.int p4)] below meth c T61 L61 k61 n61 := X61
  rw [y61, z61] at X61
  have X61 : Stand _ _ _ _ _ _ _ _ _ _ T61 L61 3 22 := X61
  obtain ⟨h61, e61⟩ : ∃ h, T61.heap = h := ⟨_, rfl⟩
  rw [e61] at hQ61
  obtain ⟨rfl, N61q, K61q, G61_0, G61_1, G61_2⟩ := hQ61
  have N61 : Fr n0 L61 := by rw [l61]; exact Fr.app N60 N61q
  have K62 : Keep h0 h61 [] := K59.trans K61q (fun x hx => (List.mem_cons.mp hx).elim (fun e => e ▸ Or.inr sz_b58) (fun hx => nomatch hx))
  refine own_via (T61.setTop (mkF m 63 #[.val (.int p0), .val (.int p1), .val (.int p2), .val (.int p3), .val (.int p4), .val (.int zp1), .val (.int zp2), .val (.int zi1), .val (.int zi2), .unset, .unset, .unset, .unset] [(.ref b58)])) (fun t k => st61.trans k) ?_
  refine own_via (T61.setTop (mkF m 65 #[.val (.int p0), .val (.int p1), .val (.int p2), .val (.int p3), .val (.int p4), .val (.int zp1), .val (.int zp2), .val (.int zi1), .val (.int zi2), .val (.ref b58), .unset, .unset, .unset] [])) (fun t k => XS.astore X61.here hx rfl (hb hby at_63) rfl rfl (l' := #[.val (.int p0), .val (.int p1), .val (.int p2), .val (.int p3), .val (.int p4), .val (.int zp1), .val (.int zp2), .val (.int zi1), .val (.int zi2), .val (.ref b58), .unset, .unset, .unset]) rfl k) ?_
  obtain ⟨T63, h63, X63, e63, E63, A63, D63, -, st63⟩ := newO X61 hx hZ hown (hw _ (List.mem_of_getElem? (i := 1) rfl)) (hw _ (List.mem_of_getElem? (i := 2) rfl)) (hw _ (List.mem_of_getElem? (i := 3) rfl)) e61 (g := (mkF m 65 #[.val (.int p0), .val (.int p1), .val (.int p2), .val (.int p3), .val (.int p4), .val (.int zp1), .val (.int zp2), .val (.int zi1), .val (.int zi2), .val (.ref b58), .unset, .unset, .unset] [])) rfl (hb hby at_65) (by decide) (by decide)
  obtain ⟨b63, g63⟩ : ∃ z, z = h61.size := ⟨_, rfl⟩
  rw [← g63] at A63 D63 st63
  have gg_b63 : n0 ≤ b63 := Nat.le_trans (Nat.le_trans Z0 K62.1) (Nat.le_of_eq g63.symm)
  have sz_b63 : h0.size ≤ b63 := Nat.le_trans K62.1 (Nat.le_of_eq g63.symm)
  have ne_b58_b63 : b58 ≠ b63 := Nat.ne_of_lt (Nat.lt_of_lt_of_le G61_0.lt (Nat.le_of_eq g63.symm))
  have ne_a60_b63 : a60 ≠ b63 := Nat.ne_of_lt (Nat.lt_of_lt_of_le (EXa60.keep K61q).lt (Nat.le_of_eq g63.symm))
  have F_precision_b63 : Fld Z h63 b63 "com/example/denary/denary/context/MathContext" "precision" "I" (.int (0 : Int32)) := D63 (Or.inr (hw _ (List.mem_of_getElem? (i := 18) rfl))) (ty := .int) (by decide)
  have F_roundingMode_b63 : Fld Z h63 b63 "com/example/denary/denary/context/MathContext" "roundingMode" "Lcom/example/denary/denary/context/RoundingMode;" .null := D63 (Or.inr (hw _ (List.mem_of_getElem? (i := 34) rfl))) (ty := (.object "com/example/denary/denary/context/RoundingMode")) (by decide)
  have K64 : Keep h0 h63 [] := K62.ext E63
  refine own_via (T63.setTop (mkF m 68 #[.val (.int p0), .val (.int p1), .val (.int p2), .val (.int p3), .val (.int p4), .val (.int zp1), .val (.int zp2), .val (.int zi1), .val (.int zi2), .val (.ref b58), .unset, .unset, .unset] [(.ref b63)])) (fun t k => st63 t k) ?_
  refine own_via (T63.setTop (mkF m 69 #[.val (.int p0), .val (.int p1), .val (.int p2), .val (.int p3), .val (.int p4), .val (.int zp1), .val (.int zp2), .val (.int zi1), .val (.int zi2), .val (.ref b58), .unset, .unset, .unset] [(.ref b63), (.ref b63)])) (fun t k => XS.dup X63.here hx rfl (hb hby at_68) rfl rfl k) ?_
  refine own_via (T63.setTop (mkF m 71 #[.val (.int p0), .val (.int p1), .val (.int p2), .val (.int p3), .val (.int p4), .val (.int zp1), .val (.int zp2), .val (.int zi1), .val (.int zi2), .val (.ref b58), .unset, .unset, .unset] [(.int zp2), (.ref b63), (.ref b63)])) (fun t k => XS.iload X63.here hx rfl (hb hby at_69) rfl  k) ?_
  refine own_via (T63.setTop (mkF m 73 #[.val (.int p0), .val (.int p1), .val (.int p2), .val (.int p3), .val (.int p4), .val (.int zp1), .val (.int zp2), .val (.int zi1), .val (.int zi2), .val (.ref b58), .unset, .unset, .unset] [(.int zi2), (.int zp2), (.ref b63), (.ref b63)])) (fun t k => XS.iload X63.here hx rfl (hb hby at_71) rfl  k) ?_
  obtain ⟨_, _, ⟨T65, L65, k65, n65⟩, -, X65, ⟨Lc65, hQ65, l65, y65, z65⟩, st65⟩ := Jvm.LawKit.callS X63 hx (y := (⟨"com/example/denary/denary/context/MathContextEqualsPinLaw", "mode", "(I)Lcom/example/denary/denary/context/RoundingMode;"⟩ : MethodName)) hown (mvT hZ (hw _ (List.mem_of_getElem? (i := 4) rfl))) (mvT hZ (hw _ (List.mem_of_getElem? (i := 5) rfl))) (mvT hZ (hw _ (List.mem_of_getElem? (i := 6) rfl))) (mvT hZ (hw _ (List.mem_of_getElem? (i := 7) rfl))) (by decide) (backOf (W := 3) (rm1 l Z a0 hw [] zi2 h63 n0 (Nat.le_trans Z0 K64.1) M (hM.keep K64)) hZ (hw _ (List.mem_of_getElem? (i := 7) rfl)) (hw _ (List.mem_of_getElem? (i := 6) rfl)) (by decide) (by decide)) (g := (mkF m 73 #[.val (.int p0), .val (.int p1), .val (.int p2), .val (.int p3), .val (.int p4), .val (.int zp1), .val (.int zp2), .val (.int zi1), .val (.int zi2), .val (.ref b58), .unset, .unset, .unset] [(.int zi2), (.int zp2), (.ref b63), (.ref b63)])) rfl (by rw [hml]; rfl) (argsL := [(.int zi2)]) (rest := [(.int zp2), (.ref b63), (.ref b63)]) (lenOf pd_3 rfl) rfl (by show 2 * 0 + _ ≤ _; exact Nat.le_of_eq rfl) (hb hby at_73) (fun _ _ => ⟨rfl, e63, (by decide : 4 + 0 ≤ _), (by decide : 24 + 0 ≤ _)⟩)
  dsimp only [Pt.U, Pt.locs, Pt.cells, Pt.slots] at X65 l65 y65 z65 st65 hQ65
  rw [y65, z65] at X65
  have X65 : Stand _ _ _ _ _ _ _ _ _ _ T65 L65 4 24 := X65
  obtain ⟨rfl, N65q, e65⟩ := hQ65
  have N65 : Fr n0 L65 := by rw [l65]; exact Fr.app N61 N65q
  obtain ⟨a65, ha65⟩ : ∃ z : Addr, z = (own_md M zi2) := ⟨_, rfl⟩
  rw [← ha65] at st65
  refine own_via (T65.setTop (mkF m 76 #[.val (.int p0), .val (.int p1), .val (.int p2), .val (.int p3), .val (.int p4), .val (.int zp1), .val (.int zp2), .val (.int zi1), .val (.int zi2), .val (.ref b58), .unset, .unset, .unset] [(.ref a65), (.int zp2), (.ref b63), (.ref b63)])) (fun t k => st65 t k) ?_
  have EXa65 : Exa Z h63 a65 "com/example/denary/denary/context/RoundingMode" := by rw [ha65]; exact own_mdE (hM.keep K64) _
  have lta65 : a65 < h0.size := by rw [ha65]; exact (own_mdE hM _).lt
  have ne_a65_b58 : a65 ≠ b58 := Nat.ne_of_lt (Nat.lt_of_lt_of_le lta65 sz_b58)
  have ne_a65_b63 : a65 ≠ b63 := Nat.ne_of_lt (Nat.lt_of_lt_of_le lta65 sz_b63)
  obtain ⟨_, _, ⟨T66, L66, k66, n66⟩, -, X66, hSn66, hgn66, ⟨Lc66, hQ66, l66, y66, z66⟩, st66⟩ := X65.specialBackS hx (y := (⟨"com/example/denary/denary/context/MathContext", "<init>", "(ILcom/example/denary/denary/context/RoundingMode;)V"⟩ : MethodName)) rfl hown (mvT hZ (hw _ (List.mem_of_getElem? (i := 11) rfl))) (mvT hZ (hw _ (List.mem_of_getElem? (i := 12) rfl))) (mvT hZ (hw _ (List.mem_of_getElem? (i := 13) rfl))) (by decide) (backOfS (W := 1) (rm2 l Z a0 hw [] b63 zp2 a65 h63 n0 (Nat.le_trans Z0 K64.1) F_precision_b63 F_roundingMode_b63 A63 EXa65 gg_b63 (own_pos2 hzp1 hzp2) ne_a65_b63) hZ (hw _ (List.mem_of_getElem? (i := 13) rfl)) (hw _ (List.mem_of_getElem? (i := 3) rfl)) (by decide) (by decide)) (g := (mkF m 76 #[.val (.int p0), .val (.int p1), .val (.int p2), .val (.int p3), .val (.int p4), .val (.int zp1), .val (.int zp2), .val (.int zi1), .val (.int zi2), .val (.ref b58), .unset, .unset, .unset] [(.ref a65), (.int zp2), (.ref b63), (.ref b63)])) rfl (by rw [hml]; rfl) (Steps.refl _) (a := b63) (argsL := [(.int zp2), (.ref a65)]) (rest := [(.ref b63)]) (lenOf pd_4 rfl) rfl (by show 2 * 0 + _ ≤ _; exact Nat.le_of_eq rfl) (hb hby at_76) (fun _ _ => ⟨rfl, e65, (by decide : 4 + 2 ≤ _), (by decide : 24 + 20 ≤ _)⟩)
  dsimp only [Pt.U, Pt.locs, Pt.cells, Pt.slots] at X66 l66 y66 z66 st66 hQ66 hSn66 hgn66
  have hSi66 : s.Since T66.vm T66.heap.size := foldS (s := s) (vm0 := T61.vm) (T := T65) hSi61 (by rw [e65]; exact (Nat.le_trans (Nat.le_of_eq (congrArg Array.size e61)) E63.1)) hSn66 hgn66
  have hown : (s.setVm T66.vm).vm.findClass "com/example/denary/denary/context/MathContextEqualsPinLaw" = some m.cls := by show T66.vm.findClass _ = _; rw [hSn66.1.alike.findClass]; exact hown
  have hZ : Z.Warmed39 (s.setVm T66.vm).vm := State.Warmed39.trans (t := s.setVm T61.vm) hZ hSn66.1
  have X66 : Stand p l e room_1 (s.setVm T66.vm) m #[(.int p0), (.int p1), (.int p2), (.int p3), (.int p4)] below meth c T66 L66 k66 n66 := X66
  rw [y66, z66] at X66
  have X66 : Stand _ _ _ _ _ _ _ _ _ _ T66 L66 6 44 := X66
  obtain ⟨h66, e66⟩ : ∃ h, T66.heap = h := ⟨_, rfl⟩
  rw [e66] at hQ66
  obtain ⟨rfl, N66q, K66q, G66_0, G66_1, G66_2⟩ := hQ66
  have N66 : Fr n0 L66 := by rw [l66]; exact Fr.app N65 N66q
  have K67 : Keep h0 h66 [] := K64.trans K66q (fun x hx => (List.mem_cons.mp hx).elim (fun e => e ▸ Or.inr sz_b63) (fun hx => nomatch hx))
  refine own_via (T66.setTop (mkF m 79 #[.val (.int p0), .val (.int p1), .val (.int p2), .val (.int p3), .val (.int p4), .val (.int zp1), .val (.int zp2), .val (.int zi1), .val (.int zi2), .val (.ref b58), .unset, .unset, .unset] [(.ref b63)])) (fun t k => st66.trans k) ?_
  refine own_via (T66.setTop (mkF m 81 #[.val (.int p0), .val (.int p1), .val (.int p2), .val (.int p3), .val (.int p4), .val (.int zp1), .val (.int zp2), .val (.int zi1), .val (.int zi2), .val (.ref b58), .val (.ref b63), .unset, .unset] [])) (fun t k => XS.astore X66.here hx rfl (hb hby at_79) rfl rfl (l' := #[.val (.int p0), .val (.int p1), .val (.int p2), .val (.int p3), .val (.int p4), .val (.int zp1), .val (.int zp2), .val (.int zi1), .val (.int zi2), .val (.ref b58), .val (.ref b63), .unset, .unset]) rfl k) ?_
  refine own_via (T66.setTop (mkF m 83 #[.val (.int p0), .val (.int p1), .val (.int p2), .val (.int p3), .val (.int p4), .val (.int zp1), .val (.int zp2), .val (.int zi1), .val (.int zi2), .val (.ref b58), .val (.ref b63), .unset, .unset] [(.int p4)])) (fun t k => XS.iload X66.here hx rfl (hb hby at_81) rfl  k) ?_
  refine own_via (T66.setTop (mkF m 84 #[.val (.int p0), .val (.int p1), .val (.int p2), .val (.int p3), .val (.int p4), .val (.int zp1), .val (.int zp2), .val (.int zi1), .val (.int zi2), .val (.ref b58), .val (.ref b63), .unset, .unset] [(.int (3 : Int32)), (.int p4)])) (fun t k => XS.iconst X66.here hx rfl (hb hby at_83) k) ?_
  refine own_via (T66.setTop (mkF m 85 #[.val (.int p0), .val (.int p1), .val (.int p2), .val (.int p3), .val (.int p4), .val (.int zp1), .val (.int zp2), .val (.int zi1), .val (.int zi2), .val (.ref b58), .val (.ref b63), .unset, .unset] [(.int (p4 &&& (3 : Int32)))])) (fun t k => XS.iand X66.here hx rfl (hb hby at_84) rfl k) ?_
  obtain ⟨zk, hzk⟩ : ∃ z : Int32, z = (p4 &&& (3 : Int32)) := ⟨_, rfl⟩
  refine own_via (T66.setTop (mkF m 87 #[.val (.int p0), .val (.int p1), .val (.int p2), .val (.int p3), .val (.int p4), .val (.int zp1), .val (.int zp2), .val (.int zi1), .val (.int zi2), .val (.ref b58), .val (.ref b63), .val (.int zk), .unset] [])) (fun t k => XS.istore X66.here hx rfl (hb hby at_85) rfl (l' := #[.val (.int p0), .val (.int p1), .val (.int p2), .val (.int p3), .val (.int p4), .val (.int zp1), .val (.int zp2), .val (.int zi1), .val (.int zi2), .val (.ref b58), .val (.ref b63), .val (.int zk), .unset]) (by rw [hzk]; rfl) k) ?_
  refine own_via (T66.setTop (mkF m 89 #[.val (.int p0), .val (.int p1), .val (.int p2), .val (.int p3), .val (.int p4), .val (.int zp1), .val (.int zp2), .val (.int zi1), .val (.int zi2), .val (.ref b58), .val (.ref b63), .val (.int zk), .unset] [(.int zk)])) (fun t k => XS.iload X66.here hx rfl (hb hby at_87) rfl  k) ?_
  by_cases hc89_68 : zk = (0 : Int32)
  · refine own_via (T66.setTop (mkF m 92 #[.val (.int p0), .val (.int p1), .val (.int p2), .val (.int p3), .val (.int p4), .val (.int zp1), .val (.int zp2), .val (.int zi1), .val (.int zi2), .val (.ref b58), .val (.ref b63), .val (.int zk), .unset] [])) (fun t k => XS.ifNo X66.here hx rfl (hb hby at_89) rfl ((if0 _ _).trans (teq hc89_68).2) k) ?_
    refine own_via (T66.setTop (mkF m 94 #[.val (.int p0), .val (.int p1), .val (.int p2), .val (.int p3), .val (.int p4), .val (.int zp1), .val (.int zp2), .val (.int zi1), .val (.int zi2), .val (.ref b58), .val (.ref b63), .val (.int zk), .unset] [(.ref b58)])) (fun t k => XS.aload X66.here hx rfl (hb hby at_92) rfl rfl k) ?_
    refine own_via (T66.setTop (mkF m 96 #[.val (.int p0), .val (.int p1), .val (.int p2), .val (.int p3), .val (.int p4), .val (.int zp1), .val (.int zp2), .val (.int zi1), .val (.int zi2), .val (.ref b58), .val (.ref b63), .val (.int zk), .unset] [(.ref b58), (.ref b58)])) (fun t k => XS.aload X66.here hx rfl (hb hby at_94) rfl rfl k) ?_
    have F70 := ((G61_0.ext E63).keep K66q)
    obtain ⟨cq69, kq69, q69a, q69b, q69c⟩ := isOf hZ e66 F70
    obtain ⟨_, _, ⟨T69, L69, k69, n69⟩, -, X69, ⟨Lc69, hQ69, l69, y69, z69⟩, st69⟩ := X66.virtualBack hx (y := (⟨"com/example/denary/denary/context/MathContext", "equals", "(Ljava/lang/Object;)Z"⟩ : MethodName)) (z := (⟨"com/example/denary/denary/context/MathContext", "equals", "(Ljava/lang/Object;)Z"⟩ : MethodName)) hown (mvT hZ (hw _ (List.mem_of_getElem? (i := 37) rfl))) (mvT hZ (hw _ (List.mem_of_getElem? (i := 38) rfl))) (notFace_of_selects (args := #[]) (mvT hZ (hw _ (List.mem_of_getElem? (i := 40) rfl)))) (mvT hZ (hw _ (List.mem_of_getElem? (i := 40) rfl))) (mvT hZ (hw _ (List.mem_of_getElem? (i := 39) rfl))) (by decide) (backOf (W := 0) (rm5s l Z a0 hw [] b58 h66 n0 (Nat.le_trans Z0 K67.1) ) hZ (hw _ (List.mem_of_getElem? (i := 41) rfl)) (hw _ (List.mem_of_getElem? (i := 3) rfl)) (by decide) (by decide)) q69a q69c (g := (mkF m 96 #[.val (.int p0), .val (.int p1), .val (.int p2), .val (.int p3), .val (.int p4), .val (.int zp1), .val (.int zp2), .val (.int zi1), .val (.int zi2), .val (.ref b58), .val (.ref b63), .val (.int zk), .unset] [(.ref b58), (.ref b58)])) rfl (by rw [hml]; rfl) (Steps.refl _) (argsL := [(.ref b58)]) (rest := []) (lenOf pd_5 rfl) rfl (by show 2 * 0 + _ ≤ _; exact Nat.le_of_eq rfl) (hb hby at_96) (fun _ _ => ⟨rfl, e66, (by decide : 6 + 0 ≤ _), (by decide : 44 + 0 ≤ _)⟩)
    dsimp only [Pt.U, Pt.locs, Pt.cells, Pt.slots] at X69 l69 y69 z69 st69 hQ69
    rw [y69, z69] at X69
    have X69 : Stand _ _ _ _ _ _ _ _ _ _ T69 L69 6 44 := X69
    obtain ⟨rfl, N69q, e69⟩ := hQ69
    have N69 : Fr n0 L69 := by rw [l69]; exact Fr.app N66 N69q
    refine own_via (T69.setTop (mkF m 99 #[.val (.int p0), .val (.int p1), .val (.int p2), .val (.int p3), .val (.int p4), .val (.int zp1), .val (.int zp2), .val (.int zi1), .val (.int zi2), .val (.ref b58), .val (.ref b63), .val (.int zk), .unset] [(.int (1 : Int32))])) (fun t k => st69.trans k) ?_
    refine own_leaveW (s := s) (vm₁ := T66.vm) X69 hSi66 (by rw [e69]; exact (Nat.le_of_eq (congrArg Array.size e66))) Bd.notSynchronized (v := some (.int (1 : Int32))) (fun h => by rw [Bd.returns] at h; cases h) (fun fs hr => retN X69 hx (t := .boolean) Bd.returns (by simp) (hb hby at_99) hr) ?_ (by decide) (by decide)
    exact ⟨rfl, N69⟩
  · refine own_via (T66.setTop (mkF m 100 #[.val (.int p0), .val (.int p1), .val (.int p2), .val (.int p3), .val (.int p4), .val (.int zp1), .val (.int zp2), .val (.int zi1), .val (.int zi2), .val (.ref b58), .val (.ref b63), .val (.int zk), .unset] [])) (fun t k => XS.ifYes X66.here hx rfl (pc0 := 89) (pc' := 100) rfl (hb hby at_89) rfl ((if0 _ _).trans (feq hc89_68).2) (by decide) (by decide) k) ?_
    refine own_via (T66.setTop (mkF m 102 #[.val (.int p0), .val (.int p1), .val (.int p2), .val (.int p3), .val (.int p4), .val (.int zp1), .val (.int zp2), .val (.int zi1), .val (.int zi2), .val (.ref b58), .val (.ref b63), .val (.int zk), .unset] [(.int zk)])) (fun t k => XS.iload X66.here hx rfl (hb hby at_100) rfl  k) ?_
    refine own_via (T66.setTop (mkF m 103 #[.val (.int p0), .val (.int p1), .val (.int p2), .val (.int p3), .val (.int p4), .val (.int zp1), .val (.int zp2), .val (.int zi1), .val (.int zi2), .val (.ref b58), .val (.ref b63), .val (.int zk), .unset] [(.int (1 : Int32)), (.int zk)])) (fun t k => XS.iconst X66.here hx rfl (hb hby at_102) k) ?_
    by_cases hc103_71 : zk = (1 : Int32)
    · refine own_via (T66.setTop (mkF m 106 #[.val (.int p0), .val (.int p1), .val (.int p2), .val (.int p3), .val (.int p4), .val (.int zp1), .val (.int zp2), .val (.int zi1), .val (.int zi2), .val (.ref b58), .val (.ref b63), .val (.int zk), .unset] [])) (fun t k => XS.icmpNo X66.here hx rfl (hb hby at_103) rfl (teq hc103_71).2 k) ?_
      refine own_via (T66.setTop (mkF m 108 #[.val (.int p0), .val (.int p1), .val (.int p2), .val (.int p3), .val (.int p4), .val (.int zp1), .val (.int zp2), .val (.int zi1), .val (.int zi2), .val (.ref b58), .val (.ref b63), .val (.int zk), .unset] [(.int zp1)])) (fun t k => XS.iload X66.here hx rfl (hb hby at_106) rfl  k) ?_
      refine own_via (T66.setTop (mkF m 110 #[.val (.int p0), .val (.int p1), .val (.int p2), .val (.int p3), .val (.int p4), .val (.int zp1), .val (.int zp2), .val (.int zi1), .val (.int zi2), .val (.ref b58), .val (.ref b63), .val (.int zk), .unset] [(.int zp2), (.int zp1)])) (fun t k => XS.iload X66.here hx rfl (hb hby at_108) rfl  k) ?_
      obtain ⟨zex, hzex⟩ : ∃ z : Int32, z = (if zp1 = zp2 then (if zi1 = zi2 then (1 : Int32) else (0 : Int32)) else (0 : Int32)) := ⟨_, rfl⟩
      refine own_via (T66.setTop (mkF m 125 #[.val (.int p0), .val (.int p1), .val (.int p2), .val (.int p3), .val (.int p4), .val (.int zp1), .val (.int zp2), .val (.int zi1), .val (.int zi2), .val (.ref b58), .val (.ref b63), .val (.int zk), .unset] [(.int zex)])) (fun t k => ?_) ?_
      · skip
        by_cases hj110_72 : zp1 = zp2
        · refine XS.icmpNo X66.here hx rfl (hb hby at_110) rfl (teq hj110_72).2 (?_ : Steps p.tables e below (T66.setTop (mkF m 113 #[.val (.int p0), .val (.int p1), .val (.int p2), .val (.int p3), .val (.int p4), .val (.int zp1), .val (.int zp2), .val (.int zi1), .val (.int zi2), .val (.ref b58), .val (.ref b63), .val (.int zk), .unset] [])) t)
          refine XS.iload X66.here hx rfl (hb hby at_113) rfl  (?_ : Steps p.tables e below (T66.setTop (mkF m 115 #[.val (.int p0), .val (.int p1), .val (.int p2), .val (.int p3), .val (.int p4), .val (.int zp1), .val (.int zp2), .val (.int zi1), .val (.int zi2), .val (.ref b58), .val (.ref b63), .val (.int zk), .unset] [(.int zi1)])) t)
          refine XS.iload X66.here hx rfl (hb hby at_115) rfl  (?_ : Steps p.tables e below (T66.setTop (mkF m 117 #[.val (.int p0), .val (.int p1), .val (.int p2), .val (.int p3), .val (.int p4), .val (.int zp1), .val (.int zp2), .val (.int zi1), .val (.int zi2), .val (.ref b58), .val (.ref b63), .val (.int zk), .unset] [(.int zi2), (.int zi1)])) t)
          by_cases hj117_73 : zi1 = zi2
          · refine XS.icmpNo X66.here hx rfl (hb hby at_117) rfl (teq hj117_73).2 (?_ : Steps p.tables e below (T66.setTop (mkF m 120 #[.val (.int p0), .val (.int p1), .val (.int p2), .val (.int p3), .val (.int p4), .val (.int zp1), .val (.int zp2), .val (.int zi1), .val (.int zi2), .val (.ref b58), .val (.ref b63), .val (.int zk), .unset] [])) t)
            refine XS.iconst X66.here hx rfl (hb hby at_120) (?_ : Steps p.tables e below (T66.setTop (mkF m 121 #[.val (.int p0), .val (.int p1), .val (.int p2), .val (.int p3), .val (.int p4), .val (.int zp1), .val (.int zp2), .val (.int zi1), .val (.int zi2), .val (.ref b58), .val (.ref b63), .val (.int zk), .unset] [(.int (1 : Int32))])) t)
            refine XS.goto X66.here hx rfl (pc0 := 121) (pc' := 125) rfl (hb hby at_121) (by decide) (by decide) (?_ : Steps p.tables e below (T66.setTop (mkF m 125 #[.val (.int p0), .val (.int p1), .val (.int p2), .val (.int p3), .val (.int p4), .val (.int zp1), .val (.int zp2), .val (.int zi1), .val (.int zi2), .val (.ref b58), .val (.ref b63), .val (.int zk), .unset] [(.int (1 : Int32))])) t)
            have q_zex := ((hzex.trans (if_pos hj110_72)).trans (if_pos hj117_73))
            subst q_zex
            exact k
          · refine XS.icmpYes X66.here hx rfl (pc0 := 117) (pc' := 124) rfl (hb hby at_117) rfl (feq hj117_73).2 (by decide) (by decide) (?_ : Steps p.tables e below (T66.setTop (mkF m 124 #[.val (.int p0), .val (.int p1), .val (.int p2), .val (.int p3), .val (.int p4), .val (.int zp1), .val (.int zp2), .val (.int zi1), .val (.int zi2), .val (.ref b58), .val (.ref b63), .val (.int zk), .unset] [])) t)
            refine XS.iconst X66.here hx rfl (hb hby at_124) (?_ : Steps p.tables e below (T66.setTop (mkF m 125 #[.val (.int p0), .val (.int p1), .val (.int p2), .val (.int p3), .val (.int p4), .val (.int zp1), .val (.int zp2), .val (.int zi1), .val (.int zi2), .val (.ref b58), .val (.ref b63), .val (.int zk), .unset] [(.int (0 : Int32))])) t)
            have q_zex := ((hzex.trans (if_pos hj110_72)).trans (if_neg hj117_73))
            subst q_zex
            exact k
        · refine XS.icmpYes X66.here hx rfl (pc0 := 110) (pc' := 124) rfl (hb hby at_110) rfl (feq hj110_72).2 (by decide) (by decide) (?_ : Steps p.tables e below (T66.setTop (mkF m 124 #[.val (.int p0), .val (.int p1), .val (.int p2), .val (.int p3), .val (.int p4), .val (.int zp1), .val (.int zp2), .val (.int zi1), .val (.int zi2), .val (.ref b58), .val (.ref b63), .val (.int zk), .unset] [])) t)
          refine XS.iconst X66.here hx rfl (hb hby at_124) (?_ : Steps p.tables e below (T66.setTop (mkF m 125 #[.val (.int p0), .val (.int p1), .val (.int p2), .val (.int p3), .val (.int p4), .val (.int zp1), .val (.int zp2), .val (.int zi1), .val (.int zi2), .val (.ref b58), .val (.ref b63), .val (.int zk), .unset] [(.int (0 : Int32))])) t)
          have q_zex := (hzex.trans (if_neg hj110_72))
          subst q_zex
          exact k
      refine own_via (T66.setTop (mkF m 127 #[.val (.int p0), .val (.int p1), .val (.int p2), .val (.int p3), .val (.int p4), .val (.int zp1), .val (.int zp2), .val (.int zi1), .val (.int zi2), .val (.ref b58), .val (.ref b63), .val (.int zk), .val (.int zex)] [])) (fun t k => XS.istore X66.here hx rfl (hb hby at_125) rfl (l' := #[.val (.int p0), .val (.int p1), .val (.int p2), .val (.int p3), .val (.int p4), .val (.int zp1), .val (.int zp2), .val (.int zi1), .val (.int zi2), .val (.ref b58), .val (.ref b63), .val (.int zk), .val (.int zex)]) rfl k) ?_
      have hlaw := own_law1 hinj (own_m7 hzi1) (own_m7b (own_m7 hzi1) hzi2) ha60 ha65 hzex
      refine own_via (T66.setTop (mkF m 129 #[.val (.int p0), .val (.int p1), .val (.int p2), .val (.int p3), .val (.int p4), .val (.int zp1), .val (.int zp2), .val (.int zi1), .val (.int zi2), .val (.ref b58), .val (.ref b63), .val (.int zk), .val (.int zex)] [(.ref b58)])) (fun t k => XS.aload X66.here hx rfl (hb hby at_127) rfl rfl k) ?_
      refine own_via (T66.setTop (mkF m 131 #[.val (.int p0), .val (.int p1), .val (.int p2), .val (.int p3), .val (.int p4), .val (.int zp1), .val (.int zp2), .val (.int zi1), .val (.int zi2), .val (.ref b58), .val (.ref b63), .val (.int zk), .val (.int zex)] [(.ref b63), (.ref b58)])) (fun t k => XS.aload X66.here hx rfl (hb hby at_129) rfl rfl k) ?_
      have F75 := ((G61_1.ext E63).keep K66q (fun q => ne_b58_b63 (List.mem_singleton.mp q)))
      have F76 := ((G61_2.ext E63).keep K66q (fun q => ne_b58_b63 (List.mem_singleton.mp q)))
      have F77 := ((G61_0.ext E63).keep K66q)
      obtain ⟨cq74, kq74, q74a, q74b, q74c⟩ := isOf hZ e66 F77
      obtain ⟨_, _, ⟨T74, L74, k74, n74⟩, -, X74, ⟨Lc74, hQ74, l74, y74, z74⟩, st74⟩ := X66.virtualBack hx (y := (⟨"com/example/denary/denary/context/MathContext", "equals", "(Ljava/lang/Object;)Z"⟩ : MethodName)) (z := (⟨"com/example/denary/denary/context/MathContext", "equals", "(Ljava/lang/Object;)Z"⟩ : MethodName)) hown (mvT hZ (hw _ (List.mem_of_getElem? (i := 37) rfl))) (mvT hZ (hw _ (List.mem_of_getElem? (i := 38) rfl))) (notFace_of_selects (args := #[]) (mvT hZ (hw _ (List.mem_of_getElem? (i := 40) rfl)))) (mvT hZ (hw _ (List.mem_of_getElem? (i := 40) rfl))) (mvT hZ (hw _ (List.mem_of_getElem? (i := 39) rfl))) (by decide) (backOf (W := 0) (rm5 l Z a0 hw [] b58 b63 h66 n0 (Nat.le_trans Z0 K67.1) zp1 zp2 a60 a65 F75 G66_1 F76 G66_2 G66_0 ne_b58_b63) hZ (hw _ (List.mem_of_getElem? (i := 41) rfl)) (hw _ (List.mem_of_getElem? (i := 3) rfl)) (by decide) (by decide)) q74a q74c (g := (mkF m 131 #[.val (.int p0), .val (.int p1), .val (.int p2), .val (.int p3), .val (.int p4), .val (.int zp1), .val (.int zp2), .val (.int zi1), .val (.int zi2), .val (.ref b58), .val (.ref b63), .val (.int zk), .val (.int zex)] [(.ref b63), (.ref b58)])) rfl (by rw [hml]; rfl) (Steps.refl _) (argsL := [(.ref b63)]) (rest := []) (lenOf pd_5 rfl) rfl (by show 2 * 0 + _ ≤ _; exact Nat.le_of_eq rfl) (hb hby at_131) (fun _ _ => ⟨rfl, e66, (by decide : 6 + 0 ≤ _), (by decide : 44 + 0 ≤ _)⟩)
      dsimp only [Pt.U, Pt.locs, Pt.cells, Pt.slots] at X74 l74 y74 z74 st74 hQ74
      rw [y74, z74] at X74
      have X74 : Stand _ _ _ _ _ _ _ _ _ _ T74 L74 6 44 := X74
      obtain ⟨rfl, N74q, e74⟩ := hQ74
      have N74 : Fr n0 L74 := by rw [l74]; exact Fr.app N66 N74q
      refine own_via (T74.setTop (mkF m 134 #[.val (.int p0), .val (.int p1), .val (.int p2), .val (.int p3), .val (.int p4), .val (.int zp1), .val (.int zp2), .val (.int zi1), .val (.int zi2), .val (.ref b58), .val (.ref b63), .val (.int zk), .val (.int zex)] [(.int (own_eqm zp1 zp2 a60 a65))])) (fun t k => st74.trans k) ?_
      refine own_via (T74.setTop (mkF m 136 #[.val (.int p0), .val (.int p1), .val (.int p2), .val (.int p3), .val (.int p4), .val (.int zp1), .val (.int zp2), .val (.int zi1), .val (.int zi2), .val (.ref b58), .val (.ref b63), .val (.int zk), .val (.int zex)] [(.int zex), (.int (own_eqm zp1 zp2 a60 a65))])) (fun t k => XS.iload X74.here hx rfl (hb hby at_134) rfl  k) ?_
      by_cases hc136_78 : (own_eqm zp1 zp2 a60 a65) = zex
      · refine own_via (T74.setTop (mkF m 139 #[.val (.int p0), .val (.int p1), .val (.int p2), .val (.int p3), .val (.int p4), .val (.int zp1), .val (.int zp2), .val (.int zi1), .val (.int zi2), .val (.ref b58), .val (.ref b63), .val (.int zk), .val (.int zex)] [])) (fun t k => XS.icmpNo X74.here hx rfl (hb hby at_136) rfl (teq hc136_78).2 k) ?_
        refine own_via (T74.setTop (mkF m 141 #[.val (.int p0), .val (.int p1), .val (.int p2), .val (.int p3), .val (.int p4), .val (.int zp1), .val (.int zp2), .val (.int zi1), .val (.int zi2), .val (.ref b58), .val (.ref b63), .val (.int zk), .val (.int zex)] [(.ref b63)])) (fun t k => XS.aload X74.here hx rfl (hb hby at_139) rfl rfl k) ?_
        refine own_via (T74.setTop (mkF m 143 #[.val (.int p0), .val (.int p1), .val (.int p2), .val (.int p3), .val (.int p4), .val (.int zp1), .val (.int zp2), .val (.int zi1), .val (.int zi2), .val (.ref b58), .val (.ref b63), .val (.int zk), .val (.int zex)] [(.ref b58), (.ref b63)])) (fun t k => XS.aload X74.here hx rfl (hb hby at_141) rfl rfl k) ?_
        obtain ⟨cq79, kq79, q79a, q79b, q79c⟩ := isOf hZ e74 G66_0
        obtain ⟨_, _, ⟨T79, L79, k79, n79⟩, -, X79, ⟨Lc79, hQ79, l79, y79, z79⟩, st79⟩ := X74.virtualBack hx (y := (⟨"com/example/denary/denary/context/MathContext", "equals", "(Ljava/lang/Object;)Z"⟩ : MethodName)) (z := (⟨"com/example/denary/denary/context/MathContext", "equals", "(Ljava/lang/Object;)Z"⟩ : MethodName)) hown (mvT hZ (hw _ (List.mem_of_getElem? (i := 37) rfl))) (mvT hZ (hw _ (List.mem_of_getElem? (i := 38) rfl))) (notFace_of_selects (args := #[]) (mvT hZ (hw _ (List.mem_of_getElem? (i := 40) rfl)))) (mvT hZ (hw _ (List.mem_of_getElem? (i := 40) rfl))) (mvT hZ (hw _ (List.mem_of_getElem? (i := 39) rfl))) (by decide) (backOf (W := 0) (rm5 l Z a0 hw [] b63 b58 h66 n0 (Nat.le_trans Z0 K67.1) zp2 zp1 a65 a60 G66_1 F75 G66_2 F76 F77 (Ne.symm ne_b58_b63)) hZ (hw _ (List.mem_of_getElem? (i := 41) rfl)) (hw _ (List.mem_of_getElem? (i := 3) rfl)) (by decide) (by decide)) q79a q79c (g := (mkF m 143 #[.val (.int p0), .val (.int p1), .val (.int p2), .val (.int p3), .val (.int p4), .val (.int zp1), .val (.int zp2), .val (.int zi1), .val (.int zi2), .val (.ref b58), .val (.ref b63), .val (.int zk), .val (.int zex)] [(.ref b58), (.ref b63)])) rfl (by rw [hml]; rfl) (Steps.refl _) (argsL := [(.ref b58)]) (rest := []) (lenOf pd_5 rfl) rfl (by show 2 * 0 + _ ≤ _; exact Nat.le_of_eq rfl) (hb hby at_143) (fun _ _ => ⟨rfl, e74, (by decide : 6 + 0 ≤ _), (by decide : 44 + 0 ≤ _)⟩)
        dsimp only [Pt.U, Pt.locs, Pt.cells, Pt.slots] at X79 l79 y79 z79 st79 hQ79
        rw [y79, z79] at X79
        have X79 : Stand _ _ _ _ _ _ _ _ _ _ T79 L79 6 44 := X79
        obtain ⟨rfl, N79q, e79⟩ := hQ79
        have N79 : Fr n0 L79 := by rw [l79]; exact Fr.app N74 N79q
        refine own_via (T79.setTop (mkF m 146 #[.val (.int p0), .val (.int p1), .val (.int p2), .val (.int p3), .val (.int p4), .val (.int zp1), .val (.int zp2), .val (.int zi1), .val (.int zi2), .val (.ref b58), .val (.ref b63), .val (.int zk), .val (.int zex)] [(.int (own_eqm zp2 zp1 a65 a60))])) (fun t k => st79.trans k) ?_
        refine own_via (T79.setTop (mkF m 148 #[.val (.int p0), .val (.int p1), .val (.int p2), .val (.int p3), .val (.int p4), .val (.int zp1), .val (.int zp2), .val (.int zi1), .val (.int zi2), .val (.ref b58), .val (.ref b63), .val (.int zk), .val (.int zex)] [(.int zex), (.int (own_eqm zp2 zp1 a65 a60))])) (fun t k => XS.iload X79.here hx rfl (hb hby at_146) rfl  k) ?_
        obtain ⟨z80, hz80⟩ : ∃ z : Int32, z = (if (own_eqm zp2 zp1 a65 a60) = zex then (1 : Int32) else (0 : Int32)) := ⟨_, rfl⟩
        refine own_via (T79.setTop (mkF m 156 #[.val (.int p0), .val (.int p1), .val (.int p2), .val (.int p3), .val (.int p4), .val (.int zp1), .val (.int zp2), .val (.int zi1), .val (.int zi2), .val (.ref b58), .val (.ref b63), .val (.int zk), .val (.int zex)] [(.int z80)])) (fun t k => ?_) ?_
        · skip
          by_cases hj148_81 : (own_eqm zp2 zp1 a65 a60) = zex
          · refine XS.icmpNo X79.here hx rfl (hb hby at_148) rfl (teq hj148_81).2 (?_ : Steps p.tables e below (T79.setTop (mkF m 151 #[.val (.int p0), .val (.int p1), .val (.int p2), .val (.int p3), .val (.int p4), .val (.int zp1), .val (.int zp2), .val (.int zi1), .val (.int zi2), .val (.ref b58), .val (.ref b63), .val (.int zk), .val (.int zex)] [])) t)
            refine XS.iconst X79.here hx rfl (hb hby at_151) (?_ : Steps p.tables e below (T79.setTop (mkF m 152 #[.val (.int p0), .val (.int p1), .val (.int p2), .val (.int p3), .val (.int p4), .val (.int zp1), .val (.int zp2), .val (.int zi1), .val (.int zi2), .val (.ref b58), .val (.ref b63), .val (.int zk), .val (.int zex)] [(.int (1 : Int32))])) t)
            refine XS.goto X79.here hx rfl (pc0 := 152) (pc' := 156) rfl (hb hby at_152) (by decide) (by decide) (?_ : Steps p.tables e below (T79.setTop (mkF m 156 #[.val (.int p0), .val (.int p1), .val (.int p2), .val (.int p3), .val (.int p4), .val (.int zp1), .val (.int zp2), .val (.int zi1), .val (.int zi2), .val (.ref b58), .val (.ref b63), .val (.int zk), .val (.int zex)] [(.int (1 : Int32))])) t)
            have q_z80 := (hz80.trans (if_pos hj148_81))
            subst q_z80
            exact k
          · refine XS.icmpYes X79.here hx rfl (pc0 := 148) (pc' := 155) rfl (hb hby at_148) rfl (feq hj148_81).2 (by decide) (by decide) (?_ : Steps p.tables e below (T79.setTop (mkF m 155 #[.val (.int p0), .val (.int p1), .val (.int p2), .val (.int p3), .val (.int p4), .val (.int zp1), .val (.int zp2), .val (.int zi1), .val (.int zi2), .val (.ref b58), .val (.ref b63), .val (.int zk), .val (.int zex)] [])) t)
            refine XS.iconst X79.here hx rfl (hb hby at_155) (?_ : Steps p.tables e below (T79.setTop (mkF m 156 #[.val (.int p0), .val (.int p1), .val (.int p2), .val (.int p3), .val (.int p4), .val (.int zp1), .val (.int zp2), .val (.int zi1), .val (.int zi2), .val (.ref b58), .val (.ref b63), .val (.int zk), .val (.int zex)] [(.int (0 : Int32))])) t)
            have q_z80 := (hz80.trans (if_neg hj148_81))
            subst q_z80
            exact k
        refine own_leaveW (s := s) (vm₁ := T66.vm) X79 hSi66 (by rw [e79]; exact (Nat.le_of_eq (congrArg Array.size e66))) Bd.notSynchronized (v := some (.int (nar .boolean z80))) (fun h => by rw [Bd.returns] at h; cases h) (fun fs hr => retN X79 hx (t := .boolean) Bd.returns (by simp) (hb hby at_156) hr) ?_ (by decide) (by decide)
        refine ⟨?_, N79⟩
        rw [hz80, if_pos hlaw.2]; rfl
      · exact absurd hlaw.1 hc136_78
    · refine own_via (T66.setTop (mkF m 157 #[.val (.int p0), .val (.int p1), .val (.int p2), .val (.int p3), .val (.int p4), .val (.int zp1), .val (.int zp2), .val (.int zi1), .val (.int zi2), .val (.ref b58), .val (.ref b63), .val (.int zk), .unset] [])) (fun t k => XS.icmpYes X66.here hx rfl (pc0 := 103) (pc' := 157) rfl (hb hby at_103) rfl (feq hc103_71).2 (by decide) (by decide) k) ?_
      refine own_via (T66.setTop (mkF m 159 #[.val (.int p0), .val (.int p1), .val (.int p2), .val (.int p3), .val (.int p4), .val (.int zp1), .val (.int zp2), .val (.int zi1), .val (.int zi2), .val (.ref b58), .val (.ref b63), .val (.int zk), .unset] [(.int zk)])) (fun t k => XS.iload X66.here hx rfl (hb hby at_157) rfl  k) ?_
      refine own_via (T66.setTop (mkF m 160 #[.val (.int p0), .val (.int p1), .val (.int p2), .val (.int p3), .val (.int p4), .val (.int zp1), .val (.int zp2), .val (.int zi1), .val (.int zi2), .val (.ref b58), .val (.ref b63), .val (.int zk), .unset] [(.int (2 : Int32)), (.int zk)])) (fun t k => XS.iconst X66.here hx rfl (hb hby at_159) k) ?_
      by_cases hc160_82 : zk = (2 : Int32)
      · refine own_via (T66.setTop (mkF m 163 #[.val (.int p0), .val (.int p1), .val (.int p2), .val (.int p3), .val (.int p4), .val (.int zp1), .val (.int zp2), .val (.int zi1), .val (.int zi2), .val (.ref b58), .val (.ref b63), .val (.int zk), .unset] [])) (fun t k => XS.icmpNo X66.here hx rfl (hb hby at_160) rfl (teq hc160_82).2 k) ?_
        refine own_via (T66.setTop (mkF m 165 #[.val (.int p0), .val (.int p1), .val (.int p2), .val (.int p3), .val (.int p4), .val (.int zp1), .val (.int zp2), .val (.int zi1), .val (.int zi2), .val (.ref b58), .val (.ref b63), .val (.int zk), .unset] [(.ref b58)])) (fun t k => XS.aload X66.here hx rfl (hb hby at_163) rfl rfl k) ?_
        refine own_via (T66.setTop (mkF m 166 #[.val (.int p0), .val (.int p1), .val (.int p2), .val (.int p3), .val (.int p4), .val (.int zp1), .val (.int zp2), .val (.int zi1), .val (.int zi2), .val (.ref b58), .val (.ref b63), .val (.int zk), .unset] [.null, (.ref b58)])) (fun t k => XS.aconstNull X66.here hx rfl (hb hby at_165) k) ?_
        have F84 := ((G61_0.ext E63).keep K66q)
        obtain ⟨cq83, kq83, q83a, q83b, q83c⟩ := isOf hZ e66 F84
        obtain ⟨_, _, ⟨T83, L83, k83, n83⟩, -, X83, ⟨Lc83, hQ83, l83, y83, z83⟩, st83⟩ := X66.virtualBack hx (y := (⟨"com/example/denary/denary/context/MathContext", "equals", "(Ljava/lang/Object;)Z"⟩ : MethodName)) (z := (⟨"com/example/denary/denary/context/MathContext", "equals", "(Ljava/lang/Object;)Z"⟩ : MethodName)) hown (mvT hZ (hw _ (List.mem_of_getElem? (i := 37) rfl))) (mvT hZ (hw _ (List.mem_of_getElem? (i := 38) rfl))) (notFace_of_selects (args := #[]) (mvT hZ (hw _ (List.mem_of_getElem? (i := 40) rfl)))) (mvT hZ (hw _ (List.mem_of_getElem? (i := 40) rfl))) (mvT hZ (hw _ (List.mem_of_getElem? (i := 39) rfl))) (by decide) (backOf (W := 0) (rm5n l Z a0 hw [] b58 h66 n0 (Nat.le_trans Z0 K67.1) ) hZ (hw _ (List.mem_of_getElem? (i := 41) rfl)) (hw _ (List.mem_of_getElem? (i := 3) rfl)) (by decide) (by decide)) q83a q83c (g := (mkF m 166 #[.val (.int p0), .val (.int p1), .val (.int p2), .val (.int p3), .val (.int p4), .val (.int zp1), .val (.int zp2), .val (.int zi1), .val (.int zi2), .val (.ref b58), .val (.ref b63), .val (.int zk), .unset] [.null, (.ref b58)])) rfl (by rw [hml]; rfl) (Steps.refl _) (argsL := [.null]) (rest := []) (lenOf pd_5 rfl) rfl (by show 2 * 0 + _ ≤ _; exact Nat.le_of_eq rfl) (hb hby at_166) (fun _ _ => ⟨rfl, e66, (by decide : 6 + 0 ≤ _), (by decide : 44 + 0 ≤ _)⟩)
        dsimp only [Pt.U, Pt.locs, Pt.cells, Pt.slots] at X83 l83 y83 z83 st83 hQ83
        rw [y83, z83] at X83
        have X83 : Stand _ _ _ _ _ _ _ _ _ _ T83 L83 6 44 := X83
        obtain ⟨rfl, N83q, e83⟩ := hQ83
        have N83 : Fr n0 L83 := by rw [l83]; exact Fr.app N66 N83q
        refine own_via (T83.setTop (mkF m 169 #[.val (.int p0), .val (.int p1), .val (.int p2), .val (.int p3), .val (.int p4), .val (.int zp1), .val (.int zp2), .val (.int zi1), .val (.int zi2), .val (.ref b58), .val (.ref b63), .val (.int zk), .unset] [(.int (0 : Int32))])) (fun t k => st83.trans k) ?_
        refine own_via (T83.setTop (mkF m 172 #[.val (.int p0), .val (.int p1), .val (.int p2), .val (.int p3), .val (.int p4), .val (.int zp1), .val (.int zp2), .val (.int zi1), .val (.int zi2), .val (.ref b58), .val (.ref b63), .val (.int zk), .unset] [])) (fun t k => XS.ifNo X83.here hx rfl (hb hby at_169) rfl ((if0 _ _).trans (teq (by decide)).2) k) ?_
        refine own_via (T83.setTop (mkF m 173 #[.val (.int p0), .val (.int p1), .val (.int p2), .val (.int p3), .val (.int p4), .val (.int zp1), .val (.int zp2), .val (.int zi1), .val (.int zi2), .val (.ref b58), .val (.ref b63), .val (.int zk), .unset] [(.int (1 : Int32))])) (fun t k => XS.iconst X83.here hx rfl (hb hby at_172) k) ?_
        refine own_via (T83.setTop (mkF m 177 #[.val (.int p0), .val (.int p1), .val (.int p2), .val (.int p3), .val (.int p4), .val (.int zp1), .val (.int zp2), .val (.int zi1), .val (.int zi2), .val (.ref b58), .val (.ref b63), .val (.int zk), .unset] [(.int (1 : Int32))])) (fun t k => XS.goto X83.here hx rfl (pc0 := 173) (pc' := 177) rfl (hb hby at_173) (by decide) (by decide) k) ?_
        refine own_leaveW (s := s) (vm₁ := T66.vm) X83 hSi66 (by rw [e83]; exact (Nat.le_of_eq (congrArg Array.size e66))) Bd.notSynchronized (v := some (.int (1 : Int32))) (fun h => by rw [Bd.returns] at h; cases h) (fun fs hr => retN X83 hx (t := .boolean) Bd.returns (by simp) (hb hby at_177) hr) ?_ (by decide) (by decide)
        exact ⟨rfl, N83⟩
      · refine own_via (T66.setTop (mkF m 178 #[.val (.int p0), .val (.int p1), .val (.int p2), .val (.int p3), .val (.int p4), .val (.int zp1), .val (.int zp2), .val (.int zi1), .val (.int zi2), .val (.ref b58), .val (.ref b63), .val (.int zk), .unset] [])) (fun t k => XS.icmpYes X66.here hx rfl (pc0 := 160) (pc' := 178) rfl (hb hby at_160) rfl (feq hc160_82).2 (by decide) (by decide) k) ?_
        refine own_via (T66.setTop (mkF m 180 #[.val (.int p0), .val (.int p1), .val (.int p2), .val (.int p3), .val (.int p4), .val (.int zp1), .val (.int zp2), .val (.int zi1), .val (.int zi2), .val (.ref b58), .val (.ref b63), .val (.int zk), .unset] [(.ref b58)])) (fun t k => XS.aload X66.here hx rfl (hb hby at_178) rfl rfl k) ?_
        refine own_via (T66.setTop (mkF m 182 #[.val (.int p0), .val (.int p1), .val (.int p2), .val (.int p3), .val (.int p4), .val (.int zp1), .val (.int zp2), .val (.int zi1), .val (.int zi2), .val (.ref b58), .val (.ref b63), .val (.int zk), .unset] [(.int zi1), (.ref b58)])) (fun t k => XS.iload X66.here hx rfl (hb hby at_180) rfl  k) ?_
        obtain ⟨_, _, ⟨T85, L85, k85, n85⟩, -, X85, ⟨Lc85, hQ85, l85, y85, z85⟩, st85⟩ := Jvm.LawKit.callS X66 hx (y := (⟨"com/example/denary/denary/context/MathContextEqualsPinLaw", "mode", "(I)Lcom/example/denary/denary/context/RoundingMode;"⟩ : MethodName)) hown (mvT hZ (hw _ (List.mem_of_getElem? (i := 4) rfl))) (mvT hZ (hw _ (List.mem_of_getElem? (i := 5) rfl))) (mvT hZ (hw _ (List.mem_of_getElem? (i := 6) rfl))) (mvT hZ (hw _ (List.mem_of_getElem? (i := 7) rfl))) (by decide) (backOf (W := 1) (rm1 l Z a0 hw [] zi1 h66 n0 (Nat.le_trans Z0 K67.1) M (hM.keep K67)) hZ (hw _ (List.mem_of_getElem? (i := 7) rfl)) (hw _ (List.mem_of_getElem? (i := 6) rfl)) (by decide) (by decide)) (g := (mkF m 182 #[.val (.int p0), .val (.int p1), .val (.int p2), .val (.int p3), .val (.int p4), .val (.int zp1), .val (.int zp2), .val (.int zi1), .val (.int zi2), .val (.ref b58), .val (.ref b63), .val (.int zk), .unset] [(.int zi1), (.ref b58)])) rfl (by rw [hml]; rfl) (argsL := [(.int zi1)]) (rest := [(.ref b58)]) (lenOf pd_3 rfl) rfl (by show 2 * 0 + _ ≤ _; exact Nat.le_of_eq rfl) (hb hby at_182) (fun _ _ => ⟨rfl, e66, (by decide : 6 + 0 ≤ _), (by decide : 44 + 0 ≤ _)⟩)
        dsimp only [Pt.U, Pt.locs, Pt.cells, Pt.slots] at X85 l85 y85 z85 st85 hQ85
        rw [y85, z85] at X85
        have X85 : Stand _ _ _ _ _ _ _ _ _ _ T85 L85 6 44 := X85
        obtain ⟨rfl, N85q, e85⟩ := hQ85
        have N85 : Fr n0 L85 := by rw [l85]; exact Fr.app N66 N85q
        obtain ⟨a85, ha85⟩ : ∃ z : Addr, z = (own_md M zi1) := ⟨_, rfl⟩
        rw [← ha85] at st85
        refine own_via (T85.setTop (mkF m 185 #[.val (.int p0), .val (.int p1), .val (.int p2), .val (.int p3), .val (.int p4), .val (.int zp1), .val (.int zp2), .val (.int zi1), .val (.int zi2), .val (.ref b58), .val (.ref b63), .val (.int zk), .unset] [(.ref a85), (.ref b58)])) (fun t k => st85 t k) ?_
        have EXa85 : Exa Z h66 a85 "com/example/denary/denary/context/RoundingMode" := by rw [ha85]; exact own_mdE (hM.keep K67) _
        have lta85 : a85 < h0.size := by rw [ha85]; exact (own_mdE hM _).lt
        have ne_a85_b58 : a85 ≠ b58 := Nat.ne_of_lt (Nat.lt_of_lt_of_le lta85 sz_b58)
        have ne_a85_b63 : a85 ≠ b63 := Nat.ne_of_lt (Nat.lt_of_lt_of_le lta85 sz_b63)
        have F87 := ((G61_0.ext E63).keep K66q)
        obtain ⟨cq86, kq86, q86a, q86b, q86c⟩ := isOf hZ e85 F87
        obtain ⟨_, _, ⟨T86, L86, k86, n86⟩, -, X86, ⟨Lc86, hQ86, l86, y86, z86⟩, st86⟩ := X85.virtualBack hx (y := (⟨"com/example/denary/denary/context/MathContext", "equals", "(Ljava/lang/Object;)Z"⟩ : MethodName)) (z := (⟨"com/example/denary/denary/context/MathContext", "equals", "(Ljava/lang/Object;)Z"⟩ : MethodName)) hown (mvT hZ (hw _ (List.mem_of_getElem? (i := 37) rfl))) (mvT hZ (hw _ (List.mem_of_getElem? (i := 38) rfl))) (notFace_of_selects (args := #[]) (mvT hZ (hw _ (List.mem_of_getElem? (i := 40) rfl)))) (mvT hZ (hw _ (List.mem_of_getElem? (i := 40) rfl))) (mvT hZ (hw _ (List.mem_of_getElem? (i := 39) rfl))) (by decide) (backOf (W := 0) (rm5r l Z a0 hw [] b58 a85 h66 n0 (Nat.le_trans Z0 K67.1) EXa85 (own_noR hw) (Ne.symm ne_a85_b58)) hZ (hw _ (List.mem_of_getElem? (i := 41) rfl)) (hw _ (List.mem_of_getElem? (i := 3) rfl)) (by decide) (by decide)) q86a q86c (g := (mkF m 185 #[.val (.int p0), .val (.int p1), .val (.int p2), .val (.int p3), .val (.int p4), .val (.int zp1), .val (.int zp2), .val (.int zi1), .val (.int zi2), .val (.ref b58), .val (.ref b63), .val (.int zk), .unset] [(.ref a85), (.ref b58)])) rfl (by rw [hml]; rfl) (Steps.refl _) (argsL := [(.ref a85)]) (rest := []) (lenOf pd_5 rfl) rfl (by show 2 * 0 + _ ≤ _; exact Nat.le_of_eq rfl) (hb hby at_185) (fun _ _ => ⟨rfl, e85, (by decide : 6 + 0 ≤ _), (by decide : 44 + 0 ≤ _)⟩)
        dsimp only [Pt.U, Pt.locs, Pt.cells, Pt.slots] at X86 l86 y86 z86 st86 hQ86
        rw [y86, z86] at X86
        have X86 : Stand _ _ _ _ _ _ _ _ _ _ T86 L86 6 44 := X86
        obtain ⟨rfl, N86q, e86⟩ := hQ86
        have N86 : Fr n0 L86 := by rw [l86]; exact Fr.app N85 N86q
        refine own_via (T86.setTop (mkF m 188 #[.val (.int p0), .val (.int p1), .val (.int p2), .val (.int p3), .val (.int p4), .val (.int zp1), .val (.int zp2), .val (.int zi1), .val (.int zi2), .val (.ref b58), .val (.ref b63), .val (.int zk), .unset] [(.int (0 : Int32))])) (fun t k => st86.trans k) ?_
        refine own_via (T86.setTop (mkF m 191 #[.val (.int p0), .val (.int p1), .val (.int p2), .val (.int p3), .val (.int p4), .val (.int zp1), .val (.int zp2), .val (.int zi1), .val (.int zi2), .val (.ref b58), .val (.ref b63), .val (.int zk), .unset] [])) (fun t k => XS.ifNo X86.here hx rfl (hb hby at_188) rfl ((if0 _ _).trans (teq (by decide)).2) k) ?_
        refine own_via (T86.setTop (mkF m 193 #[.val (.int p0), .val (.int p1), .val (.int p2), .val (.int p3), .val (.int p4), .val (.int zp1), .val (.int zp2), .val (.int zi1), .val (.int zi2), .val (.ref b58), .val (.ref b63), .val (.int zk), .unset] [(.ref b58)])) (fun t k => XS.aload X86.here hx rfl (hb hby at_191) rfl rfl k) ?_
        refine own_via (T86.setTop (mkF m 195 #[.val (.int p0), .val (.int p1), .val (.int p2), .val (.int p3), .val (.int p4), .val (.int zp1), .val (.int zp2), .val (.int zi1), .val (.int zi2), .val (.ref b58), .val (.ref b63), .val (.int zk), .unset] [(.int zp1), (.ref b58)])) (fun t k => XS.iload X86.here hx rfl (hb hby at_193) rfl  k) ?_
        obtain ⟨_, _, ⟨T88, L88, k88, n88⟩, -, X88, ⟨Lc88, hQ88, l88, y88, z88⟩, st88⟩ := Jvm.LawKit.callS X86 hx (y := (⟨"java/lang/Integer", "valueOf", "(I)Ljava/lang/Integer;"⟩ : MethodName)) hown (mvT hZ (hw _ (List.mem_of_getElem? (i := 48) rfl))) (mvT hZ (hw _ (List.mem_of_getElem? (i := 49) rfl))) (mvT hZ (hw _ (List.mem_of_getElem? (i := 50) rfl))) (mvT hZ (hw _ (List.mem_of_getElem? (i := 51) rfl))) (by decide) (backOf (W := 1) (rm6 l Z a0 hw [] zp1 h66 n0 (Nat.le_trans Z0 K67.1) (hcache.keep K67)) hZ (hw _ (List.mem_of_getElem? (i := 51) rfl)) (hw _ (List.mem_of_getElem? (i := 50) rfl)) (by decide) (by decide)) (g := (mkF m 195 #[.val (.int p0), .val (.int p1), .val (.int p2), .val (.int p3), .val (.int p4), .val (.int zp1), .val (.int zp2), .val (.int zi1), .val (.int zi2), .val (.ref b58), .val (.ref b63), .val (.int zk), .unset] [(.int zp1), (.ref b58)])) rfl (by rw [hml]; rfl) (argsL := [(.int zp1)]) (rest := [(.ref b58)]) (lenOf pd_6 rfl) rfl (by show 2 * 0 + _ ≤ _; exact Nat.le_of_eq rfl) (hb hby at_195) (fun _ _ => ⟨rfl, e86, (by decide : 6 + 1 ≤ _), (by decide : 44 + 1 ≤ _)⟩)
        dsimp only [Pt.U, Pt.locs, Pt.cells, Pt.slots] at X88 l88 y88 z88 st88 hQ88
        rw [y88, z88] at X88
        have X88 : Stand _ _ _ _ _ _ _ _ _ _ T88 L88 7 45 := X88
        obtain ⟨h88, e88⟩ : ∃ h, T88.heap = h := ⟨_, rfl⟩
        rw [e88] at hQ88
        obtain ⟨r_88, rfl, N88q, K88q, G88_0⟩ := hQ88
        have N88 : Fr n0 L88 := by rw [l88]; exact Fr.app N86 N88q
        have K89 : Keep h0 h88 [] := K67.trans K88q (fun x hx => nomatch hx)
        refine own_via (T88.setTop (mkF m 198 #[.val (.int p0), .val (.int p1), .val (.int p2), .val (.int p3), .val (.int p4), .val (.int zp1), .val (.int zp2), .val (.int zi1), .val (.int zi2), .val (.ref b58), .val (.ref b63), .val (.int zk), .unset] [(.ref r_88), (.ref b58)])) (fun t k => st88 t k) ?_
        have F91 := (F87.keep K88q)
        obtain ⟨cq90, kq90, q90a, q90b, q90c⟩ := isOf hZ e88 F91
        obtain ⟨_, _, ⟨T90, L90, k90, n90⟩, -, X90, ⟨Lc90, hQ90, l90, y90, z90⟩, st90⟩ := X88.virtualBack hx (y := (⟨"com/example/denary/denary/context/MathContext", "equals", "(Ljava/lang/Object;)Z"⟩ : MethodName)) (z := (⟨"com/example/denary/denary/context/MathContext", "equals", "(Ljava/lang/Object;)Z"⟩ : MethodName)) hown (mvT hZ (hw _ (List.mem_of_getElem? (i := 37) rfl))) (mvT hZ (hw _ (List.mem_of_getElem? (i := 38) rfl))) (notFace_of_selects (args := #[]) (mvT hZ (hw _ (List.mem_of_getElem? (i := 40) rfl)))) (mvT hZ (hw _ (List.mem_of_getElem? (i := 40) rfl))) (mvT hZ (hw _ (List.mem_of_getElem? (i := 39) rfl))) (by decide) (backOf (W := 0) (rm5i l Z a0 hw [] b58 r_88 h88 n0 (Nat.le_trans Z0 K89.1) G88_0 (own_noI hw) (own_neI F91 G88_0)) hZ (hw _ (List.mem_of_getElem? (i := 41) rfl)) (hw _ (List.mem_of_getElem? (i := 3) rfl)) (by decide) (by decide)) q90a q90c (g := (mkF m 198 #[.val (.int p0), .val (.int p1), .val (.int p2), .val (.int p3), .val (.int p4), .val (.int zp1), .val (.int zp2), .val (.int zi1), .val (.int zi2), .val (.ref b58), .val (.ref b63), .val (.int zk), .unset] [(.ref r_88), (.ref b58)])) rfl (by rw [hml]; rfl) (Steps.refl _) (argsL := [(.ref r_88)]) (rest := []) (lenOf pd_5 rfl) rfl (by show 2 * 0 + _ ≤ _; exact Nat.le_of_eq rfl) (hb hby at_198) (fun _ _ => ⟨rfl, e88, (by decide : 7 + 0 ≤ _), (by decide : 45 + 0 ≤ _)⟩)
        dsimp only [Pt.U, Pt.locs, Pt.cells, Pt.slots] at X90 l90 y90 z90 st90 hQ90
        rw [y90, z90] at X90
        have X90 : Stand _ _ _ _ _ _ _ _ _ _ T90 L90 7 45 := X90
        obtain ⟨rfl, N90q, e90⟩ := hQ90
        have N90 : Fr n0 L90 := by rw [l90]; exact Fr.app N88 N90q
        refine own_via (T90.setTop (mkF m 201 #[.val (.int p0), .val (.int p1), .val (.int p2), .val (.int p3), .val (.int p4), .val (.int zp1), .val (.int zp2), .val (.int zi1), .val (.int zi2), .val (.ref b58), .val (.ref b63), .val (.int zk), .unset] [(.int (0 : Int32))])) (fun t k => st90.trans k) ?_
        refine own_via (T90.setTop (mkF m 204 #[.val (.int p0), .val (.int p1), .val (.int p2), .val (.int p3), .val (.int p4), .val (.int zp1), .val (.int zp2), .val (.int zi1), .val (.int zi2), .val (.ref b58), .val (.ref b63), .val (.int zk), .unset] [])) (fun t k => XS.ifNo X90.here hx rfl (hb hby at_201) rfl ((if0 _ _).trans (teq (by decide)).2) k) ?_
        refine own_via (T90.setTop (mkF m 205 #[.val (.int p0), .val (.int p1), .val (.int p2), .val (.int p3), .val (.int p4), .val (.int zp1), .val (.int zp2), .val (.int zi1), .val (.int zi2), .val (.ref b58), .val (.ref b63), .val (.int zk), .unset] [(.int (1 : Int32))])) (fun t k => XS.iconst X90.here hx rfl (hb hby at_204) k) ?_
        refine own_via (T90.setTop (mkF m 209 #[.val (.int p0), .val (.int p1), .val (.int p2), .val (.int p3), .val (.int p4), .val (.int zp1), .val (.int zp2), .val (.int zi1), .val (.int zi2), .val (.ref b58), .val (.ref b63), .val (.int zk), .unset] [(.int (1 : Int32))])) (fun t k => XS.goto X90.here hx rfl (pc0 := 205) (pc' := 209) rfl (hb hby at_205) (by decide) (by decide) k) ?_
        refine own_leaveW (s := s) (vm₁ := T66.vm) X90 hSi66 (by rw [e90]; exact (Nat.le_trans (Nat.le_of_eq (congrArg Array.size e66)) K88q.1)) Bd.notSynchronized (v := some (.int (1 : Int32))) (fun h => by rw [Bd.returns] at h; cases h) (fun fs hr => retN X90 hx (t := .boolean) Bd.returns (by simp) (hb hby at_209) hr) ?_ (by decide) (by decide)
        exact ⟨rfl, N90⟩
set_option maxRecDepth 65536 in
set_option maxHeartbeats 40000000 in
theorem comes_1 {Post : Tables → Env → Array Value → State → Outcome → State → Prop} (hpost : ∀ tb e args s v u, (limb_1_1.after args s (.returned v) u = true ∧ limb_1_2.after args s (.returned v) u = true ∧ True) → ReturnedEndW s (.returned v) u (Jvm.fieldLocs frame_1_writes args s ++ Jvm.arrayLocs frame_1_arrays args s ++ Jvm.staticLocs frame_1_statics s) 16 1152 → Post tb e args s (.returned v) u) :
    ArmFor flags0 classFile x code maxLocals ret World_1 tables_1 room_1 Calls_1 rest_1 Pre_1 Post := by
  intro l hfl _ _ p e ha hc hk s m args below hf hA hF happ hP
  obtain ⟨hcalls, hrest, hpre⟩ := hP
  obtain ⟨-, -, -, hnamed, -, -, -, hat⟩ := (Spec.applies_iff hf).mp happ
  obtain ⟨hg, hn⟩ := and_e (Cond.before_iff.mp (show (Jvm.Cond.and given_1 narrow_1).before args s = true from hpre))
  obtain ⟨g0, g⟩ := and_e hg
  obtain ⟨ga0, g⟩ := and_e g
  obtain ⟨ga1, g⟩ := and_e g
  obtain ⟨ga2, g⟩ := and_e g
  obtain ⟨ga3, g⟩ := and_e g
  have ga4 := g
  obtain ⟨w0, w1, w2, w3, w4, rfl⟩ : ∃ w0 w1 w2 w3 w4 : Value, args = #[w0, w1, w2, w3, w4] := by
    have hs : args.size = 5 := by simpa [Cond.value, given_1] using g0
    obtain ⟨L⟩ := args
    match L, hs with
    | [w0, w1, w2, w3, w4], _ => exact ⟨w0, w1, w2, w3, w4, rfl⟩
  have hw := fun d (hd : d ∈ tables_1) => atoms_spec (ws := Jvm.Cond.code x code maxLocals ret :: tables_1) hat d (List.mem_cons_of_mem _ hd)
  have hfit : Fit s := fun {y c} hc i hi => by
    obtain ⟨ha, rfl⟩ := Array.getElem?_eq_some_iff.mp hc
    have q := List.all_eq_true.mp ((Array.all_eq_true_iff_forall_mem.mp hF) _ (Array.getElem_mem ha)) i (List.mem_range.mpr hi)
    simpa [Array.getElem?_eq_getElem hi] using q
  obtain ⟨i0, ei0⟩ := is_v ga0
  obtain rfl : w0 = (.int i0) := Option.some.inj ei0
  obtain ⟨i1, ei1⟩ := is_v ga1
  obtain rfl : w1 = (.int i1) := Option.some.inj ei1
  obtain ⟨i2, ei2⟩ := is_v ga2
  obtain rfl : w2 = (.int i2) := Option.some.inj ei2
  obtain ⟨i3, ei3⟩ := is_v ga3
  obtain rfl : w3 = (.int i3) := Option.some.inj ei3
  obtain ⟨i4, ei4⟩ := is_v ga4
  obtain rfl : w4 = (.int i4) := Option.some.inj ei4
  obtain ⟨hsets, hown0⟩ := atoms_of _ (rest_1_c_eq ▸ (show rest_1_c.before _ s = true from hrest))
  have hcache : own_Cache s s.heap := own_cache0 hfit (hw _ (List.mem_of_getElem? (i := 53) rfl)) (hsets _ (List.mem_of_getElem? (i := 0) rfl)) (hsets _ (List.mem_of_getElem? (i := 2) rfl)) (hsets _ (List.mem_of_getElem? (i := 3) rfl)) (hsets _ (List.mem_of_getElem? (i := 4) rfl)) (hsets _ (List.mem_of_getElem? (i := 6) rfl)) (hsets _ (List.mem_of_getElem? (i := 7) rfl))
  obtain ⟨xn0, hn⟩ := and_e hn
  obtain ⟨xn1, hn⟩ := and_e hn
  obtain ⟨xn2, hn⟩ := and_e hn
  obtain ⟨xn3, hn⟩ := and_e hn
  obtain ⟨xn4, hn⟩ := and_e hn
  obtain ⟨xn5, hn⟩ := and_e hn
  obtain ⟨xn6, hn⟩ := and_e hn
  obtain ⟨xn7, hn⟩ := and_e hn
  obtain ⟨xn8, hn⟩ := and_e hn
  obtain ⟨xn9, hn⟩ := and_e hn
  obtain ⟨xn10, hn⟩ := and_e hn
  obtain ⟨xn11, hn⟩ := and_e hn
  obtain ⟨xn12, hn⟩ := and_e hn
  obtain ⟨xn13, hn⟩ := and_e hn
  obtain ⟨xn14, hn⟩ := and_e hn
  have xn15 := hn
  obtain ⟨m0, sm0, em0, fm0⟩ := own_const (hw _ (List.mem_of_getElem? (i := 9) rfl)) (hw _ (List.mem_of_getElem? (i := 78) rfl)) xn5 xn8
  obtain ⟨m1, sm1, em1, fm1⟩ := own_const (hw _ (List.mem_of_getElem? (i := 9) rfl)) (hw _ (List.mem_of_getElem? (i := 36) rfl)) xn1 xn12
  obtain ⟨m2, sm2, em2, fm2⟩ := own_const (hw _ (List.mem_of_getElem? (i := 9) rfl)) (hw _ (List.mem_of_getElem? (i := 10) rfl)) xn0 xn13
  obtain ⟨m3, sm3, em3, fm3⟩ := own_const (hw _ (List.mem_of_getElem? (i := 9) rfl)) (hw _ (List.mem_of_getElem? (i := 61) rfl)) xn4 xn14
  obtain ⟨m4, sm4, em4, fm4⟩ := own_const (hw _ (List.mem_of_getElem? (i := 9) rfl)) (hw _ (List.mem_of_getElem? (i := 80) rfl)) xn6 xn7
  obtain ⟨m5, sm5, em5, fm5⟩ := own_const (hw _ (List.mem_of_getElem? (i := 9) rfl)) (hw _ (List.mem_of_getElem? (i := 58) rfl)) xn3 xn11
  obtain ⟨m6, sm6, em6, fm6⟩ := own_const (hw _ (List.mem_of_getElem? (i := 9) rfl)) (hw _ (List.mem_of_getElem? (i := 82) rfl)) xn9 xn10
  obtain ⟨m7, sm7, em7, fm7⟩ := own_const (hw _ (List.mem_of_getElem? (i := 9) rfl)) (hw _ (List.mem_of_getElem? (i := 43) rfl)) xn2 xn15
  obtain ⟨M, hM, hinj⟩ : ∃ M : Nat → Addr, own_Modes s s.heap M ∧ (∀ i j, i < 8 → j < 8 → M i = M j → i = j) := by
    refine ⟨fun k => [m0, m1, m2, m3, m4, m5, m6, m7].getD k 0, ⟨fun k hk => ?_, sm0, sm1, sm2, sm3, sm4, sm5, sm6, sm7⟩, ?_⟩
    · rcases k with _ | _ | _ | _ | _ | _ | _ | _ | k
      · exact em0
      · exact em1
      · exact em2
      · exact em3
      · exact em4
      · exact em5
      · exact em6
      · exact em7
      · omega
    · have hf : ∀ k, k < 8 → s.fieldOf? ([m0, m1, m2, m3, m4, m5, m6, m7].getD k 0) "java/lang/Enum" "ordinal" "I" = some (.int (Int32.ofNat k)) := by
        intro k hk
        rcases k with _ | _ | _ | _ | _ | _ | _ | _ | k
        · exact fm0
        · exact fm1
        · exact fm2
        · exact fm3
        · exact fm4
        · exact fm5
        · exact fm6
        · exact fm7
        · omega
      intro i j hi hj e
      have a1 := hf i hi; have a2 := hf j hj
      dsimp only at e
      rw [e, a2] at a1
      have := congrArg Int32.toInt (Value.int.inj (Option.some.inj a1))
      rw [Int32.toInt_ofNat_of_lt (by omega), Int32.toInt_ofNat_of_lt (by omega)] at this
      omega
  obtain ⟨n, o, h1, h2, h3, _, L, rfl, ⟨rfl, N⟩, hq⟩ := rm0 l s _ hw tables_1 i0 i1 i2 i3 i4 s.heap s.heap.size (Nat.le_refl _) M hM hinj hcache p e ha hc hk s m _ below hf ((Spec.applies_iff_loose hf).mp happ).1 ⟨rfl, State.Warmed39.refl s, rfl⟩ trivial
  refine ⟨n, _, h1, h2, h3, hpost _ _ _ _ _ _ ⟨Cond.after_iff.mpr rfl, Cond.after_iff.mpr (eq_i res_at (Term.int_eval (1)) rfl), trivial⟩ ⟨hq.1, hq.2.1, hq.2.2.1, (hq.2.2.2.sift fun y hy => Or.inr (N y hy)).mono (by decide) (by decide)⟩⟩
theorem main_1_1 : Claimed_1_1 := comes_1 fun _ _ _ _ _ _ h hF => ⟨h.1, hF⟩
theorem main_1_2 : Claimed_1_2 := comes_1 fun _ _ _ _ _ _ h hF => ⟨h.2.1, hF⟩
end Jvm.Pilot.@@N@@
namespace Jvm.Pilot.@@N@@
open Jvm Jvm.ClassFile Sem Op Lib Jvm.Free Jvm.Stand Jvm.Pilot.@@N@@.Jvm.D
/-! MADE BY PROGRAM (witnessworld.py) out of the Statement's table words and the real class files: 21 classes; the members and pool entries that the words name. The judged class is class 1, her method 2. -/
namespace start1
open Jvm.ClassFile
def u (s : String) : CpInfo := .utf8 (stringToUtf16 s)
/-- a pool by its gaps: so many unusable entries, then the entry; so many at the end -/
def gap : Nat → List CpInfo → List CpInfo
  | 0, r => r
  | n + 1, r => .unusable :: gap n r
def poolList (es : List (Nat × CpInfo)) (last : Nat) : List CpInfo := es.foldr (fun e r => gap e.1 (e.2 :: r)) (gap last [])
def pool (es : List (Nat × CpInfo)) (last : Nat) : Array CpInfo := ⟨poolList es last⟩
def fileOf (pool : Array CpInfo) (this : Nat) (attrs : Array Attribute := #[]) (ms : Array MethodInfo := #[]) (fl : Nat := 33) (sup : Nat := 0) (ifs : Array Nat := #[]) (fds : Array FieldInfo := #[]) : ClassFile where
  minorVersion := 0
  majorVersion := 65
  constantPool := pool
  accessFlags := fl
  thisClass := this
  superClass := sup
  interfaces := ifs
  fields := fds
  methods := ms
  attributes := attrs
def plain (name : String) (sup : Option ClassId) : Class where
  name := name
  kind := .ordinary
  loader := none
  accessFlags := 33
  super := sup
  interfaces := #[]
  cf := none
  fields := #[]
  methods := #[]
  instanceTypes := #[]
  staticTypes := #[]
  resolved := #[]
  callSites := []
  init := .initialized
  statics := none
  mirror := none

def pool0 : Array CpInfo := pool [(5, u "<init>"), (0, u "()V"), (1, .class_ 10), (1, u "java/lang/Object")] 113

def k0c0 : Code := { maxStack := 0, maxLocals := 1, code := object_method_1_code, exceptionTable := #[], attributes := #[] }
def k0m0 : Method := { name := "<init>", desc := "()V", sig := { parameters := [], returnType := none }, accessFlags := 1, code := some k0c0 }
/-- java/lang/Object -/
def k0 : Class := { plain "java/lang/Object" none with
  accessFlags := 33
  interfaces := #[]
  cf := some (fileOf pool0 8 #[] #[{ accessFlags := 1, nameIndex := 5, descriptorIndex := 6, attributes := #[] }] 33 0 #[] #[])
  fields := #[]
  methods := #[k0m0]
  instanceTypes := #[]
  staticTypes := #[]
  resolved := Array.replicate 124 none
  statics := none }

def pool1 : Array CpInfo := pool [(2, .class_ 4), (1, u "java/lang/Object"), (0, u "<init>"), (0, u "()V"), (0, .fieldref 8 9), (0, .class_ 10), (0, .nameAndType 11 12), (0, u "com/example/denary/denary/context/RoundingMode"), (0, u "UP"), (0, u "Lcom/example/denary/denary/context/RoundingMode;"), (0, .fieldref 8 14), (0, .nameAndType 15 12), (0, u "DOWN"), (0, .fieldref 8 17), (0, .nameAndType 18 12), (0, u "CEILING"), (0, .fieldref 8 20), (0, .nameAndType 21 12), (0, u "FLOOR"), (0, .fieldref 8 23), (0, .nameAndType 24 12), (0, u "HALF_UP"), (0, .fieldref 8 26), (0, .nameAndType 27 12), (0, u "HALF_DOWN"), (0, .fieldref 8 29), (0, .nameAndType 30 12), (0, u "HALF_EVEN"), (0, .fieldref 8 32), (0, .nameAndType 33 12), (0, u "UNNECESSARY"), (0, .integer 2147483647), (0, .class_ 36), (0, u "com/example/denary/denary/context/MathContext"), (0, .methodref 38 39), (0, .class_ 40), (0, .nameAndType 41 42), (0, u "com/example/denary/denary/context/MathContextEqualsPinLaw"), (0, u "mode"), (0, u "(I)Lcom/example/denary/denary/context/RoundingMode;"), (0, .methodref 35 44), (0, .nameAndType 5 45), (0, u "(ILcom/example/denary/denary/context/RoundingMode;)V"), (0, .methodref 35 47), (0, .nameAndType 48 49), (0, u "equals"), (0, u "(Ljava/lang/Object;)Z"), (0, .methodref 51 52), (0, .class_ 53), (0, .nameAndType 54 55), (0, u "java/lang/Integer"), (0, u "valueOf"), (0, u "(I)Ljava/lang/Integer;"), (3, u "law"), (0, u "(IIIII)Z")] 2

def k1m0 : Method := { name := "<init>", desc := "()V", sig := { parameters := [], returnType := none }, accessFlags := 1, code := none }
def k1c1 : Code := { maxStack := 2, maxLocals := 1, code := method_2_code, exceptionTable := #[], attributes := #[] }
def k1m1 : Method := { name := "mode", desc := "(I)Lcom/example/denary/denary/context/RoundingMode;", sig := { parameters := [.int], returnType := some (.object "com/example/denary/denary/context/RoundingMode") }, accessFlags := 10, code := some k1c1 }
def k1c2 : Code := { maxStack := 4, maxLocals := 13, code := code, exceptionTable := #[], attributes := #[] }
def k1m2 : Method := { name := "law", desc := "(IIIII)Z", sig := { parameters := [.int, .int, .int, .int, .int], returnType := some .boolean }, accessFlags := 9, code := some k1c2 }
/-- com/example/denary/denary/context/MathContextEqualsPinLaw -/
def k1 : Class := { plain "com/example/denary/denary/context/MathContextEqualsPinLaw" (some 0) with
  accessFlags := 49
  interfaces := #[]
  cf := some (fileOf pool1 38 #[] #[{ accessFlags := 1, nameIndex := 5, descriptorIndex := 6, attributes := #[] }, { accessFlags := 10, nameIndex := 41, descriptorIndex := 42, attributes := #[] }, { accessFlags := 9, nameIndex := 59, descriptorIndex := 60, attributes := #[] }] 49 2 #[] #[])
  fields := #[]
  methods := #[k1m0, k1m1, k1m2]
  instanceTypes := #[]
  staticTypes := #[]
  resolved := Array.replicate 63 none
  statics := none }

def pool2 : Array CpInfo := pool [(2, .class_ 4), (1, u "com/example/denary/denary/context/RoundingMode"), (1, u "Lcom/example/denary/denary/context/RoundingMode;"), (1, .class_ 10), (1, u "com/example/denary/denary/context/MathContext"), (0, u "<init>"), (0, u "(ILcom/example/denary/denary/context/RoundingMode;)V"), (0, .methodref 14 15), (0, .class_ 16), (0, .nameAndType 11 17), (0, u "java/lang/Object"), (0, u "()V"), (9, .fieldref 8 28), (0, .nameAndType 29 30), (0, u "precision"), (0, u "I"), (0, .string 32), (0, u "mode"), (0, .methodref 34 35), (0, .class_ 36), (0, .nameAndType 37 38), (0, u "java/util/Objects"), (0, u "requireNonNull"), (0, u "(Ljava/lang/Object;Ljava/lang/String;)Ljava/lang/Object;"), (0, .fieldref 8 40), (0, .nameAndType 41 6), (0, u "roundingMode"), (16, u "equals"), (0, u "(Ljava/lang/Object;)Z"), (50, u "UNLIMITED"), (0, u "Lcom/example/denary/denary/context/MathContext;"), (5, u "DECIMAL32"), (2, u "DECIMAL64"), (2, u "DECIMAL128"), (0, u "PRECISION_KEY"), (0, u "Ljava/lang/String;"), (1, u "MODE_KEY")] 30

def k2c0 : Code := { maxStack := 3, maxLocals := 3, code := prog_29_method_2_code, exceptionTable := #[], attributes := #[] }
def k2m0 : Method := { name := "<init>", desc := "(ILcom/example/denary/denary/context/RoundingMode;)V", sig := { parameters := [.int, (.object "com/example/denary/denary/context/RoundingMode")], returnType := none }, accessFlags := 1, code := some k2c0 }
def k2c1 : Code := { maxStack := 2, maxLocals := 3, code := prog_29_method_9_code, exceptionTable := #[], attributes := #[] }
def k2m1 : Method := { name := "equals", desc := "(Ljava/lang/Object;)Z", sig := { parameters := [(.object "java/lang/Object")], returnType := some .boolean }, accessFlags := 1, code := some k2c1 }
/-- com/example/denary/denary/context/MathContext -/
def k2 : Class := { plain "com/example/denary/denary/context/MathContext" (some 0) with
  accessFlags := 49
  interfaces := #[]
  cf := some (fileOf pool2 8 #[] #[{ accessFlags := 1, nameIndex := 11, descriptorIndex := 12, attributes := #[] }, { accessFlags := 1, nameIndex := 58, descriptorIndex := 59, attributes := #[] }] 49 14 #[] #[{ accessFlags := 25, nameIndex := 110, descriptorIndex := 111, attributes := #[] }, { accessFlags := 25, nameIndex := 117, descriptorIndex := 111, attributes := #[] }, { accessFlags := 25, nameIndex := 120, descriptorIndex := 111, attributes := #[] }, { accessFlags := 25, nameIndex := 123, descriptorIndex := 111, attributes := #[] }, { accessFlags := 26, nameIndex := 124, descriptorIndex := 125, attributes := #[] }, { accessFlags := 26, nameIndex := 127, descriptorIndex := 125, attributes := #[] }, { accessFlags := 18, nameIndex := 29, descriptorIndex := 30, attributes := #[] }, { accessFlags := 18, nameIndex := 41, descriptorIndex := 6, attributes := #[] }])
  fields := #[{ name := "UNLIMITED", type := (.object "com/example/denary/denary/context/MathContext"), accessFlags := 25, slot := 0, constantValue := 0 }, { name := "DECIMAL32", type := (.object "com/example/denary/denary/context/MathContext"), accessFlags := 25, slot := 1, constantValue := 0 }, { name := "DECIMAL64", type := (.object "com/example/denary/denary/context/MathContext"), accessFlags := 25, slot := 2, constantValue := 0 }, { name := "DECIMAL128", type := (.object "com/example/denary/denary/context/MathContext"), accessFlags := 25, slot := 3, constantValue := 0 }, { name := "PRECISION_KEY", type := (.object "java/lang/String"), accessFlags := 26, slot := 4, constantValue := 0 }, { name := "MODE_KEY", type := (.object "java/lang/String"), accessFlags := 26, slot := 5, constantValue := 0 }, { name := "precision", type := .int, accessFlags := 18, slot := 0, constantValue := 0 }, { name := "roundingMode", type := (.object "com/example/denary/denary/context/RoundingMode"), accessFlags := 18, slot := 1, constantValue := 0 }]
  methods := #[k2m0, k2m1]
  instanceTypes := #[.int, (.object "com/example/denary/denary/context/RoundingMode")]
  staticTypes := #[(.object "com/example/denary/denary/context/MathContext"), (.object "com/example/denary/denary/context/MathContext"), (.object "com/example/denary/denary/context/MathContext"), (.object "com/example/denary/denary/context/MathContext"), (.object "java/lang/String"), (.object "java/lang/String")]
  resolved := Array.replicate 158 none
  statics := none }

def pool3 : Array CpInfo := pool [(1, .class_ 2), (0, u "java/lang/constant/Constable"), (0, .class_ 4), (0, u "java/lang/Object")] 6

/-- java/lang/constant/Constable -/
def k3 : Class := { plain "java/lang/constant/Constable" (some 0) with
  accessFlags := 1537
  interfaces := #[]
  cf := some (fileOf pool3 1 #[] #[] 1537 3 #[] #[])
  fields := #[]
  methods := #[]
  instanceTypes := #[]
  staticTypes := #[]
  resolved := Array.replicate 11 none
  statics := none }

def pool4 : Array CpInfo := pool [(1, .class_ 2), (0, u "java/lang/Comparable"), (0, .class_ 4), (0, u "java/lang/Object")] 7

/-- java/lang/Comparable -/
def k4 : Class := { plain "java/lang/Comparable" (some 0) with
  accessFlags := 1537
  interfaces := #[]
  cf := some (fileOf pool4 1 #[] #[] 1537 3 #[] #[])
  fields := #[]
  methods := #[]
  instanceTypes := #[]
  staticTypes := #[]
  resolved := Array.replicate 12 none
  statics := none }

def pool5 : Array CpInfo := pool [(1, .class_ 2), (0, u "java/io/Serializable"), (0, .class_ 4), (0, u "java/lang/Object")] 2

/-- java/io/Serializable -/
def k5 : Class := { plain "java/io/Serializable" (some 0) with
  accessFlags := 1537
  interfaces := #[]
  cf := some (fileOf pool5 1 #[] #[] 1537 3 #[] #[])
  fields := #[]
  methods := #[]
  instanceTypes := #[]
  staticTypes := #[]
  resolved := Array.replicate 7 none
  statics := none }

def pool6 : Array CpInfo := pool [(2, .class_ 4), (1, u "java/lang/Enum"), (0, u "name"), (0, u "Ljava/lang/String;"), (2, u "ordinal"), (0, u "I"), (1, .class_ 14), (1, u "java/lang/Object"), (4, u "hash"), (86, .class_ 108), (1, u "java/lang/Enum$EnumDesc"), (2, .class_ 112), (0, u "java/lang/constant/Constable"), (0, .class_ 114), (0, u "java/lang/Comparable"), (0, .class_ 116), (0, u "java/io/Serializable")] 87

/-- java/lang/Enum -/
def k6 : Class := { plain "java/lang/Enum" (some 0) with
  accessFlags := 1057
  interfaces := #[3, 4, 5]
  cf := some (fileOf pool6 2 #[.nestMembers #[106]] #[] 1057 12 #[111, 113, 115] #[{ accessFlags := 18, nameIndex := 5, descriptorIndex := 6, attributes := #[] }, { accessFlags := 18, nameIndex := 9, descriptorIndex := 10, attributes := #[] }, { accessFlags := 2, nameIndex := 19, descriptorIndex := 10, attributes := #[] }])
  fields := #[{ name := "name", type := (.object "java/lang/String"), accessFlags := 18, slot := 0, constantValue := 0 }, { name := "ordinal", type := .int, accessFlags := 18, slot := 1, constantValue := 0 }, { name := "hash", type := .int, accessFlags := 2, slot := 2, constantValue := 0 }]
  methods := #[]
  instanceTypes := #[(.object "java/lang/String"), .int, .int]
  staticTypes := #[]
  resolved := Array.replicate 204 none
  statics := none }

def pool7 : Array CpInfo := pool [(1, .class_ 2), (0, u "com/example/denary/denary/context/RoundingMode"), (2, u "UP"), (0, u "Lcom/example/denary/denary/context/RoundingMode;"), (2, u "DOWN"), (2, u "CEILING"), (2, u "FLOOR"), (2, u "HALF_UP"), (2, u "HALF_DOWN"), (2, u "HALF_EVEN"), (2, u "UNNECESSARY"), (2, u "$VALUES"), (0, u "[Lcom/example/denary/denary/context/RoundingMode;"), (6, .class_ 40), (1, u "java/lang/Enum")] 30

/-- com/example/denary/denary/context/RoundingMode -/
def k7 : Class := { plain "com/example/denary/denary/context/RoundingMode" (some 6) with
  accessFlags := 16433
  interfaces := #[]
  cf := some (fileOf pool7 1 #[] #[] 16433 38 #[] #[{ accessFlags := 16409, nameIndex := 5, descriptorIndex := 6, attributes := #[] }, { accessFlags := 16409, nameIndex := 9, descriptorIndex := 6, attributes := #[] }, { accessFlags := 16409, nameIndex := 12, descriptorIndex := 6, attributes := #[] }, { accessFlags := 16409, nameIndex := 15, descriptorIndex := 6, attributes := #[] }, { accessFlags := 16409, nameIndex := 18, descriptorIndex := 6, attributes := #[] }, { accessFlags := 16409, nameIndex := 21, descriptorIndex := 6, attributes := #[] }, { accessFlags := 16409, nameIndex := 24, descriptorIndex := 6, attributes := #[] }, { accessFlags := 16409, nameIndex := 27, descriptorIndex := 6, attributes := #[] }, { accessFlags := 4122, nameIndex := 30, descriptorIndex := 31, attributes := #[] }])
  fields := #[{ name := "UP", type := (.object "com/example/denary/denary/context/RoundingMode"), accessFlags := 16409, slot := 0, constantValue := 0 }, { name := "DOWN", type := (.object "com/example/denary/denary/context/RoundingMode"), accessFlags := 16409, slot := 1, constantValue := 0 }, { name := "CEILING", type := (.object "com/example/denary/denary/context/RoundingMode"), accessFlags := 16409, slot := 2, constantValue := 0 }, { name := "FLOOR", type := (.object "com/example/denary/denary/context/RoundingMode"), accessFlags := 16409, slot := 3, constantValue := 0 }, { name := "HALF_UP", type := (.object "com/example/denary/denary/context/RoundingMode"), accessFlags := 16409, slot := 4, constantValue := 0 }, { name := "HALF_DOWN", type := (.object "com/example/denary/denary/context/RoundingMode"), accessFlags := 16409, slot := 5, constantValue := 0 }, { name := "HALF_EVEN", type := (.object "com/example/denary/denary/context/RoundingMode"), accessFlags := 16409, slot := 6, constantValue := 0 }, { name := "UNNECESSARY", type := (.object "com/example/denary/denary/context/RoundingMode"), accessFlags := 16409, slot := 7, constantValue := 0 }, { name := "$VALUES", type := (.array (.object "com/example/denary/denary/context/RoundingMode")), accessFlags := 4122, slot := 8, constantValue := 0 }]
  methods := #[]
  instanceTypes := #[(.object "java/lang/String"), .int, .int]
  staticTypes := #[(.object "com/example/denary/denary/context/RoundingMode"), (.object "com/example/denary/denary/context/RoundingMode"), (.object "com/example/denary/denary/context/RoundingMode"), (.object "com/example/denary/denary/context/RoundingMode"), (.object "com/example/denary/denary/context/RoundingMode"), (.object "com/example/denary/denary/context/RoundingMode"), (.object "com/example/denary/denary/context/RoundingMode"), (.object "com/example/denary/denary/context/RoundingMode"), (.array (.object "com/example/denary/denary/context/RoundingMode"))]
  resolved := Array.replicate 71 none
  statics := some 0 }

def pool8 : Array CpInfo := pool [(2, .class_ 4), (1, u "java/lang/CharSequence"), (42, .class_ 48), (0, u "java/lang/CharSequence$1CodePointIterator"), (10, .class_ 60), (0, u "java/lang/CharSequence$1CharIterator"), (5, .class_ 67), (0, u "java/lang/Object")] 63

/-- java/lang/CharSequence -/
def k8 : Class := { plain "java/lang/CharSequence" (some 0) with
  accessFlags := 1537
  interfaces := #[]
  cf := some (fileOf pool8 2 #[.nestMembers #[47, 59]] #[] 1537 66 #[] #[])
  fields := #[]
  methods := #[]
  instanceTypes := #[]
  staticTypes := #[]
  resolved := Array.replicate 131 none
  statics := none }

def pool9 : Array CpInfo := pool [(1, .class_ 2), (0, u "java/lang/constant/ConstantDesc"), (0, .class_ 4), (0, u "java/lang/Object")] 32

/-- java/lang/constant/ConstantDesc -/
def k9 : Class := { plain "java/lang/constant/ConstantDesc" (some 0) with
  accessFlags := 1537
  interfaces := #[]
  cf := some (fileOf pool9 1 #[] #[] 1537 3 #[] #[])
  fields := #[]
  methods := #[]
  instanceTypes := #[]
  staticTypes := #[]
  resolved := Array.replicate 37 none
  statics := none }

def pool10 : Array CpInfo := pool [(2, .class_ 4), (1, u "java/lang/Object"), (0, u "<init>"), (0, u "()V"), (3, .class_ 12), (1, u "java/lang/String"), (0, u "value"), (0, u "[B"), (2, u "coder"), (0, u "B"), (2, u "hash"), (0, u "I"), (2, u "hashIsZero"), (0, u "Z"), (13, u "COMPACT_STRINGS"), (534, .class_ 576), (0, u "java/lang/CharSequence"), (22, u "CASE_INSENSITIVE_ORDER"), (0, u "Ljava/util/Comparator;"), (500, u "serialPersistentFields"), (0, u "[Ljava/io/ObjectStreamField;"), (0, .class_ 1104), (0, u "java/lang/String$CaseInsensitiveComparator"), (1, .class_ 1107), (0, u "java/io/Serializable"), (0, .class_ 1109), (0, u "java/lang/Comparable"), (0, .class_ 1111), (0, u "java/lang/constant/Constable"), (0, .class_ 1113), (0, u "java/lang/constant/ConstantDesc"), (2, u "serialVersionUID"), (0, u "J"), (3, u "REPL"), (0, u "C"), (2, u "LATIN1"), (1, u "UTF16")] 323

def k10m0 : Method := { name := "<init>", desc := "()V", sig := { parameters := [], returnType := none }, accessFlags := 1, code := none }
/-- java/lang/String -/
def k10 : Class := { plain "java/lang/String" (some 0) with
  accessFlags := 49
  interfaces := #[5, 4, 8, 3, 9]
  cf := some (fileOf pool10 10 #[.nestMembers #[1103]] #[{ accessFlags := 1, nameIndex := 5, descriptorIndex := 6, attributes := #[] }] 49 2 #[1106, 1108, 575, 1110, 1112] #[{ accessFlags := 18, nameIndex := 13, descriptorIndex := 14, attributes := #[] }, { accessFlags := 18, nameIndex := 17, descriptorIndex := 18, attributes := #[] }, { accessFlags := 2, nameIndex := 21, descriptorIndex := 22, attributes := #[] }, { accessFlags := 2, nameIndex := 25, descriptorIndex := 26, attributes := #[] }, { accessFlags := 26, nameIndex := 1116, descriptorIndex := 1117, attributes := #[] }, { accessFlags := 24, nameIndex := 40, descriptorIndex := 26, attributes := #[] }, { accessFlags := 26, nameIndex := 1101, descriptorIndex := 1102, attributes := #[] }, { accessFlags := 26, nameIndex := 1121, descriptorIndex := 1122, attributes := #[] }, { accessFlags := 25, nameIndex := 599, descriptorIndex := 600, attributes := #[] }, { accessFlags := 24, nameIndex := 1125, descriptorIndex := 18, attributes := #[] }, { accessFlags := 24, nameIndex := 1127, descriptorIndex := 18, attributes := #[] }])
  fields := #[{ name := "value", type := (.array .byte), accessFlags := 18, slot := 0, constantValue := 0 }, { name := "coder", type := .byte, accessFlags := 18, slot := 1, constantValue := 0 }, { name := "hash", type := .int, accessFlags := 2, slot := 2, constantValue := 0 }, { name := "hashIsZero", type := .boolean, accessFlags := 2, slot := 3, constantValue := 0 }, { name := "serialVersionUID", type := .long, accessFlags := 26, slot := 0, constantValue := 0 }, { name := "COMPACT_STRINGS", type := .boolean, accessFlags := 24, slot := 1, constantValue := 0 }, { name := "serialPersistentFields", type := (.array (.object "java/io/ObjectStreamField")), accessFlags := 26, slot := 2, constantValue := 0 }, { name := "REPL", type := .char, accessFlags := 26, slot := 3, constantValue := 0 }, { name := "CASE_INSENSITIVE_ORDER", type := (.object "java/util/Comparator"), accessFlags := 25, slot := 4, constantValue := 0 }, { name := "LATIN1", type := .byte, accessFlags := 24, slot := 5, constantValue := 0 }, { name := "UTF16", type := .byte, accessFlags := 24, slot := 6, constantValue := 0 }]
  methods := #[k10m0]
  instanceTypes := #[(.array .byte), .byte, .int, .boolean]
  staticTypes := #[.long, .boolean, (.array (.object "java/io/ObjectStreamField")), .char, (.object "java/util/Comparator"), .byte, .byte]
  resolved := Array.replicate 1451 none
  statics := none }

def pool11 : Array CpInfo := pool [(2, .class_ 4), (1, u "java/lang/Object"), (0, u "<init>"), (0, u "()V"), (35, .class_ 44), (1, u "java/util/Objects"), (0, u "requireNonNull"), (48, u "(Ljava/lang/Object;Ljava/lang/String;)Ljava/lang/Object;")] 89

def k11m0 : Method := { name := "<init>", desc := "()V", sig := { parameters := [], returnType := none }, accessFlags := 2, code := none }
def k11c1 : Code := { maxStack := 3, maxLocals := 2, code := jdk_31_method_11_code, exceptionTable := #[], attributes := #[] }
def k11m1 : Method := { name := "requireNonNull", desc := "(Ljava/lang/Object;Ljava/lang/String;)Ljava/lang/Object;", sig := { parameters := [(.object "java/lang/Object"), (.object "java/lang/String")], returnType := some (.object "java/lang/Object") }, accessFlags := 9, code := some k11c1 }
/-- java/util/Objects -/
def k11 : Class := { plain "java/util/Objects" (some 0) with
  accessFlags := 49
  interfaces := #[]
  cf := some (fileOf pool11 42 #[] #[{ accessFlags := 2, nameIndex := 5, descriptorIndex := 6, attributes := #[] }, { accessFlags := 9, nameIndex := 45, descriptorIndex := 94, attributes := #[] }] 49 2 #[] #[])
  fields := #[]
  methods := #[k11m0, k11m1]
  instanceTypes := #[]
  staticTypes := #[]
  resolved := Array.replicate 184 none
  statics := none }

def pool12 : Array CpInfo := pool [(1, .methodref 2 3), (0, .class_ 4), (0, .nameAndType 5 6), (0, u "java/lang/Object"), (0, u "<init>"), (0, u "()V"), (1, .class_ 10), (1, u "java/lang/Number"), (2, .class_ 14), (0, u "java/io/Serializable"), (0, u "serialVersionUID"), (0, u "J")] 20

def k12c0 : Code := { maxStack := 1, maxLocals := 1, code := jdk_18_method_1_code, exceptionTable := #[], attributes := #[] }
def k12m0 : Method := { name := "<init>", desc := "()V", sig := { parameters := [], returnType := none }, accessFlags := 1, code := some k12c0 }
/-- java/lang/Number -/
def k12 : Class := { plain "java/lang/Number" (some 0) with
  accessFlags := 1057
  interfaces := #[5]
  cf := some (fileOf pool12 8 #[] #[{ accessFlags := 1, nameIndex := 5, descriptorIndex := 6, attributes := #[] }] 1057 2 #[13] #[{ accessFlags := 26, nameIndex := 15, descriptorIndex := 16, attributes := #[] }])
  fields := #[{ name := "serialVersionUID", type := .long, accessFlags := 26, slot := 0, constantValue := 0 }]
  methods := #[k12m0]
  instanceTypes := #[]
  staticTypes := #[.long]
  resolved := Array.replicate 37 none
  statics := none }

def pool13 : Array CpInfo := pool [(1, .class_ 2), (0, u "java/lang/Integer"), (16, u "digits"), (0, u "[C"), (46, u "<init>"), (17, u "DigitOnes"), (0, u "[B"), (2, u "DigitTens"), (10, .nameAndType 67 101), (0, u "()V"), (85, u "valueOf"), (0, u "(I)Ljava/lang/Integer;"), (0, .class_ 190), (0, u "java/lang/Integer$IntegerCache"), (0, .fieldref 189 192), (0, .nameAndType 193 194), (0, u "high"), (0, u "I"), (0, .fieldref 189 196), (0, .nameAndType 197 198), (0, u "cache"), (0, u "[Ljava/lang/Integer;"), (0, .methodref 1 200), (0, .nameAndType 67 201), (0, u "(I)V"), (0, .methodref 203 100), (0, .class_ 204), (0, u "java/lang/Number"), (0, .fieldref 1 206), (0, .nameAndType 207 194), (0, u "value"), (94, u "TYPE"), (0, u "Ljava/lang/Class;"), (0, .class_ 305), (0, u "java/lang/Comparable"), (0, .class_ 307), (0, u "java/lang/constant/Constable"), (0, .class_ 309), (0, u "java/lang/constant/ConstantDesc"), (0, u "MIN_VALUE"), (1, u "MAX_VALUE"), (3, u "SIZE"), (1, u "BYTES"), (1, u "serialVersionUID"), (0, u "J")] 131

def k13c0 : Code := { maxStack := 3, maxLocals := 1, code := jdk_33_method_22_code, exceptionTable := #[], attributes := #[] }
def k13m0 : Method := { name := "valueOf", desc := "(I)Ljava/lang/Integer;", sig := { parameters := [.int], returnType := some (.object "java/lang/Integer") }, accessFlags := 9, code := some k13c0 }
def k13c1 : Code := { maxStack := 2, maxLocals := 2, code := jdk_33_method_23_code, exceptionTable := #[], attributes := #[] }
def k13m1 : Method := { name := "<init>", desc := "(I)V", sig := { parameters := [.int], returnType := none }, accessFlags := 1, code := some k13c1 }
/-- java/lang/Integer -/
def k13 : Class := { plain "java/lang/Integer" (some 12) with
  accessFlags := 49
  interfaces := #[4, 3, 9]
  cf := some (fileOf pool13 1 #[.nestMembers #[189]] #[{ accessFlags := 9, nameIndex := 187, descriptorIndex := 188, attributes := #[] }, { accessFlags := 1, nameIndex := 67, descriptorIndex := 201, attributes := #[] }] 49 203 #[304, 306, 308] #[{ accessFlags := 25, nameIndex := 310, descriptorIndex := 194, attributes := #[] }, { accessFlags := 25, nameIndex := 312, descriptorIndex := 194, attributes := #[] }, { accessFlags := 25, nameIndex := 302, descriptorIndex := 303, attributes := #[] }, { accessFlags := 24, nameIndex := 19, descriptorIndex := 20, attributes := #[] }, { accessFlags := 24, nameIndex := 89, descriptorIndex := 86, attributes := #[] }, { accessFlags := 24, nameIndex := 85, descriptorIndex := 86, attributes := #[] }, { accessFlags := 18, nameIndex := 207, descriptorIndex := 194, attributes := #[] }, { accessFlags := 25, nameIndex := 316, descriptorIndex := 194, attributes := #[] }, { accessFlags := 25, nameIndex := 318, descriptorIndex := 194, attributes := #[] }, { accessFlags := 26, nameIndex := 320, descriptorIndex := 321, attributes := #[] }])
  fields := #[{ name := "MIN_VALUE", type := .int, accessFlags := 25, slot := 0, constantValue := 0 }, { name := "MAX_VALUE", type := .int, accessFlags := 25, slot := 1, constantValue := 0 }, { name := "TYPE", type := (.object "java/lang/Class"), accessFlags := 25, slot := 2, constantValue := 0 }, { name := "digits", type := (.array .char), accessFlags := 24, slot := 3, constantValue := 0 }, { name := "DigitTens", type := (.array .byte), accessFlags := 24, slot := 4, constantValue := 0 }, { name := "DigitOnes", type := (.array .byte), accessFlags := 24, slot := 5, constantValue := 0 }, { name := "value", type := .int, accessFlags := 18, slot := 0, constantValue := 0 }, { name := "SIZE", type := .int, accessFlags := 25, slot := 6, constantValue := 0 }, { name := "BYTES", type := .int, accessFlags := 25, slot := 7, constantValue := 0 }, { name := "serialVersionUID", type := .long, accessFlags := 26, slot := 8, constantValue := 0 }]
  methods := #[k13m0, k13m1]
  instanceTypes := #[.int]
  staticTypes := #[.int, .int, (.object "java/lang/Class"), (.array .char), (.array .byte), (.array .byte), .int, .int, .long]
  resolved := Array.replicate 453 none
  statics := none }

def pool14 : Array CpInfo := pool [(2, .class_ 4), (1, u "java/lang/Object"), (0, u "<init>"), (0, u "()V"), (0, .class_ 8), (0, u "java/lang/Integer"), (7, .class_ 18), (1, u "java/lang/Integer$IntegerCache"), (0, u "$assertionsDisabled"), (0, u "Z"), (26, u "high"), (0, u "I"), (8, u "archivedCache"), (0, u "[Ljava/lang/Integer;"), (12, u "cache"), (0, u "low")] 27

def k14m0 : Method := { name := "<init>", desc := "()V", sig := { parameters := [], returnType := none }, accessFlags := 2, code := none }
/-- java/lang/Integer$IntegerCache -/
def k14 : Class := { plain "java/lang/Integer$IntegerCache" (some 0) with
  accessFlags := 48
  interfaces := #[]
  cf := some (fileOf pool14 16 #[.nestHost 7] #[{ accessFlags := 2, nameIndex := 5, descriptorIndex := 6, attributes := #[] }] 48 2 #[] #[{ accessFlags := 24, nameIndex := 72, descriptorIndex := 48, attributes := #[] }, { accessFlags := 24, nameIndex := 47, descriptorIndex := 48, attributes := #[] }, { accessFlags := 24, nameIndex := 71, descriptorIndex := 58, attributes := #[] }, { accessFlags := 8, nameIndex := 57, descriptorIndex := 58, attributes := #[] }, { accessFlags := 4120, nameIndex := 19, descriptorIndex := 20, attributes := #[] }])
  fields := #[{ name := "low", type := .int, accessFlags := 24, slot := 0, constantValue := 0 }, { name := "high", type := .int, accessFlags := 24, slot := 1, constantValue := 0 }, { name := "cache", type := (.array (.object "java/lang/Integer")), accessFlags := 24, slot := 2, constantValue := 0 }, { name := "archivedCache", type := (.array (.object "java/lang/Integer")), accessFlags := 8, slot := 3, constantValue := 0 }, { name := "$assertionsDisabled", type := .boolean, accessFlags := 4120, slot := 4, constantValue := 0 }]
  methods := #[k14m0]
  instanceTypes := #[]
  staticTypes := #[.int, .int, (.array (.object "java/lang/Integer")), (.array (.object "java/lang/Integer")), .boolean]
  resolved := Array.replicate 100 none
  statics := some 1 }

def pool15 : Array CpInfo := pool [(1, u "java/lang/Cloneable"), (0, .class_ 1), (0, u "java/lang/Object"), (0, .class_ 3)] 3

/-- java/lang/Cloneable -/
def k15 : Class := { plain "java/lang/Cloneable" (some 0) with
  accessFlags := 1537
  interfaces := #[]
  cf := some (fileOf pool15 2 #[] #[] 1537 4 #[] #[])
  fields := #[]
  methods := #[]
  instanceTypes := #[]
  staticTypes := #[]
  resolved := Array.replicate 8 none
  statics := none }

/-- the primitive byte -/
def k16 : Class := { plain "byte" none with kind := .primitive 'B', accessFlags := 0x411 }
/-- [B -/
def k17 : Class := { plain "[B" (some 0) with kind := .array 16 .byte, interfaces := #[15, 5], accessFlags := 1041 }

/-- the primitive int -/
def k18 : Class := { plain "int" none with kind := .primitive 'I', accessFlags := 0x411 }
/-- [I -/
def k19 : Class := { plain "[I" (some 0) with kind := .array 18 .int, interfaces := #[15, 5], accessFlags := 1041 }

/-- [Ljava/lang/Integer; -/
def k20 : Class := { plain "[Ljava/lang/Integer;" (some 0) with kind := .array 13 (.object "java/lang/Integer"), interfaces := #[15, 5], accessFlags := 1041 }

def heap : Heap := #[{ cls := 7, slots := #[.ref 259, .ref 260, .ref 261, .ref 262, .ref 263, .ref 264, .ref 265, .ref 266, .null], vm := .statics 7 },
  { cls := 14, slots := #[.int 0, .int 127, .ref 2, .null, .int 0], vm := .statics 14 },
  { cls := 20, slots := #[.ref 3, .ref 4, .ref 5, .ref 6, .ref 7, .ref 8, .ref 9, .ref 10, .ref 11, .ref 12, .ref 13, .ref 14, .ref 15, .ref 16, .ref 17, .ref 18, .ref 19, .ref 20, .ref 21, .ref 22, .ref 23, .ref 24, .ref 25, .ref 26, .ref 27, .ref 28, .ref 29, .ref 30, .ref 31, .ref 32, .ref 33, .ref 34, .ref 35, .ref 36, .ref 37, .ref 38, .ref 39, .ref 40, .ref 41, .ref 42, .ref 43, .ref 44, .ref 45, .ref 46, .ref 47, .ref 48, .ref 49, .ref 50, .ref 51, .ref 52, .ref 53, .ref 54, .ref 55, .ref 56, .ref 57, .ref 58, .ref 59, .ref 60, .ref 61, .ref 62, .ref 63, .ref 64, .ref 65, .ref 66, .ref 67, .ref 68, .ref 69, .ref 70, .ref 71, .ref 72, .ref 73, .ref 74, .ref 75, .ref 76, .ref 77, .ref 78, .ref 79, .ref 80, .ref 81, .ref 82, .ref 83, .ref 84, .ref 85, .ref 86, .ref 87, .ref 88, .ref 89, .ref 90, .ref 91, .ref 92, .ref 93, .ref 94, .ref 95, .ref 96, .ref 97, .ref 98, .ref 99, .ref 100, .ref 101, .ref 102, .ref 103, .ref 104, .ref 105, .ref 106, .ref 107, .ref 108, .ref 109, .ref 110, .ref 111, .ref 112, .ref 113, .ref 114, .ref 115, .ref 116, .ref 117, .ref 118, .ref 119, .ref 120, .ref 121, .ref 122, .ref 123, .ref 124, .ref 125, .ref 126, .ref 127, .ref 128, .ref 129, .ref 130, .ref 131, .ref 132, .ref 133, .ref 134, .ref 135, .ref 136, .ref 137, .ref 138, .ref 139, .ref 140, .ref 141, .ref 142, .ref 143, .ref 144, .ref 145, .ref 146, .ref 147, .ref 148, .ref 149, .ref 150, .ref 151, .ref 152, .ref 153, .ref 154, .ref 155, .ref 156, .ref 157, .ref 158, .ref 159, .ref 160, .ref 161, .ref 162, .ref 163, .ref 164, .ref 165, .ref 166, .ref 167, .ref 168, .ref 169, .ref 170, .ref 171, .ref 172, .ref 173, .ref 174, .ref 175, .ref 176, .ref 177, .ref 178, .ref 179, .ref 180, .ref 181, .ref 182, .ref 183, .ref 184, .ref 185, .ref 186, .ref 187, .ref 188, .ref 189, .ref 190, .ref 191, .ref 192, .ref 193, .ref 194, .ref 195, .ref 196, .ref 197, .ref 198, .ref 199, .ref 200, .ref 201, .ref 202, .ref 203, .ref 204, .ref 205, .ref 206, .ref 207, .ref 208, .ref 209, .ref 210, .ref 211, .ref 212, .ref 213, .ref 214, .ref 215, .ref 216, .ref 217, .ref 218, .ref 219, .ref 220, .ref 221, .ref 222, .ref 223, .ref 224, .ref 225, .ref 226, .ref 227, .ref 228, .ref 229, .ref 230, .ref 231, .ref 232, .ref 233, .ref 234, .ref 235, .ref 236, .ref 237, .ref 238, .ref 239, .ref 240, .ref 241, .ref 242, .ref 243, .ref 244, .ref 245, .ref 246, .ref 247, .ref 248, .ref 249, .ref 250, .ref 251, .ref 252, .ref 253, .ref 254, .ref 255, .ref 256, .ref 257, .ref 258], vm := .none },
  { cls := 13, slots := #[.int (-128)], vm := .none },
  { cls := 13, slots := #[.int (-127)], vm := .none },
  { cls := 13, slots := #[.int (-126)], vm := .none },
  { cls := 13, slots := #[.int (-125)], vm := .none },
  { cls := 13, slots := #[.int (-124)], vm := .none },
  { cls := 13, slots := #[.int (-123)], vm := .none },
  { cls := 13, slots := #[.int (-122)], vm := .none },
  { cls := 13, slots := #[.int (-121)], vm := .none },
  { cls := 13, slots := #[.int (-120)], vm := .none },
  { cls := 13, slots := #[.int (-119)], vm := .none },
  { cls := 13, slots := #[.int (-118)], vm := .none },
  { cls := 13, slots := #[.int (-117)], vm := .none },
  { cls := 13, slots := #[.int (-116)], vm := .none },
  { cls := 13, slots := #[.int (-115)], vm := .none },
  { cls := 13, slots := #[.int (-114)], vm := .none },
  { cls := 13, slots := #[.int (-113)], vm := .none },
  { cls := 13, slots := #[.int (-112)], vm := .none },
  { cls := 13, slots := #[.int (-111)], vm := .none },
  { cls := 13, slots := #[.int (-110)], vm := .none },
  { cls := 13, slots := #[.int (-109)], vm := .none },
  { cls := 13, slots := #[.int (-108)], vm := .none },
  { cls := 13, slots := #[.int (-107)], vm := .none },
  { cls := 13, slots := #[.int (-106)], vm := .none },
  { cls := 13, slots := #[.int (-105)], vm := .none },
  { cls := 13, slots := #[.int (-104)], vm := .none },
  { cls := 13, slots := #[.int (-103)], vm := .none },
  { cls := 13, slots := #[.int (-102)], vm := .none },
  { cls := 13, slots := #[.int (-101)], vm := .none },
  { cls := 13, slots := #[.int (-100)], vm := .none },
  { cls := 13, slots := #[.int (-99)], vm := .none },
  { cls := 13, slots := #[.int (-98)], vm := .none },
  { cls := 13, slots := #[.int (-97)], vm := .none },
  { cls := 13, slots := #[.int (-96)], vm := .none },
  { cls := 13, slots := #[.int (-95)], vm := .none },
  { cls := 13, slots := #[.int (-94)], vm := .none },
  { cls := 13, slots := #[.int (-93)], vm := .none },
  { cls := 13, slots := #[.int (-92)], vm := .none },
  { cls := 13, slots := #[.int (-91)], vm := .none },
  { cls := 13, slots := #[.int (-90)], vm := .none },
  { cls := 13, slots := #[.int (-89)], vm := .none },
  { cls := 13, slots := #[.int (-88)], vm := .none },
  { cls := 13, slots := #[.int (-87)], vm := .none },
  { cls := 13, slots := #[.int (-86)], vm := .none },
  { cls := 13, slots := #[.int (-85)], vm := .none },
  { cls := 13, slots := #[.int (-84)], vm := .none },
  { cls := 13, slots := #[.int (-83)], vm := .none },
  { cls := 13, slots := #[.int (-82)], vm := .none },
  { cls := 13, slots := #[.int (-81)], vm := .none },
  { cls := 13, slots := #[.int (-80)], vm := .none },
  { cls := 13, slots := #[.int (-79)], vm := .none },
  { cls := 13, slots := #[.int (-78)], vm := .none },
  { cls := 13, slots := #[.int (-77)], vm := .none },
  { cls := 13, slots := #[.int (-76)], vm := .none },
  { cls := 13, slots := #[.int (-75)], vm := .none },
  { cls := 13, slots := #[.int (-74)], vm := .none },
  { cls := 13, slots := #[.int (-73)], vm := .none },
  { cls := 13, slots := #[.int (-72)], vm := .none },
  { cls := 13, slots := #[.int (-71)], vm := .none },
  { cls := 13, slots := #[.int (-70)], vm := .none },
  { cls := 13, slots := #[.int (-69)], vm := .none },
  { cls := 13, slots := #[.int (-68)], vm := .none },
  { cls := 13, slots := #[.int (-67)], vm := .none },
  { cls := 13, slots := #[.int (-66)], vm := .none },
  { cls := 13, slots := #[.int (-65)], vm := .none },
  { cls := 13, slots := #[.int (-64)], vm := .none },
  { cls := 13, slots := #[.int (-63)], vm := .none },
  { cls := 13, slots := #[.int (-62)], vm := .none },
  { cls := 13, slots := #[.int (-61)], vm := .none },
  { cls := 13, slots := #[.int (-60)], vm := .none },
  { cls := 13, slots := #[.int (-59)], vm := .none },
  { cls := 13, slots := #[.int (-58)], vm := .none },
  { cls := 13, slots := #[.int (-57)], vm := .none },
  { cls := 13, slots := #[.int (-56)], vm := .none },
  { cls := 13, slots := #[.int (-55)], vm := .none },
  { cls := 13, slots := #[.int (-54)], vm := .none },
  { cls := 13, slots := #[.int (-53)], vm := .none },
  { cls := 13, slots := #[.int (-52)], vm := .none },
  { cls := 13, slots := #[.int (-51)], vm := .none },
  { cls := 13, slots := #[.int (-50)], vm := .none },
  { cls := 13, slots := #[.int (-49)], vm := .none },
  { cls := 13, slots := #[.int (-48)], vm := .none },
  { cls := 13, slots := #[.int (-47)], vm := .none },
  { cls := 13, slots := #[.int (-46)], vm := .none },
  { cls := 13, slots := #[.int (-45)], vm := .none },
  { cls := 13, slots := #[.int (-44)], vm := .none },
  { cls := 13, slots := #[.int (-43)], vm := .none },
  { cls := 13, slots := #[.int (-42)], vm := .none },
  { cls := 13, slots := #[.int (-41)], vm := .none },
  { cls := 13, slots := #[.int (-40)], vm := .none },
  { cls := 13, slots := #[.int (-39)], vm := .none },
  { cls := 13, slots := #[.int (-38)], vm := .none },
  { cls := 13, slots := #[.int (-37)], vm := .none },
  { cls := 13, slots := #[.int (-36)], vm := .none },
  { cls := 13, slots := #[.int (-35)], vm := .none },
  { cls := 13, slots := #[.int (-34)], vm := .none },
  { cls := 13, slots := #[.int (-33)], vm := .none },
  { cls := 13, slots := #[.int (-32)], vm := .none },
  { cls := 13, slots := #[.int (-31)], vm := .none },
  { cls := 13, slots := #[.int (-30)], vm := .none },
  { cls := 13, slots := #[.int (-29)], vm := .none },
  { cls := 13, slots := #[.int (-28)], vm := .none },
  { cls := 13, slots := #[.int (-27)], vm := .none },
  { cls := 13, slots := #[.int (-26)], vm := .none },
  { cls := 13, slots := #[.int (-25)], vm := .none },
  { cls := 13, slots := #[.int (-24)], vm := .none },
  { cls := 13, slots := #[.int (-23)], vm := .none },
  { cls := 13, slots := #[.int (-22)], vm := .none },
  { cls := 13, slots := #[.int (-21)], vm := .none },
  { cls := 13, slots := #[.int (-20)], vm := .none },
  { cls := 13, slots := #[.int (-19)], vm := .none },
  { cls := 13, slots := #[.int (-18)], vm := .none },
  { cls := 13, slots := #[.int (-17)], vm := .none },
  { cls := 13, slots := #[.int (-16)], vm := .none },
  { cls := 13, slots := #[.int (-15)], vm := .none },
  { cls := 13, slots := #[.int (-14)], vm := .none },
  { cls := 13, slots := #[.int (-13)], vm := .none },
  { cls := 13, slots := #[.int (-12)], vm := .none },
  { cls := 13, slots := #[.int (-11)], vm := .none },
  { cls := 13, slots := #[.int (-10)], vm := .none },
  { cls := 13, slots := #[.int (-9)], vm := .none },
  { cls := 13, slots := #[.int (-8)], vm := .none },
  { cls := 13, slots := #[.int (-7)], vm := .none },
  { cls := 13, slots := #[.int (-6)], vm := .none },
  { cls := 13, slots := #[.int (-5)], vm := .none },
  { cls := 13, slots := #[.int (-4)], vm := .none },
  { cls := 13, slots := #[.int (-3)], vm := .none },
  { cls := 13, slots := #[.int (-2)], vm := .none },
  { cls := 13, slots := #[.int (-1)], vm := .none },
  { cls := 13, slots := #[.int (0)], vm := .none },
  { cls := 13, slots := #[.int (1)], vm := .none },
  { cls := 13, slots := #[.int (2)], vm := .none },
  { cls := 13, slots := #[.int (3)], vm := .none },
  { cls := 13, slots := #[.int (4)], vm := .none },
  { cls := 13, slots := #[.int (5)], vm := .none },
  { cls := 13, slots := #[.int (6)], vm := .none },
  { cls := 13, slots := #[.int (7)], vm := .none },
  { cls := 13, slots := #[.int (8)], vm := .none },
  { cls := 13, slots := #[.int (9)], vm := .none },
  { cls := 13, slots := #[.int (10)], vm := .none },
  { cls := 13, slots := #[.int (11)], vm := .none },
  { cls := 13, slots := #[.int (12)], vm := .none },
  { cls := 13, slots := #[.int (13)], vm := .none },
  { cls := 13, slots := #[.int (14)], vm := .none },
  { cls := 13, slots := #[.int (15)], vm := .none },
  { cls := 13, slots := #[.int (16)], vm := .none },
  { cls := 13, slots := #[.int (17)], vm := .none },
  { cls := 13, slots := #[.int (18)], vm := .none },
  { cls := 13, slots := #[.int (19)], vm := .none },
  { cls := 13, slots := #[.int (20)], vm := .none },
  { cls := 13, slots := #[.int (21)], vm := .none },
  { cls := 13, slots := #[.int (22)], vm := .none },
  { cls := 13, slots := #[.int (23)], vm := .none },
  { cls := 13, slots := #[.int (24)], vm := .none },
  { cls := 13, slots := #[.int (25)], vm := .none },
  { cls := 13, slots := #[.int (26)], vm := .none },
  { cls := 13, slots := #[.int (27)], vm := .none },
  { cls := 13, slots := #[.int (28)], vm := .none },
  { cls := 13, slots := #[.int (29)], vm := .none },
  { cls := 13, slots := #[.int (30)], vm := .none },
  { cls := 13, slots := #[.int (31)], vm := .none },
  { cls := 13, slots := #[.int (32)], vm := .none },
  { cls := 13, slots := #[.int (33)], vm := .none },
  { cls := 13, slots := #[.int (34)], vm := .none },
  { cls := 13, slots := #[.int (35)], vm := .none },
  { cls := 13, slots := #[.int (36)], vm := .none },
  { cls := 13, slots := #[.int (37)], vm := .none },
  { cls := 13, slots := #[.int (38)], vm := .none },
  { cls := 13, slots := #[.int (39)], vm := .none },
  { cls := 13, slots := #[.int (40)], vm := .none },
  { cls := 13, slots := #[.int (41)], vm := .none },
  { cls := 13, slots := #[.int (42)], vm := .none },
  { cls := 13, slots := #[.int (43)], vm := .none },
  { cls := 13, slots := #[.int (44)], vm := .none },
  { cls := 13, slots := #[.int (45)], vm := .none },
  { cls := 13, slots := #[.int (46)], vm := .none },
  { cls := 13, slots := #[.int (47)], vm := .none },
  { cls := 13, slots := #[.int (48)], vm := .none },
  { cls := 13, slots := #[.int (49)], vm := .none },
  { cls := 13, slots := #[.int (50)], vm := .none },
  { cls := 13, slots := #[.int (51)], vm := .none },
  { cls := 13, slots := #[.int (52)], vm := .none },
  { cls := 13, slots := #[.int (53)], vm := .none },
  { cls := 13, slots := #[.int (54)], vm := .none },
  { cls := 13, slots := #[.int (55)], vm := .none },
  { cls := 13, slots := #[.int (56)], vm := .none },
  { cls := 13, slots := #[.int (57)], vm := .none },
  { cls := 13, slots := #[.int (58)], vm := .none },
  { cls := 13, slots := #[.int (59)], vm := .none },
  { cls := 13, slots := #[.int (60)], vm := .none },
  { cls := 13, slots := #[.int (61)], vm := .none },
  { cls := 13, slots := #[.int (62)], vm := .none },
  { cls := 13, slots := #[.int (63)], vm := .none },
  { cls := 13, slots := #[.int (64)], vm := .none },
  { cls := 13, slots := #[.int (65)], vm := .none },
  { cls := 13, slots := #[.int (66)], vm := .none },
  { cls := 13, slots := #[.int (67)], vm := .none },
  { cls := 13, slots := #[.int (68)], vm := .none },
  { cls := 13, slots := #[.int (69)], vm := .none },
  { cls := 13, slots := #[.int (70)], vm := .none },
  { cls := 13, slots := #[.int (71)], vm := .none },
  { cls := 13, slots := #[.int (72)], vm := .none },
  { cls := 13, slots := #[.int (73)], vm := .none },
  { cls := 13, slots := #[.int (74)], vm := .none },
  { cls := 13, slots := #[.int (75)], vm := .none },
  { cls := 13, slots := #[.int (76)], vm := .none },
  { cls := 13, slots := #[.int (77)], vm := .none },
  { cls := 13, slots := #[.int (78)], vm := .none },
  { cls := 13, slots := #[.int (79)], vm := .none },
  { cls := 13, slots := #[.int (80)], vm := .none },
  { cls := 13, slots := #[.int (81)], vm := .none },
  { cls := 13, slots := #[.int (82)], vm := .none },
  { cls := 13, slots := #[.int (83)], vm := .none },
  { cls := 13, slots := #[.int (84)], vm := .none },
  { cls := 13, slots := #[.int (85)], vm := .none },
  { cls := 13, slots := #[.int (86)], vm := .none },
  { cls := 13, slots := #[.int (87)], vm := .none },
  { cls := 13, slots := #[.int (88)], vm := .none },
  { cls := 13, slots := #[.int (89)], vm := .none },
  { cls := 13, slots := #[.int (90)], vm := .none },
  { cls := 13, slots := #[.int (91)], vm := .none },
  { cls := 13, slots := #[.int (92)], vm := .none },
  { cls := 13, slots := #[.int (93)], vm := .none },
  { cls := 13, slots := #[.int (94)], vm := .none },
  { cls := 13, slots := #[.int (95)], vm := .none },
  { cls := 13, slots := #[.int (96)], vm := .none },
  { cls := 13, slots := #[.int (97)], vm := .none },
  { cls := 13, slots := #[.int (98)], vm := .none },
  { cls := 13, slots := #[.int (99)], vm := .none },
  { cls := 13, slots := #[.int (100)], vm := .none },
  { cls := 13, slots := #[.int (101)], vm := .none },
  { cls := 13, slots := #[.int (102)], vm := .none },
  { cls := 13, slots := #[.int (103)], vm := .none },
  { cls := 13, slots := #[.int (104)], vm := .none },
  { cls := 13, slots := #[.int (105)], vm := .none },
  { cls := 13, slots := #[.int (106)], vm := .none },
  { cls := 13, slots := #[.int (107)], vm := .none },
  { cls := 13, slots := #[.int (108)], vm := .none },
  { cls := 13, slots := #[.int (109)], vm := .none },
  { cls := 13, slots := #[.int (110)], vm := .none },
  { cls := 13, slots := #[.int (111)], vm := .none },
  { cls := 13, slots := #[.int (112)], vm := .none },
  { cls := 13, slots := #[.int (113)], vm := .none },
  { cls := 13, slots := #[.int (114)], vm := .none },
  { cls := 13, slots := #[.int (115)], vm := .none },
  { cls := 13, slots := #[.int (116)], vm := .none },
  { cls := 13, slots := #[.int (117)], vm := .none },
  { cls := 13, slots := #[.int (118)], vm := .none },
  { cls := 13, slots := #[.int (119)], vm := .none },
  { cls := 13, slots := #[.int (120)], vm := .none },
  { cls := 13, slots := #[.int (121)], vm := .none },
  { cls := 13, slots := #[.int (122)], vm := .none },
  { cls := 13, slots := #[.int (123)], vm := .none },
  { cls := 13, slots := #[.int (124)], vm := .none },
  { cls := 13, slots := #[.int (125)], vm := .none },
  { cls := 13, slots := #[.int (126)], vm := .none },
  { cls := 13, slots := #[.int (127)], vm := .none },
  { cls := 7, slots := #[.null, .int 0, .int 0], vm := .none },
  { cls := 7, slots := #[.null, .int 1, .int 0], vm := .none },
  { cls := 7, slots := #[.null, .int 2, .int 0], vm := .none },
  { cls := 7, slots := #[.null, .int 3, .int 0], vm := .none },
  { cls := 7, slots := #[.null, .int 4, .int 0], vm := .none },
  { cls := 7, slots := #[.null, .int 5, .int 0], vm := .none },
  { cls := 7, slots := #[.null, .int 6, .int 0], vm := .none },
  { cls := 7, slots := #[.null, .int 7, .int 0], vm := .none }]
def classes : Array Class := #[k0, k1, k2, k3, k4, k5, k6, k7, k8, k9, k10, k11, k12, k13, k14, k15, k16, k17, k18, k19, k20]
def interned : List (Array UInt16 × Addr) := []
def slotsUsed : Nat := 550
def theMethod : MethodId := ⟨1, 2⟩
def args0 : Array Value := #[.int 5, .int 7, .int 3, .int 9, .int 2]
def aboutOver (below : List Frame) : State where
  vm := { classes := classes, interned := interned.toArray }
  heap := heap
  slotsUsed := slotsUsed
  threads := #[{ frames := .invoking theMethod args0 :: below }]
def below0 : List Frame := [.native { method := ⟨0, 0⟩, args := #[] }]
def about1 : State := aboutOver below0
def p0 : Program := .bare "" "" ""
def e0 : Env := launch0.env 0 0 0
theorem w_frames : about1.frames = Frame.invoking theMethod args0 :: below0 := rfl
set_option maxRecDepth 65536 in
theorem w_args : argsFit about1.vm theMethod args0 = true := by decide +kernel
set_option maxRecDepth 65536 in
theorem w_heap : heapFits about1 = true := by decide +kernel
set_option maxRecDepth 65536 in
theorem w_runnable : about1.curStatus? = some .runnable := by decide +kernel
set_option maxRecDepth 65536 in
theorem w_alone : about1.alone = true := by decide +kernel
set_option maxRecDepth 65536 in
theorem w_named : about1.methodNamed? x = some theMethod := by decide +kernel
set_option maxRecDepth 65536 in
theorem w_hears : about1.hears theMethod below0 = true := by decide +kernel
set_option maxRecDepth 65536 in
theorem w_ripe : about1.ripe theMethod args0 below0 = true := by decide +kernel
theorem w_running : about1.status = .running := rfl
set_option maxRecDepth 65536 in
theorem w_room : about1.hasRoom e0.platform room_1 = true :=
  launch0.hasRoom_least _ room_1 (by decide +kernel) (by decide +kernel) (by decide +kernel) (by decide +kernel) (by decide +kernel) (by decide +kernel)
theorem allAtoms_all (ts : List Jvm.Cond) (a : Array Jvm.Value) (st : Jvm.State) : (allAtoms ts).before a st = ts.all (fun c => c.before a st) := by
  induction ts with
  | nil => rfl
  | cons c t ih =>
    show (Jvm.Cond.and c (allAtoms t)).before a st = _
    rw [Jvm.Cond.before_and, ih, List.all_cons]
def words1 : List Jvm.Cond := Jvm.Cond.code x code maxLocals ret :: tables_1
/-- a 'code' word, met by the world's own term for the bytes: nothing is compared byte by byte -/
theorem code_word {y : MethodName} {bytes : ByteArray} {mx : Nat} {rt : Option FieldType} {a : Array Value} {s : State} {m : MethodId} {meth : Method} {c : Code} (h1 : s.methodNamed? y = some m) (h2 : s.vm.method? m = some meth) (h3 : meth.code = some c) (h4 : c.code = bytes)
    (h5 : (c.maxLocals == mx && c.exceptionTable.isEmpty && decide (c.maxStack ≤ mostOperands) && decide (meth.sig.returnType = rt) && !meth.locks && decide (parseMethodDescriptor y.desc = some meth.sig)) = true) : (Jvm.Cond.code y bytes mx rt).before a s = true := by
  simp only [Bool.and_eq_true, beq_iff_eq, Bool.not_eq_true', decide_eq_true_eq] at h5
  obtain ⟨⟨⟨⟨⟨g1, g2⟩, g3⟩, g4⟩, g5⟩, g6⟩ := h5
  simp [Cond.before, Cond.holds, Cond.value, h1, h2, h3, h4, g1, g2, g3, g4, g5, g6]
def isCode : Jvm.Cond → Bool
  | .code _ _ _ _ => true
  | _ => false
theorem all_split {L : List Jvm.Cond} {P : Jvm.Cond → Bool} (h1 : L.all (fun c => isCode c || P c) = true) (h2 : ∀ c ∈ L.filter isCode, P c = true) : L.all P = true := by
  refine List.all_eq_true.mpr fun c hc => ?_
  have h := List.all_eq_true.mp h1 c hc
  rcases Bool.eq_false_or_eq_true (isCode c) with hi | hi
  · exact h2 c (List.mem_filter.mpr ⟨hc, hi⟩)
  · simpa [hi] using h
set_option maxRecDepth 65536 in
theorem w_c0 : (Jvm.Cond.code x code maxLocals ret).before args0 about1 = true := code_word (m := ⟨1, 2⟩) (meth := k1m2) (c := k1c2) (by decide +kernel) rfl rfl rfl (by decide +kernel)
set_option maxRecDepth 65536 in
theorem w_c1 : (Jvm.Cond.code ({ cls := "com/example/denary/denary/context/MathContextEqualsPinLaw", name := "mode", desc := "(I)Lcom/example/denary/denary/context/RoundingMode;" } : Jvm.MethodName) method_2_code (1 : Nat) (Option.some (Jvm.ClassFile.FieldType.object "com/example/denary/denary/context/RoundingMode"))).before args0 about1 = true := code_word (m := ⟨1, 1⟩) (meth := k1m1) (c := k1c1) (by decide +kernel) rfl rfl rfl (by decide +kernel)
set_option maxRecDepth 65536 in
theorem w_c2 : (Jvm.Cond.code ({ cls := "com/example/denary/denary/context/MathContext", name := "<init>", desc := "(ILcom/example/denary/denary/context/RoundingMode;)V" } : Jvm.MethodName) prog_29_method_2_code (3 : Nat) (Option.none : Option Jvm.ClassFile.FieldType)).before args0 about1 = true := code_word (m := ⟨2, 0⟩) (meth := k2m0) (c := k2c0) (by decide +kernel) rfl rfl rfl (by decide +kernel)
set_option maxRecDepth 65536 in
theorem w_c3 : (Jvm.Cond.code ({ cls := "java/lang/Object", name := "<init>", desc := "()V" } : Jvm.MethodName) object_method_1_code (1 : Nat) (Option.none : Option Jvm.ClassFile.FieldType)).before args0 about1 = true := code_word (m := ⟨0, 0⟩) (meth := k0m0) (c := k0c0) (by decide +kernel) rfl rfl rfl (by decide +kernel)
set_option maxRecDepth 65536 in
theorem w_c4 : (Jvm.Cond.code ({ cls := "java/util/Objects", name := "requireNonNull", desc := "(Ljava/lang/Object;Ljava/lang/String;)Ljava/lang/Object;" } : Jvm.MethodName) jdk_31_method_11_code (2 : Nat) (Option.some (Jvm.ClassFile.FieldType.object "java/lang/Object"))).before args0 about1 = true := code_word (m := ⟨11, 1⟩) (meth := k11m1) (c := k11c1) (by decide +kernel) rfl rfl rfl (by decide +kernel)
set_option maxRecDepth 65536 in
theorem w_c5 : (Jvm.Cond.code ({ cls := "com/example/denary/denary/context/MathContext", name := "equals", desc := "(Ljava/lang/Object;)Z" } : Jvm.MethodName) prog_29_method_9_code (3 : Nat) (Option.some Jvm.ClassFile.FieldType.boolean)).before args0 about1 = true := code_word (m := ⟨2, 1⟩) (meth := k2m1) (c := k2c1) (by decide +kernel) rfl rfl rfl (by decide +kernel)
set_option maxRecDepth 65536 in
theorem w_c6 : (Jvm.Cond.code ({ cls := "java/lang/Integer", name := "valueOf", desc := "(I)Ljava/lang/Integer;" } : Jvm.MethodName) jdk_33_method_22_code (1 : Nat) (Option.some (Jvm.ClassFile.FieldType.object "java/lang/Integer"))).before args0 about1 = true := code_word (m := ⟨13, 0⟩) (meth := k13m0) (c := k13c0) (by decide +kernel) rfl rfl rfl (by decide +kernel)
set_option maxRecDepth 65536 in
theorem w_c7 : (Jvm.Cond.code ({ cls := "java/lang/Integer", name := "<init>", desc := "(I)V" } : Jvm.MethodName) jdk_33_method_23_code (2 : Nat) (Option.none : Option Jvm.ClassFile.FieldType)).before args0 about1 = true := code_word (m := ⟨13, 1⟩) (meth := k13m1) (c := k13c1) (by decide +kernel) rfl rfl rfl (by decide +kernel)
set_option maxRecDepth 65536 in
theorem w_c8 : (Jvm.Cond.code ({ cls := "java/lang/Number", name := "<init>", desc := "()V" } : Jvm.MethodName) jdk_18_method_1_code (1 : Nat) (Option.none : Option Jvm.ClassFile.FieldType)).before args0 about1 = true := code_word (m := ⟨12, 0⟩) (meth := k12m0) (c := k12c0) (by decide +kernel) rfl rfl rfl (by decide +kernel)
def codes1 : List Jvm.Cond := [Jvm.Cond.code x code maxLocals ret, Jvm.Cond.code ({ cls := "com/example/denary/denary/context/MathContextEqualsPinLaw", name := "mode", desc := "(I)Lcom/example/denary/denary/context/RoundingMode;" } : Jvm.MethodName) method_2_code (1 : Nat) (Option.some (Jvm.ClassFile.FieldType.object "com/example/denary/denary/context/RoundingMode")), Jvm.Cond.code ({ cls := "com/example/denary/denary/context/MathContext", name := "<init>", desc := "(ILcom/example/denary/denary/context/RoundingMode;)V" } : Jvm.MethodName) prog_29_method_2_code (3 : Nat) (Option.none : Option Jvm.ClassFile.FieldType), Jvm.Cond.code ({ cls := "java/lang/Object", name := "<init>", desc := "()V" } : Jvm.MethodName) object_method_1_code (1 : Nat) (Option.none : Option Jvm.ClassFile.FieldType), Jvm.Cond.code ({ cls := "java/util/Objects", name := "requireNonNull", desc := "(Ljava/lang/Object;Ljava/lang/String;)Ljava/lang/Object;" } : Jvm.MethodName) jdk_31_method_11_code (2 : Nat) (Option.some (Jvm.ClassFile.FieldType.object "java/lang/Object")), Jvm.Cond.code ({ cls := "com/example/denary/denary/context/MathContext", name := "equals", desc := "(Ljava/lang/Object;)Z" } : Jvm.MethodName) prog_29_method_9_code (3 : Nat) (Option.some Jvm.ClassFile.FieldType.boolean), Jvm.Cond.code ({ cls := "java/lang/Integer", name := "valueOf", desc := "(I)Ljava/lang/Integer;" } : Jvm.MethodName) jdk_33_method_22_code (1 : Nat) (Option.some (Jvm.ClassFile.FieldType.object "java/lang/Integer")), Jvm.Cond.code ({ cls := "java/lang/Integer", name := "<init>", desc := "(I)V" } : Jvm.MethodName) jdk_33_method_23_code (2 : Nat) (Option.none : Option Jvm.ClassFile.FieldType), Jvm.Cond.code ({ cls := "java/lang/Number", name := "<init>", desc := "()V" } : Jvm.MethodName) jdk_18_method_1_code (1 : Nat) (Option.none : Option Jvm.ClassFile.FieldType)]
set_option maxRecDepth 65536 in
theorem codes_eq : words1.filter isCode = codes1 := rfl
theorem w_codes : ∀ c ∈ words1.filter isCode, c.before args0 about1 = true := by
  rw [codes_eq]
  intro c hc
  simp only [codes1, List.mem_cons, List.not_mem_nil, or_false] at hc
  rcases hc with rfl | rfl | rfl | rfl | rfl | rfl | rfl | rfl | rfl
  · exact w_c0
  · exact w_c1
  · exact w_c2
  · exact w_c3
  · exact w_c4
  · exact w_c5
  · exact w_c6
  · exact w_c7
  · exact w_c8
set_option maxRecDepth 65536 in
theorem w_t1 : (words1.take 24).all (fun c => isCode c || c.before args0 about1) = true := by decide +kernel
set_option maxRecDepth 65536 in
theorem w_t2 : ((words1.drop 24).take 24).all (fun c => isCode c || c.before args0 about1) = true := by decide +kernel
set_option maxRecDepth 65536 in
theorem w_t3 : (((words1.drop 24).drop 24).take 24).all (fun c => isCode c || c.before args0 about1) = true := by decide +kernel
set_option maxRecDepth 65536 in
theorem w_t4 : (((words1.drop 24).drop 24).drop 24).all (fun c => isCode c || c.before args0 about1) = true := by decide +kernel
theorem w_tables : (allAtoms (Jvm.Cond.code x code maxLocals ret :: tables_1)).before args0 about1 = true := by
  rw [allAtoms_all]
  show words1.all (fun c => c.before args0 about1) = true
  refine all_split ?_ w_codes
  rw [← List.take_append_drop 24 words1, List.all_append, w_t1, ← List.take_append_drop 24 (words1.drop 24), List.all_append, w_t2, ← List.take_append_drop 24 ((words1.drop 24).drop 24), List.all_append, w_t3, w_t4]
  rfl
set_option maxRecDepth 65536 in
theorem w_rest : rest_1_c.before args0 about1 = true := by decide +kernel
set_option maxRecDepth 65536 in
theorem w_case : (Jvm.Cond.and given_1 narrow_1).before args0 about1 = true := by decide +kernel
theorem w_applies : (headSpec (Jvm.Cond.code x code maxLocals ret :: tables_1) room_1).applies x e0.platform about1 = true :=
  (Spec.applies_iff w_frames).mpr ⟨w_running, w_runnable, w_alone, w_named, w_hears, w_ripe, w_room, w_tables⟩
theorem atStart : AtStart classFile x code maxLocals ret World_1 tables_1 room_1 Calls_1 rest_1 Pre_1 launch0 p0 e0 about1 theMethod args0 below0 :=
  ⟨lists_1, trivial, launch0.admits_env _ _ _, launch0.least_env, fairChoices_fair.cas, fairChoices_fair.clock, w_frames, w_args, w_heap, w_applies, trivial, w_rest, w_case⟩
end start1
theorem witness_1 : WitnessClaimed_1 := ⟨start1.p0, start1.e0, start1.about1, start1.theMethod, start1.args0, start1.below0, start1.atStart⟩
end Jvm.Pilot.@@N@@
