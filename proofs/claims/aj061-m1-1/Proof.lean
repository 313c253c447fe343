import JvmDerived
import JvmDerived.Pilot.@@N@@Statement
import JvmDerived.Pilot.@@N@@Code
set_option linter.unusedVariables false
set_option linter.unusedSimpArgs false
namespace Jvm.RoadKit
open Sem ClassFile Op Lib Jvm.Stand Jvm.Free Jvm.LawKit
section New
variable {p : Program} {l : Launch} {e : Env} {R : Room} {s : State} {m : MethodId} {args : Array Value} {below : List Frame} {meth : Method} {c : Code} {T : State} {locs : List Loc} {cells slots : Nat}
theorem retI (X : Stand p l e R s m args below meth c T locs cells slots) (hx : p.tables.exec = Jvm.exec) {pc : Nat} {Ls : Array Slot} {z : Int32} {rest : List Value} (hret : meth.sig.returnType = some .int) (hd : decode c.code pc = .ok (.ireturn, 1)) {fs : List Frame}
    (hl : ∀ (f : JFrame) (acts : List Action), f.method = m → f.locked = none → f.entered = [] → (doReturn e (T.setTop f) acts (some (.int z))).1 = T.setFrames fs) : Steps p.tables e below (T.setTop (mkF m pc Ls (.int z :: rest))) (T.setFrames fs) :=
  retOut X hx hret rfl (Or.inl ⟨rfl, Or.inl rfl, _, rfl⟩) hd hl
end New
end Jvm.RoadKit
namespace Jvm.Pilot.@@N@@
open Jvm Jvm.ClassFile Sem Op Lib Jvm.Free Jvm.Stand Jvm.LawKit Jvm.RoadKit Bundle Jvm.Pilot.@@N@@.Jvm.D
/-! own_Goes: from A the run comes to a state of which P holds -/
def own_Goes (p : Program) (e : Env) (below : List Frame) (P : State → Prop) (A : State) : Prop := ∃ B, Steps p.tables e below A B ∧ P B
def own_Fin (s : State) (below : List Frame) (QQ : Option Value → Heap → List Loc → Prop) (C N : Nat) (B : State) : Prop := ∃ v L, B.status = .running ∧ Ended B below (.returned v) ∧ QQ v B.heap L ∧ FrameEnd s (.returned v) B L C N
theorem own_via {p : Program} {e : Env} {below : List Frame} {P : State → Prop} {A : State} (B : State) (h : ∀ t, Steps p.tables e below B t → Steps p.tables e below A t) (k : own_Goes p e below P B) : own_Goes p e below P A := by
  obtain ⟨t, h1, h2⟩ := k
  exact ⟨t, h t h1, h2⟩
theorem own_body {p : Program} {e : Env} {below : List Frame} {s s₁ : State} {QQ : Option Value → Heap → List Loc → Prop} {C N ml : Nat} {m : MethodId} {args : Array Value} {F : JFrame} (hF : entryFrame m args ml = F) (k : own_Goes p e below (own_Fin s below QQ C N) (s₁.setTop F)) :
    ∃ s₂ o, Steps p.tables e below (s₁.setTop (entryFrame m args ml)) s₂ ∧ s₂.status = .running ∧ Ended s₂ below o ∧ (∃ v L, o = .returned v ∧ QQ v s₂.heap L ∧ FrameEnd s o s₂ L C N) := by
  obtain ⟨B, h1, v, L, h2, h3, h4, h5⟩ := k
  exact ⟨B, .returned v, hF ▸ h1, h2, h3, v, L, rfl, h4, h5⟩
theorem own_leave {p : Program} {l : Launch} {e : Env} {R : Room} {s : State} {m : MethodId} {args : Array Value} {below : List Frame} {meth : Method} {c : Code} {T : State} {locs : List Loc} {cells slots : Nat} {QQ : Option Value → Heap → List Loc → Prop} {C N : Nat}
    (X : Stand p l e R s m args below meth c T locs cells slots) (hlocks : meth.locks = false) {v : Option Value} (hv : meth.sig.returnType = none → v = none) {F : JFrame}
    (hstep : ∀ fs, (∀ (f : JFrame) (acts : List Action), f.method = m → f.locked = none → f.entered = [] → (doReturn e (T.setTop f) acts v).1 = T.setFrames fs) → Steps p.tables e below (T.setTop F) (T.setFrames fs))
    (hq : QQ v T.heap locs) (hc : cells ≤ C) (hn : slots ≤ N) : own_Goes p e below (own_Fin s below QQ C N) (T.setTop F) := by
  obtain ⟨fs, hr, hrun, hended, hW, hsame⟩ := X.leave hv hlocks
  exact ⟨_, hstep fs hr, v, locs, hrun, hended, hq, ⟨_, rfl⟩, hW, hsame.mono hc hn⟩
/-- what a body that writes nothing leaves -/
def own_Q (r : Option Value) (h0 : Heap) (n0 : Nat) (v : Option Value) (h : Heap) (L : List Loc) : Prop := v = r ∧ Fr n0 L ∧ h = h0
/-! own_A: an array of ints or chars, by a function of the place -/
def own_A (Z : State) (h : Heap) (a : Addr) (ty : FieldType) (n : Nat) (f : Nat → Int32) : Prop := ∃ c : Cell, Arr Z h a c ty ∧ c.slots.size = n ∧ ∀ i, i < n → c.slots[i]? = some (.int (f i))
def own_up (f : Nat → Int32) (j : Nat) (v : Int32) (i : Nat) : Int32 := if i = j then v else f i
section OwnA
variable {Z : State} {h h' : Heap} {a b : Addr} {ty : FieldType} {n sl : Nat} {f : Nat → Int32} {v : Value} {ws : List Addr}
theorem own_A.ext (F : own_A Z h a ty n f) (E : Ext h h') : own_A Z h' a ty n f := by obtain ⟨c, A, r⟩ := F; exact ⟨c, A.ext E, r⟩
theorem own_A.other (F : own_A Z h b ty n f) (W : Wr h h' a sl v) (q : b ≠ a) : own_A Z h' b ty n f := by obtain ⟨c, A, r⟩ := F; exact ⟨c, A.other W q, r⟩
theorem own_A.keep (F : own_A Z h a ty n f) (K : Keep h h' ws) (q : a ∉ ws) : own_A Z h' a ty n f := by obtain ⟨c, A, r⟩ := F; exact ⟨c, ⟨K.2.1 a c A.1 q, A.2⟩, r⟩
theorem own_A.lt (F : own_A Z h a ty n f) : a < h.size := by obtain ⟨c, A, -⟩ := F; exact A.lt
theorem own_A.set {j : Nat} {x : Int32} (F : own_A Z h a ty n f) (W : Wr h h' a j (.int x)) : own_A Z h' a ty n (own_up f j x) := by
  obtain ⟨c, A, S, H⟩ := F
  refine ⟨c.setSlot j (.int x), A.same W, by simpa [Cell.setSlot] using S, fun i hi => ?_⟩
  unfold own_up
  by_cases e : i = j
  · subst e; rw [if_pos rfl]; simp [Cell.setSlot, S, hi]
  · rw [if_neg e]; rw [← H i hi]; exact Array.getElem?_setIfInBounds_ne (Ne.symm e)
theorem own_A.of {k : ClassId} {z : Int32} {vs : List Value} {d : Value} (F : Arv Z h a k ty z vs d) (hf : ∀ i, i < z.toNatClampNeg → vs.getD i d = .int (f i)) : own_A Z h a ty z.toNatClampNeg f := by
  obtain ⟨c, A, -, S, -, H, -⟩ := F
  exact ⟨c, A, S, fun i hi => by rw [H i (by rw [S]; exact hi), hf i hi]⟩
theorem own_A.cast {m : Nat} {g : Nat → Int32} (F : own_A Z h a ty n f) (e : n = m) (q : ∀ i, i < m → f i = g i) : own_A Z h a ty m g := by
  obtain ⟨c, A, S, H⟩ := F
  subst e
  exact ⟨c, A, S, fun i hi => by rw [H i hi, q i hi]⟩
end OwnA
theorem own_in {c : Cell} {n : Nat} {j : Int32} (S : c.slots.size = n) (q : 0 ≤ j.toInt ∧ j.toInt < n) : ¬ (j < 0 ∨ c.slots.size ≤ j.toNatClampNeg) := by
  have e0 : (0 : Int32).toInt = 0 := rfl
  have ek : j.toNatClampNeg = j.toInt.toNat := rfl
  rw [Int32.lt_iff_toInt_lt, S, ek]; omega
theorem own_at {c : Cell} {n : Nat} {f : Nat → Int32} {j : Int32} (H : ∀ i, i < n → c.slots[i]? = some (.int (f i))) (q : 0 ≤ j.toInt ∧ j.toInt < n) : c.slots[j.toNatClampNeg]? = some (.int (f j.toInt.toNat)) := H _ (by have ek : j.toNatClampNeg = j.toInt.toNat := rfl; omega)
theorem own_selpriv {s : State} {args : Array Value} {y : MethodName} {n : Nat} (wi : (Cond.instantiable y.cls n).before args s = true) (hpriv : s.PrivateAt y) (hinst : (Cond.instanceMethod y).before args s = true) (hy : y.cls ≠ "java/lang/invoke/MethodHandle" ∧ y.cls ≠ "java/lang/invoke/VarHandle") : (Cond.selects y.cls y y).before args s = true := by
  obtain ⟨c, k, h1, h2, h3, h4, -⟩ := Cond.instantiable_spec wi
  exact Jvm.Stand.selects_self_of_private h1 h2 (by simp only [Bool.or_eq_false_iff] at h4; exact h4.1) hpriv hinst hy
/-! the Integer cache, as the sheet's set says it -/
def own_Cache (Z : State) (h : Heap) : Prop := ∃ (cA : Addr) (cl : Cell), Sta Z h "java/lang/Integer$IntegerCache" "high" "I" (.int (127 : Int32)) ∧ Sta Z h "java/lang/Integer$IntegerCache" "cache" "[Ljava/lang/Integer;" (.ref cA) ∧ Arr Z h cA cl (.object "java/lang/Integer") ∧ cl.slots.size = 256 ∧ ∀ i, i < 256 → ∃ b, cl.slots[i]? = some (.ref b) ∧ Exa Z h b "java/lang/Integer"
theorem own_stakeep {Z : State} {h h' : Heap} {C n d : String} {v : Value} (F : Sta Z h C n d v) (K : Keep h h' []) : Sta Z h' C n d v := by
  obtain ⟨cf, i, k, f, st, cell, h1, h2, h3, h4, h5, r⟩ := F
  exact ⟨cf, i, k, f, st, cell, h1, h2, h3, h4, K.2.1 _ _ h5 (by simp), r⟩
theorem own_Cache.keep {Z : State} {h h' : Heap} (F : own_Cache Z h) (K : Keep h h' []) : own_Cache Z h' := by
  obtain ⟨cA, cl, s1, s2, A, S, H⟩ := F
  exact ⟨cA, cl, own_stakeep s1 K, own_stakeep s2 K, ⟨K.2.1 _ _ A.1 (by simp), A.2⟩, S, fun i hi => by obtain ⟨b, e, E⟩ := H i hi; exact ⟨b, e, E.keep K⟩⟩
theorem own_elem {t u : Term} {args : Array Value} {s : State} {idx : List Nat} {a : Addr} {j : Int32} {cl : Cell} (ht : t.eval args s none idx s = some (.ref a)) (hu : u.eval args s none idx s = some (.int j)) (hj : ¬ j < 0) (hat : s.arrayAt? a = some cl) : (Term.elem t u).eval args s none idx s = cl.slots[j.toNatClampNeg]? := by
  simp [Term.eval, ht, hu, hj, hat]
theorem own_cache0 {s : State} {args : Array Value} (hfit : Fit s) (hini : (Cond.initialized "java/lang/Integer$IntegerCache").before args s = true)
    (h0 : (Cond.laysStatic "java/lang/Integer$IntegerCache" "high" "I").before args s = true) (h2 : (Cond.laysStatic "java/lang/Integer$IntegerCache" "cache" "[Ljava/lang/Integer;").before args s = true)
    (h3 : (Cond.eq (Term.static "java/lang/Integer$IntegerCache" "high" "I") (Term.int (127 : Int32))).before args s = true)
    (h4 : (Cond.arrayOf (Term.static "java/lang/Integer$IntegerCache" "cache" "[Ljava/lang/Integer;") (.object "java/lang/Integer")).before args s = true)
    (h6 : (Cond.eq (Term.length (Term.static "java/lang/Integer$IntegerCache" "cache" "[Ljava/lang/Integer;")) (Term.int (256 : Int32))).before args s = true)
    (h7 : (Cond.all (Term.static "java/lang/Integer$IntegerCache" "cache" "[Ljava/lang/Integer;") (Cond.and (Cond.exactly (Term.elem (Term.static "java/lang/Integer$IntegerCache" "cache" "[Ljava/lang/Integer;") (Term.index (0 : Nat))) "java/lang/Integer") (Cond.eq (Term.field (Term.elem (Term.static "java/lang/Integer$IntegerCache" "cache" "[Ljava/lang/Integer;") (Term.index (0 : Nat))) "java/lang/Integer" "value" "I") (Term.sub (Term.index (0 : Nat)) (Term.int (128 : Int32)))))).before args s = true) : own_Cache s s.heap := by
  obtain ⟨v, ev, -⟩ := static_fit hfit h0 (ty := .int) (by decide)
  have e3 := Cond.eq_int (show (Cond.eq (Term.static "java/lang/Integer$IntegerCache" "high" "I") (.int 127)).holds args s none s [] = true from h3) (rfl : (Term.int 127).eval args s none [] s = some (.int 127))
  obtain ⟨w, ew, -⟩ := static_fit hfit h2 (ty := .array (.object "java/lang/Integer")) (by decide)
  obtain ⟨cA, cl, rfl, hc, harr, hvm⟩ := Jvm.Free.IntBox.arrayOf_fwd h4 ew
  obtain ⟨q1, q2⟩ := Jvm.Free.IntBox.length_fwd h6 ew hc harr hvm
  have hat := Jvm.Free.IntBox.arrayAt_of hc harr hvm
  have hsz : cl.slots.size = 256 := by
    have := congrArg Int32.toNatClampNeg q2
    have e1 : (256 : Int32).toNatClampNeg = 256 := rfl
    rw [e1] at this
    rw [← this]
    simp only [Int32.toNatClampNeg, Nat.toInt32, Int32.size]
    simp [Int.bmod]
    omega
  refine ⟨cA, cl, Sta.start e3 (Or.inr ⟨hini, h0⟩), Sta.start ew (Or.inr ⟨hini, h2⟩), ⟨hc, harr, hvm⟩, hsz, fun i hi => ?_⟩
  have ha := Cond.all_elim (idx := []) ew hat (Cond.before_iff.mp h7) i (by rw [hsz]; exact hi)
  obtain ⟨a1, -⟩ := and_e ha
  obtain ⟨b, cc, cell, k, t1, t2, t3, t4, t5, t6, t7⟩ := Cond.exactly_spec (show (Cond.exactly (Term.elem (Term.static "java/lang/Integer$IntegerCache" "cache" "[Ljava/lang/Integer;") (Term.index (0 : Nat))) "java/lang/Integer").holds args s none s [i] = true by unfold Cond.holds; rw [a1]; rfl)
  have ew' : (Term.static "java/lang/Integer$IntegerCache" "cache" "[Ljava/lang/Integer;").eval args s none [i] s = some (.ref cA) := ew
  obtain ⟨p1, p2⟩ := Jvm.Free.IntBox.place_nonneg i hi
  refine ⟨b, ?_, cell, k, t3, by rw [t6]; exact t2, by rw [t6]; exact t4, t5, t7⟩
  rw [own_elem ew' (rfl : (Term.index 0).eval args s none [i] s = some (.int i.toInt32)) p1 hat, p2] at t1
  exact t1
/-- an Integer is no K: by the words of the sheet -/
theorem own_notInt {Z : State} {a0 : Array Value} {K : String} {n : Nat} (w1 : (Cond.superclass "java/lang/Integer" "java/lang/Number").before a0 Z = true) (w2 : (Cond.superclass "java/lang/Number" "java/lang/Object").before a0 Z = true) (w3 : (Cond.noSuperclass "java/lang/Object").before a0 Z = true) (wk : (Cond.instantiable K n).before a0 Z = true)
    (h1 : "java/lang/Integer" ≠ K) (h2 : "java/lang/Number" ≠ K) (h3 : "java/lang/Object" ≠ K) : ∃ c t, Z.vm.findClass "java/lang/Integer" = some c ∧ Z.vm.findClass K = some t ∧ Z.vm.assignable c t = false := by
  obtain ⟨t, kt, g1, g2, g3, g4, -⟩ := Cond.instantiable_spec wk
  have root : NS Z "java/lang/Object" K := by
    obtain ⟨c, k, a1, a2, a3, -, -⟩ := Cond.noSuperclass_spec w3
    refine ⟨c, t, a1, g1, fun fuel => ?_⟩
    have ne := ids_ne a1 g1 h3
    match fuel with
    | 0 => rfl
    | f + 1 => simp [Vm.isSubclassAux, ne, a2, a3]
  obtain ⟨c, t', f1, f2, f3⟩ := NS.step w1 (NS.step w2 root h2) h1
  cases g1.symm.trans f2
  obtain ⟨p, k, kp, -, b2, -, -, b5, -, -⟩ := Cond.superclass_spec f1 w1
  have gi : kt.isInterface = false := by simp only [Bool.or_eq_false_iff] at g4; exact g4.1
  refine ⟨c, t, f1, g1, ?_⟩
  have ne := ids_ne f1 g1 h1
  unfold Vm.assignable
  simp [Vm.assignableAux, ne, b2, g2, b5, g3, gi, Vm.isSubclass, f3]
def own_f1 (p0 : Int32) (p1 : Int32) : Int32 := (if p1 < p0 then p1 else p0)
theorem d1_0 : decode jdk_29_method_69_code 0 = .ok (.iload_n 0, 1) := by decide +kernel
theorem d1_1 : decode jdk_29_method_69_code 1 = .ok (.iload_n 1, 1) := by decide +kernel
theorem d1_2 : decode jdk_29_method_69_code 2 = .ok (.if_icmp .gt 7, 3) := by decide +kernel
theorem d1_5 : decode jdk_29_method_69_code 5 = .ok (.iload_n 0, 1) := by decide +kernel
theorem d1_6 : decode jdk_29_method_69_code 6 = .ok (.goto 4, 3) := by decide +kernel
theorem d1_9 : decode jdk_29_method_69_code 9 = .ok (.iload_n 1, 1) := by decide +kernel
theorem d1_10 : decode jdk_29_method_69_code 10 = .ok (.ireturn, 1) := by decide +kernel
theorem ef_1 (m : MethodId) (p0 : Int32) (p1 : Int32) : entryFrame m #[(.int p0), (.int p1)] 2 = mkF m 0 #[.val (.int p0), .val (.int p1)] [] := by first | (simp [entryFrame, mkF, argsToLocals, Value.category]; done) | rfl
set_option maxRecDepth 65536 in
set_option maxHeartbeats 40000000 in
theorem rm1 (l : Launch) (Z : State) (a0 : Array Value) (hw : ∀ d ∈ tables_1, d.before a0 Z = true) (ws : List Jvm.Cond) (p0 : Int32) (p1 : Int32) (h0 : Heap) (n0 : Nat) (Z0 : n0 ≤ h0.size)  :
    MetFree l (⟨"java/lang/Math", "min", "(II)I"⟩ : MethodName) (head1 (Jvm.Cond.code (⟨"java/lang/Math", "min", "(II)I"⟩ : MethodName) jdk_29_method_69_code 2 (some .int) :: ws) ({ frames := 0, cells := 0, slots := 0, locals := 0 } : Room)) (fun a U => a = #[(.int p0), (.int p1)] ∧ Z.Warmed39 U.vm ∧ U.heap = h0) (fun _ _ _ _ _ => True) (fun _ U o U' => ∃ v L, o = .returned v ∧ (own_Q (some (.int (own_f1 p0 p1))) h0 n0) v U'.heap L ∧ FrameEnd U o U' L ({ frames := 0, cells := 0, slots := 0, locals := 0 } : Room).cells ({ frames := 0, cells := 0, slots := 0, locals := 0 } : Room).slots) := by
  refine MetFree.of_bodySF (Jvm.Free.JP.mathPlain rfl (by decide +kernel)) hisR ?_
  intro p e s m args below meth c s₁ Bd hml0 hP hK
  obtain ⟨rfl, hZ, hh⟩ := hP
  have hx := Bd.exec
  have hby := Bd.bytes
  have hml : c.maxLocals = 2 := hml0
  have hown : s.vm.findClass "java/lang/Math" = some m.cls := findClass_of_methodNamed Bd.named
  have hnm := (name_of_methodNamed Bd.named Bd.method).1
  have X0 : Stand p l e ({ frames := 0, cells := 0, slots := 0, locals := 0 } : Room) s m #[(.int p0), (.int p1)] below meth c s₁ [] 0 0 := Stand.of_body Bd
  have e0 : s₁.heap = h0 := by rw [← hh, Bd.state]; rfl
  have N0 := Fr.nil n0
  refine own_body (QQ := (own_Q (some (.int (own_f1 p0 p1))) h0 n0)) (ef_1 m p0 p1) ?_
  refine own_via (s₁.setTop (mkF m 1 #[.val (.int p0), .val (.int p1)] [(.int p0)])) (fun t k => XS.iloadN X0.here hx rfl (hb hby d1_0) rfl  k) ?_
  refine own_via (s₁.setTop (mkF m 2 #[.val (.int p0), .val (.int p1)] [(.int p1), (.int p0)])) (fun t k => XS.iloadN X0.here hx rfl (hb hby d1_1) rfl  k) ?_
  by_cases hc2_2 : p1 < p0
  · refine own_via (s₁.setTop (mkF m 9 #[.val (.int p0), .val (.int p1)] [])) (fun t k => XS.icmpYes X0.here hx rfl (pc0 := 2) (pc' := 9) rfl (hb hby d1_2) rfl (tlt hc2_2).2.2.1 (by decide) (by decide) k) ?_
    refine own_via (s₁.setTop (mkF m 10 #[.val (.int p0), .val (.int p1)] [(.int p1)])) (fun t k => XS.iloadN X0.here hx rfl (hb hby d1_9) rfl  k) ?_
    refine own_leave X0 Bd.notSynchronized (v := some (.int p1)) (fun h => by rw [Bd.returns] at h; cases h) (fun fs hr => retI X0 hx Bd.returns (hb hby d1_10) hr) ?_ (by decide) (by decide)
    refine ⟨?_, N0, e0⟩
    show some (Value.int _) = some (Value.int _); unfold own_f1; rw [if_pos hc2_2]
  · refine own_via (s₁.setTop (mkF m 5 #[.val (.int p0), .val (.int p1)] [])) (fun t k => XS.icmpNo X0.here hx rfl (hb hby d1_2) rfl (flt hc2_2).2.2.1 k) ?_
    refine own_via (s₁.setTop (mkF m 6 #[.val (.int p0), .val (.int p1)] [(.int p0)])) (fun t k => XS.iloadN X0.here hx rfl (hb hby d1_5) rfl  k) ?_
    refine own_via (s₁.setTop (mkF m 10 #[.val (.int p0), .val (.int p1)] [(.int p0)])) (fun t k => XS.goto X0.here hx rfl (pc0 := 6) (pc' := 10) rfl (hb hby d1_6) (by decide) (by decide) k) ?_
    refine own_leave X0 Bd.notSynchronized (v := some (.int p0)) (fun h => by rw [Bd.returns] at h; cases h) (fun fs hr => retI X0 hx Bd.returns (hb hby d1_10) hr) ?_ (by decide) (by decide)
    refine ⟨?_, N0, e0⟩
    show some (Value.int _) = some (Value.int _); unfold own_f1; rw [if_neg hc2_2]
def own_f2 (p0 : Int32) (p1 : Int32) : Int32 := (if p0 < p1 then p1 else p0)
theorem d2_0 : decode jdk_29_method_65_code 0 = .ok (.iload_n 0, 1) := by decide +kernel
theorem d2_1 : decode jdk_29_method_65_code 1 = .ok (.iload_n 1, 1) := by decide +kernel
theorem d2_2 : decode jdk_29_method_65_code 2 = .ok (.if_icmp .lt 7, 3) := by decide +kernel
theorem d2_5 : decode jdk_29_method_65_code 5 = .ok (.iload_n 0, 1) := by decide +kernel
theorem d2_6 : decode jdk_29_method_65_code 6 = .ok (.goto 4, 3) := by decide +kernel
theorem d2_9 : decode jdk_29_method_65_code 9 = .ok (.iload_n 1, 1) := by decide +kernel
theorem d2_10 : decode jdk_29_method_65_code 10 = .ok (.ireturn, 1) := by decide +kernel
theorem ef_2 (m : MethodId) (p0 : Int32) (p1 : Int32) : entryFrame m #[(.int p0), (.int p1)] 2 = mkF m 0 #[.val (.int p0), .val (.int p1)] [] := by first | (simp [entryFrame, mkF, argsToLocals, Value.category]; done) | rfl
set_option maxRecDepth 65536 in
set_option maxHeartbeats 40000000 in
theorem rm2 (l : Launch) (Z : State) (a0 : Array Value) (hw : ∀ d ∈ tables_1, d.before a0 Z = true) (ws : List Jvm.Cond) (p0 : Int32) (p1 : Int32) (h0 : Heap) (n0 : Nat) (Z0 : n0 ≤ h0.size)  :
    MetFree l (⟨"java/lang/Math", "max", "(II)I"⟩ : MethodName) (head1 (Jvm.Cond.code (⟨"java/lang/Math", "max", "(II)I"⟩ : MethodName) jdk_29_method_65_code 2 (some .int) :: ws) ({ frames := 0, cells := 0, slots := 0, locals := 0 } : Room)) (fun a U => a = #[(.int p0), (.int p1)] ∧ Z.Warmed39 U.vm ∧ U.heap = h0) (fun _ _ _ _ _ => True) (fun _ U o U' => ∃ v L, o = .returned v ∧ (own_Q (some (.int (own_f2 p0 p1))) h0 n0) v U'.heap L ∧ FrameEnd U o U' L ({ frames := 0, cells := 0, slots := 0, locals := 0 } : Room).cells ({ frames := 0, cells := 0, slots := 0, locals := 0 } : Room).slots) := by
  refine MetFree.of_bodySF (Jvm.Free.JP.mathPlain rfl (by decide +kernel)) hisR ?_
  intro p e s m args below meth c s₁ Bd hml0 hP hK
  obtain ⟨rfl, hZ, hh⟩ := hP
  have hx := Bd.exec
  have hby := Bd.bytes
  have hml : c.maxLocals = 2 := hml0
  have hown : s.vm.findClass "java/lang/Math" = some m.cls := findClass_of_methodNamed Bd.named
  have hnm := (name_of_methodNamed Bd.named Bd.method).1
  have X0 : Stand p l e ({ frames := 0, cells := 0, slots := 0, locals := 0 } : Room) s m #[(.int p0), (.int p1)] below meth c s₁ [] 0 0 := Stand.of_body Bd
  have e0 : s₁.heap = h0 := by rw [← hh, Bd.state]; rfl
  have N0 := Fr.nil n0
  refine own_body (QQ := (own_Q (some (.int (own_f2 p0 p1))) h0 n0)) (ef_2 m p0 p1) ?_
  refine own_via (s₁.setTop (mkF m 1 #[.val (.int p0), .val (.int p1)] [(.int p0)])) (fun t k => XS.iloadN X0.here hx rfl (hb hby d2_0) rfl  k) ?_
  refine own_via (s₁.setTop (mkF m 2 #[.val (.int p0), .val (.int p1)] [(.int p1), (.int p0)])) (fun t k => XS.iloadN X0.here hx rfl (hb hby d2_1) rfl  k) ?_
  by_cases hc2_4 : p0 < p1
  · refine own_via (s₁.setTop (mkF m 9 #[.val (.int p0), .val (.int p1)] [])) (fun t k => XS.icmpYes X0.here hx rfl (pc0 := 2) (pc' := 9) rfl (hb hby d2_2) rfl (tlt hc2_4).1 (by decide) (by decide) k) ?_
    refine own_via (s₁.setTop (mkF m 10 #[.val (.int p0), .val (.int p1)] [(.int p1)])) (fun t k => XS.iloadN X0.here hx rfl (hb hby d2_9) rfl  k) ?_
    refine own_leave X0 Bd.notSynchronized (v := some (.int p1)) (fun h => by rw [Bd.returns] at h; cases h) (fun fs hr => retI X0 hx Bd.returns (hb hby d2_10) hr) ?_ (by decide) (by decide)
    refine ⟨?_, N0, e0⟩
    show some (Value.int _) = some (Value.int _); unfold own_f2; rw [if_pos hc2_4]
  · refine own_via (s₁.setTop (mkF m 5 #[.val (.int p0), .val (.int p1)] [])) (fun t k => XS.icmpNo X0.here hx rfl (hb hby d2_2) rfl (flt hc2_4).1 k) ?_
    refine own_via (s₁.setTop (mkF m 6 #[.val (.int p0), .val (.int p1)] [(.int p0)])) (fun t k => XS.iloadN X0.here hx rfl (hb hby d2_5) rfl  k) ?_
    refine own_via (s₁.setTop (mkF m 10 #[.val (.int p0), .val (.int p1)] [(.int p0)])) (fun t k => XS.goto X0.here hx rfl (pc0 := 6) (pc' := 10) rfl (hb hby d2_6) (by decide) (by decide) k) ?_
    refine own_leave X0 Bd.notSynchronized (v := some (.int p0)) (fun h => by rw [Bd.returns] at h; cases h) (fun fs hr => retI X0 hx Bd.returns (hb hby d2_10) hr) ?_ (by decide) (by decide)
    refine ⟨?_, N0, e0⟩
    show some (Value.int _) = some (Value.int _); unfold own_f2; rw [if_neg hc2_4]
def own_Q3 (Z : State) (p0 : Addr) (p1 : Int32) (p2 : Int32) (p3 : Int32) (p4 : Int32)  (h0 : Heap) (n0 : Nat) (v : Option Value) (h : Heap) (L : List Loc) : Prop := v = none ∧ Fr n0 L ∧ Keep h0 h [p0] ∧ Exa Z h p0 "com/example/rondo/rondo/Rect" ∧ Fld Z h p0 "com/example/rondo/rondo/Rect" "left" "I" (.int p1) ∧ Fld Z h p0 "com/example/rondo/rondo/Rect" "top" "I" (.int p2) ∧ Fld Z h p0 "com/example/rondo/rondo/Rect" "right" "I" (.int p3) ∧ Fld Z h p0 "com/example/rondo/rondo/Rect" "bottom" "I" (.int p4)
theorem d3_0 : decode prog_40_method_1_code 0 = .ok (.aload_n 0, 1) := by decide +kernel
theorem d3_1 : decode prog_40_method_1_code 1 = .ok (.invokespecial 1, 3) := by decide +kernel
theorem d3_4 : decode prog_40_method_1_code 4 = .ok (.iload_n 3, 1) := by decide +kernel
theorem d3_5 : decode prog_40_method_1_code 5 = .ok (.iload_n 1, 1) := by decide +kernel
theorem d3_6 : decode prog_40_method_1_code 6 = .ok (.if_icmp .ge 24, 3) := by decide +kernel
theorem d3_30 : decode prog_40_method_1_code 30 = .ok (.iload 4, 2) := by decide +kernel
theorem d3_32 : decode prog_40_method_1_code 32 = .ok (.iload_n 2, 1) := by decide +kernel
theorem d3_33 : decode prog_40_method_1_code 33 = .ok (.if_icmp .ge 24, 3) := by decide +kernel
theorem d3_57 : decode prog_40_method_1_code 57 = .ok (.aload_n 0, 1) := by decide +kernel
theorem d3_58 : decode prog_40_method_1_code 58 = .ok (.iload_n 1, 1) := by decide +kernel
theorem d3_59 : decode prog_40_method_1_code 59 = .ok (.putfield 23, 3) := by decide +kernel
theorem d3_62 : decode prog_40_method_1_code 62 = .ok (.aload_n 0, 1) := by decide +kernel
theorem d3_63 : decode prog_40_method_1_code 63 = .ok (.iload_n 2, 1) := by decide +kernel
theorem d3_64 : decode prog_40_method_1_code 64 = .ok (.putfield 27, 3) := by decide +kernel
theorem d3_67 : decode prog_40_method_1_code 67 = .ok (.aload_n 0, 1) := by decide +kernel
theorem d3_68 : decode prog_40_method_1_code 68 = .ok (.iload_n 3, 1) := by decide +kernel
theorem d3_69 : decode prog_40_method_1_code 69 = .ok (.putfield 30, 3) := by decide +kernel
theorem d3_72 : decode prog_40_method_1_code 72 = .ok (.aload_n 0, 1) := by decide +kernel
theorem d3_73 : decode prog_40_method_1_code 73 = .ok (.iload 4, 2) := by decide +kernel
theorem d3_75 : decode prog_40_method_1_code 75 = .ok (.putfield 33, 3) := by decide +kernel
theorem d3_78 : decode prog_40_method_1_code 78 = .ok (.return_, 1) := by decide +kernel
theorem pn_com_example_rondo_rondo_Rect : plainName "com/example/rondo/rondo/Rect" = true := by first | (simp [plainName, overriddenIn]; done) | decide +kernel
theorem ef_3 (m : MethodId) (p0 : Addr) (p1 : Int32) (p2 : Int32) (p3 : Int32) (p4 : Int32) : entryFrame m #[(.ref p0), (.int p1), (.int p2), (.int p3), (.int p4)] 5 = mkF m 0 #[.val (.ref p0), .val (.int p1), .val (.int p2), .val (.int p3), .val (.int p4)] [] := by first | (simp [entryFrame, mkF, argsToLocals, Value.category]; done) | rfl
set_option maxRecDepth 65536 in
set_option maxHeartbeats 40000000 in
theorem rm3 (l : Launch) (Z : State) (a0 : Array Value) (hw : ∀ d ∈ tables_1, d.before a0 Z = true) (ws : List Jvm.Cond) (p0 : Addr) (p1 : Int32) (p2 : Int32) (p3 : Int32) (p4 : Int32) (h0 : Heap) (n0 : Nat) (Z0 : n0 ≤ h0.size) (P0 : Fld Z h0 p0 "com/example/rondo/rondo/Rect" "left" "I" (.int (0 : Int32))) (P1 : Fld Z h0 p0 "com/example/rondo/rondo/Rect" "top" "I" (.int (0 : Int32))) (P2 : Fld Z h0 p0 "com/example/rondo/rondo/Rect" "right" "I" (.int (0 : Int32))) (P3 : Fld Z h0 p0 "com/example/rondo/rondo/Rect" "bottom" "I" (.int (0 : Int32))) (P4 : Exa Z h0 p0 "com/example/rondo/rondo/Rect") (gg_p0 : n0 ≤ p0) (hx1 : ¬ p3 < p1) (hx2 : ¬ p4 < p2) :
    MetFree l (⟨"com/example/rondo/rondo/Rect", "<init>", "(IIII)V"⟩ : MethodName) (head1 (Jvm.Cond.code (⟨"com/example/rondo/rondo/Rect", "<init>", "(IIII)V"⟩ : MethodName) prog_40_method_1_code 5 none :: ws) ({ frames := 1, cells := 0, slots := 0, locals := 12 } : Room)) (fun a U => a = #[(.ref p0), (.int p1), (.int p2), (.int p3), (.int p4)] ∧ Z.Warmed39 U.vm ∧ U.heap = h0) (fun _ _ _ _ _ => True) (fun _ U o U' => ∃ v L, o = .returned v ∧ (own_Q3 Z p0 p1 p2 p3 p4  h0 n0) v U'.heap L ∧ FrameEnd U o U' L ({ frames := 1, cells := 0, slots := 0, locals := 12 } : Room).cells ({ frames := 1, cells := 0, slots := 0, locals := 12 } : Room).slots) := by
  refine MetFree.of_bodySF (plainFor_of_name pn_com_example_rondo_rondo_Rect) hisR ?_
  intro p e s m args below meth c s₁ Bd hml0 hP hK
  obtain ⟨rfl, hZ, hh⟩ := hP
  have hx := Bd.exec
  have hby := Bd.bytes
  have hml : c.maxLocals = 5 := hml0
  have hown : s.vm.findClass "com/example/rondo/rondo/Rect" = some m.cls := findClass_of_methodNamed Bd.named
  have hnm := (name_of_methodNamed Bd.named Bd.method).1
  have X0 : Stand p l e ({ frames := 1, cells := 0, slots := 0, locals := 12 } : Room) s m #[(.ref p0), (.int p1), (.int p2), (.int p3), (.int p4)] below meth c s₁ [] 0 0 := Stand.of_body Bd
  have e0 : s₁.heap = h0 := by rw [← hh, Bd.state]; rfl
  have N0 := Fr.nil n0
  refine own_body (QQ := (own_Q3 Z p0 p1 p2 p3 p4  h0 n0)) (ef_3 m p0 p1 p2 p3 p4) ?_
  refine own_via (s₁.setTop (mkF m 1 #[.val (.ref p0), .val (.int p1), .val (.int p2), .val (.int p3), .val (.int p4)] [(.ref p0)])) (fun t k => XS.aloadN X0.here hx rfl (hb hby d3_0) rfl rfl k) ?_
  obtain ⟨T5, X5, e5, st5⟩ := initO X0 hx hZ hown (hw _ (List.mem_of_getElem? (i := 13) rfl)) (hw _ (List.mem_of_getElem? (i := 14) rfl)) (hw _ (List.mem_of_getElem? (i := 15) rfl)) e0 (g := (mkF m 1 #[.val (.ref p0), .val (.int p1), .val (.int p2), .val (.int p3), .val (.int p4)] [(.ref p0)])) rfl (by rw [hml]; rfl) rfl (hb hby d3_1) (by decide) (W := 0) (by show 2 * 0 + _ ≤ _; exact Nat.le_of_eq rfl) (by decide)
  refine own_via (T5.setTop (mkF m 4 #[.val (.ref p0), .val (.int p1), .val (.int p2), .val (.int p3), .val (.int p4)] [])) (fun t k => st5 t k) ?_
  refine own_via (T5.setTop (mkF m 5 #[.val (.ref p0), .val (.int p1), .val (.int p2), .val (.int p3), .val (.int p4)] [(.int p3)])) (fun t k => XS.iloadN X5.here hx rfl (hb hby d3_4) rfl  k) ?_
  refine own_via (T5.setTop (mkF m 6 #[.val (.ref p0), .val (.int p1), .val (.int p2), .val (.int p3), .val (.int p4)] [(.int p1), (.int p3)])) (fun t k => XS.iloadN X5.here hx rfl (hb hby d3_5) rfl  k) ?_
  refine own_via (T5.setTop (mkF m 30 #[.val (.ref p0), .val (.int p1), .val (.int p2), .val (.int p3), .val (.int p4)] [])) (fun t k => XS.icmpYes X5.here hx rfl (pc0 := 6) (pc' := 30) rfl (hb hby d3_6) rfl (flt hx1).2.1 (by decide) (by decide) k) ?_
  refine own_via (T5.setTop (mkF m 32 #[.val (.ref p0), .val (.int p1), .val (.int p2), .val (.int p3), .val (.int p4)] [(.int p4)])) (fun t k => XS.iload X5.here hx rfl (hb hby d3_30) rfl  k) ?_
  refine own_via (T5.setTop (mkF m 33 #[.val (.ref p0), .val (.int p1), .val (.int p2), .val (.int p3), .val (.int p4)] [(.int p2), (.int p4)])) (fun t k => XS.iloadN X5.here hx rfl (hb hby d3_32) rfl  k) ?_
  refine own_via (T5.setTop (mkF m 57 #[.val (.ref p0), .val (.int p1), .val (.int p2), .val (.int p3), .val (.int p4)] [])) (fun t k => XS.icmpYes X5.here hx rfl (pc0 := 33) (pc' := 57) rfl (hb hby d3_33) rfl (flt hx2).2.1 (by decide) (by decide) k) ?_
  refine own_via (T5.setTop (mkF m 58 #[.val (.ref p0), .val (.int p1), .val (.int p2), .val (.int p3), .val (.int p4)] [(.ref p0)])) (fun t k => XS.aloadN X5.here hx rfl (hb hby d3_57) rfl rfl k) ?_
  refine own_via (T5.setTop (mkF m 59 #[.val (.ref p0), .val (.int p1), .val (.int p2), .val (.int p3), .val (.int p4)] [(.int p1), (.ref p0)])) (fun t k => XS.iloadN X5.here hx rfl (hb hby d3_58) rfl  k) ?_
  obtain ⟨T6, h6, X6, e6, W6, st6⟩ := putF X5 hx hZ hown (host := "") (Or.inl (hw _ (List.mem_of_getElem? (i := 16) rfl))) Via.refl e5 P0 P4 (Or.inr ⟨(hw _ (List.mem_of_getElem? (i := 17) rfl)), rfl, hnm⟩) (hw _ (List.mem_of_getElem? (i := 1) rfl)) (ty := .int) (by decide) rfl rfl (g := (mkF m 59 #[.val (.ref p0), .val (.int p1), .val (.int p2), .val (.int p3), .val (.int p4)] [(.int p1), (.ref p0)])) rfl rfl (hb hby d3_59)
  have Fw6 := P0.same W6
  have N6 := Fr.snoc X6 N0 gg_p0
  have K7 : Keep h0 h6 [p0] := (Keep.refl h0 [p0]).wr W6 (Or.inl (List.mem_of_getElem? (i := 0) rfl))
  refine own_via (T6.setTop (mkF m 62 #[.val (.ref p0), .val (.int p1), .val (.int p2), .val (.int p3), .val (.int p4)] [])) (fun t k => st6 t k) ?_
  refine own_via (T6.setTop (mkF m 63 #[.val (.ref p0), .val (.int p1), .val (.int p2), .val (.int p3), .val (.int p4)] [(.ref p0)])) (fun t k => XS.aloadN X6.here hx rfl (hb hby d3_62) rfl rfl k) ?_
  refine own_via (T6.setTop (mkF m 64 #[.val (.ref p0), .val (.int p1), .val (.int p2), .val (.int p3), .val (.int p4)] [(.int p2), (.ref p0)])) (fun t k => XS.iloadN X6.here hx rfl (hb hby d3_63) rfl  k) ?_
  have F9 := (P1.other W6 (Or.inr (slot_ne (Or.inr (hw _ (List.mem_of_getElem? (i := 19) rfl))) (Or.inr (hw _ (List.mem_of_getElem? (i := 17) rfl))) (by decide) (t := .int) (t' := .int) (by decide) (by decide))))
  have F10 := (P4.wr W6)
  obtain ⟨T8, h8, X8, e8, W8, st8⟩ := putF X6 hx hZ hown (host := "") (Or.inl (hw _ (List.mem_of_getElem? (i := 18) rfl))) Via.refl e6 F9 F10 (Or.inr ⟨(hw _ (List.mem_of_getElem? (i := 19) rfl)), rfl, hnm⟩) (hw _ (List.mem_of_getElem? (i := 1) rfl)) (ty := .int) (by decide) rfl rfl (g := (mkF m 64 #[.val (.ref p0), .val (.int p1), .val (.int p2), .val (.int p3), .val (.int p4)] [(.int p2), (.ref p0)])) rfl rfl (hb hby d3_64)
  have Fw8 := F9.same W8
  have N8 := Fr.snoc X8 N6 gg_p0
  have K11 : Keep h0 h8 [p0] := K7.wr W8 (Or.inl (List.mem_of_getElem? (i := 0) rfl))
  refine own_via (T8.setTop (mkF m 67 #[.val (.ref p0), .val (.int p1), .val (.int p2), .val (.int p3), .val (.int p4)] [])) (fun t k => st8 t k) ?_
  refine own_via (T8.setTop (mkF m 68 #[.val (.ref p0), .val (.int p1), .val (.int p2), .val (.int p3), .val (.int p4)] [(.ref p0)])) (fun t k => XS.aloadN X8.here hx rfl (hb hby d3_67) rfl rfl k) ?_
  refine own_via (T8.setTop (mkF m 69 #[.val (.ref p0), .val (.int p1), .val (.int p2), .val (.int p3), .val (.int p4)] [(.int p3), (.ref p0)])) (fun t k => XS.iloadN X8.here hx rfl (hb hby d3_68) rfl  k) ?_
  have F13 := ((P2.other W6 (Or.inr (slot_ne (Or.inr (hw _ (List.mem_of_getElem? (i := 21) rfl))) (Or.inr (hw _ (List.mem_of_getElem? (i := 17) rfl))) (by decide) (t := .int) (t' := .int) (by decide) (by decide)))).other W8 (Or.inr (slot_ne (Or.inr (hw _ (List.mem_of_getElem? (i := 21) rfl))) (Or.inr (hw _ (List.mem_of_getElem? (i := 19) rfl))) (by decide) (t := .int) (t' := .int) (by decide) (by decide))))
  have F14 := (F10.wr W8)
  obtain ⟨T12, h12, X12, e12, W12, st12⟩ := putF X8 hx hZ hown (host := "") (Or.inl (hw _ (List.mem_of_getElem? (i := 20) rfl))) Via.refl e8 F13 F14 (Or.inr ⟨(hw _ (List.mem_of_getElem? (i := 21) rfl)), rfl, hnm⟩) (hw _ (List.mem_of_getElem? (i := 1) rfl)) (ty := .int) (by decide) rfl rfl (g := (mkF m 69 #[.val (.ref p0), .val (.int p1), .val (.int p2), .val (.int p3), .val (.int p4)] [(.int p3), (.ref p0)])) rfl rfl (hb hby d3_69)
  have Fw12 := F13.same W12
  have N12 := Fr.snoc X12 N8 gg_p0
  have K15 : Keep h0 h12 [p0] := K11.wr W12 (Or.inl (List.mem_of_getElem? (i := 0) rfl))
  refine own_via (T12.setTop (mkF m 72 #[.val (.ref p0), .val (.int p1), .val (.int p2), .val (.int p3), .val (.int p4)] [])) (fun t k => st12 t k) ?_
  refine own_via (T12.setTop (mkF m 73 #[.val (.ref p0), .val (.int p1), .val (.int p2), .val (.int p3), .val (.int p4)] [(.ref p0)])) (fun t k => XS.aloadN X12.here hx rfl (hb hby d3_72) rfl rfl k) ?_
  refine own_via (T12.setTop (mkF m 75 #[.val (.ref p0), .val (.int p1), .val (.int p2), .val (.int p3), .val (.int p4)] [(.int p4), (.ref p0)])) (fun t k => XS.iload X12.here hx rfl (hb hby d3_73) rfl  k) ?_
  have F17 := (((P3.other W6 (Or.inr (slot_ne (Or.inr (hw _ (List.mem_of_getElem? (i := 23) rfl))) (Or.inr (hw _ (List.mem_of_getElem? (i := 17) rfl))) (by decide) (t := .int) (t' := .int) (by decide) (by decide)))).other W8 (Or.inr (slot_ne (Or.inr (hw _ (List.mem_of_getElem? (i := 23) rfl))) (Or.inr (hw _ (List.mem_of_getElem? (i := 19) rfl))) (by decide) (t := .int) (t' := .int) (by decide) (by decide)))).other W12 (Or.inr (slot_ne (Or.inr (hw _ (List.mem_of_getElem? (i := 23) rfl))) (Or.inr (hw _ (List.mem_of_getElem? (i := 21) rfl))) (by decide) (t := .int) (t' := .int) (by decide) (by decide))))
  have F18 := (F14.wr W12)
  obtain ⟨T16, h16, X16, e16, W16, st16⟩ := putF X12 hx hZ hown (host := "") (Or.inl (hw _ (List.mem_of_getElem? (i := 22) rfl))) Via.refl e12 F17 F18 (Or.inr ⟨(hw _ (List.mem_of_getElem? (i := 23) rfl)), rfl, hnm⟩) (hw _ (List.mem_of_getElem? (i := 1) rfl)) (ty := .int) (by decide) rfl rfl (g := (mkF m 75 #[.val (.ref p0), .val (.int p1), .val (.int p2), .val (.int p3), .val (.int p4)] [(.int p4), (.ref p0)])) rfl rfl (hb hby d3_75)
  have Fw16 := F17.same W16
  have N16 := Fr.snoc X16 N12 gg_p0
  have K19 : Keep h0 h16 [p0] := K15.wr W16 (Or.inl (List.mem_of_getElem? (i := 0) rfl))
  refine own_via (T16.setTop (mkF m 78 #[.val (.ref p0), .val (.int p1), .val (.int p2), .val (.int p3), .val (.int p4)] [])) (fun t k => st16 t k) ?_
  refine own_leave X16 Bd.notSynchronized (v := none) (fun _ => rfl) (fun fs hr => X16.returnOut hx Bd.returns (hb hby d3_78) hr) ?_ (by decide) (by decide)
  have F20 := (F18.wr W16)
  have F21 := (((Fw6.other W8 (Or.inr (slot_ne (Or.inr (hw _ (List.mem_of_getElem? (i := 17) rfl))) (Or.inr (hw _ (List.mem_of_getElem? (i := 19) rfl))) (by decide) (t := .int) (t' := .int) (by decide) (by decide)))).other W12 (Or.inr (slot_ne (Or.inr (hw _ (List.mem_of_getElem? (i := 17) rfl))) (Or.inr (hw _ (List.mem_of_getElem? (i := 21) rfl))) (by decide) (t := .int) (t' := .int) (by decide) (by decide)))).other W16 (Or.inr (slot_ne (Or.inr (hw _ (List.mem_of_getElem? (i := 17) rfl))) (Or.inr (hw _ (List.mem_of_getElem? (i := 23) rfl))) (by decide) (t := .int) (t' := .int) (by decide) (by decide))))
  have F22 := ((Fw8.other W12 (Or.inr (slot_ne (Or.inr (hw _ (List.mem_of_getElem? (i := 19) rfl))) (Or.inr (hw _ (List.mem_of_getElem? (i := 21) rfl))) (by decide) (t := .int) (t' := .int) (by decide) (by decide)))).other W16 (Or.inr (slot_ne (Or.inr (hw _ (List.mem_of_getElem? (i := 19) rfl))) (Or.inr (hw _ (List.mem_of_getElem? (i := 23) rfl))) (by decide) (t := .int) (t' := .int) (by decide) (by decide))))
  have F23 := (Fw12.other W16 (Or.inr (slot_ne (Or.inr (hw _ (List.mem_of_getElem? (i := 21) rfl))) (Or.inr (hw _ (List.mem_of_getElem? (i := 23) rfl))) (by decide) (t := .int) (t' := .int) (by decide) (by decide))))
  show (own_Q3 Z p0 p1 p2 p3 p4  h0 n0) _ T16.heap _
  rw [e16]
  exact ⟨rfl, N16, K19, F20, F21, F22, F23, Fw16⟩
theorem d10_0 : decode jdk_18_method_1_code 0 = .ok (.aload_n 0, 1) := by decide +kernel
theorem d10_1 : decode jdk_18_method_1_code 1 = .ok (.invokespecial 1, 3) := by decide +kernel
theorem d10_4 : decode jdk_18_method_1_code 4 = .ok (.return_, 1) := by decide +kernel
theorem pn_java_lang_Number : plainName "java/lang/Number" = true := by first | (simp [plainName, overriddenIn]; done) | decide +kernel
theorem ef_10 (m : MethodId) (p0 : Addr) : entryFrame m #[(.ref p0)] 1 = mkF m 0 #[.val (.ref p0)] [] := by first | (simp [entryFrame, mkF, argsToLocals, Value.category]; done) | rfl
set_option maxRecDepth 65536 in
set_option maxHeartbeats 40000000 in
theorem rm10 (l : Launch) (Z : State) (a0 : Array Value) (hw : ∀ d ∈ tables_1, d.before a0 Z = true) (ws : List Jvm.Cond) (p0 : Addr) (h0 : Heap) (n0 : Nat) (Z0 : n0 ≤ h0.size)  :
    MetFree l (⟨"java/lang/Number", "<init>", "()V"⟩ : MethodName) (head1 (Jvm.Cond.code (⟨"java/lang/Number", "<init>", "()V"⟩ : MethodName) jdk_18_method_1_code 1 none :: ws) ({ frames := 1, cells := 0, slots := 0, locals := 12 } : Room)) (fun a U => a = #[(.ref p0)] ∧ Z.Warmed39 U.vm ∧ U.heap = h0) (fun _ _ _ _ _ => True) (fun _ U o U' => ∃ v L, o = .returned v ∧ (own_Q none h0 n0) v U'.heap L ∧ FrameEnd U o U' L ({ frames := 1, cells := 0, slots := 0, locals := 12 } : Room).cells ({ frames := 1, cells := 0, slots := 0, locals := 12 } : Room).slots) := by
  refine MetFree.of_bodySF (plainFor_of_name pn_java_lang_Number) hisR ?_
  intro p e s m args below meth c s₁ Bd hml0 hP hK
  obtain ⟨rfl, hZ, hh⟩ := hP
  have hx := Bd.exec
  have hby := Bd.bytes
  have hml : c.maxLocals = 1 := hml0
  have hown : s.vm.findClass "java/lang/Number" = some m.cls := findClass_of_methodNamed Bd.named
  have hnm := (name_of_methodNamed Bd.named Bd.method).1
  have X0 : Stand p l e ({ frames := 1, cells := 0, slots := 0, locals := 12 } : Room) s m #[(.ref p0)] below meth c s₁ [] 0 0 := Stand.of_body Bd
  have e0 : s₁.heap = h0 := by rw [← hh, Bd.state]; rfl
  have N0 := Fr.nil n0
  refine own_body (QQ := (own_Q none h0 n0)) (ef_10 m p0) ?_
  refine own_via (s₁.setTop (mkF m 1 #[.val (.ref p0)] [(.ref p0)])) (fun t k => XS.aloadN X0.here hx rfl (hb hby d10_0) rfl rfl k) ?_
  obtain ⟨T24, X24, e24, st24⟩ := initO X0 hx hZ hown (hw _ (List.mem_of_getElem? (i := 63) rfl)) (hw _ (List.mem_of_getElem? (i := 14) rfl)) (hw _ (List.mem_of_getElem? (i := 15) rfl)) e0 (g := (mkF m 1 #[.val (.ref p0)] [(.ref p0)])) rfl (by rw [hml]; rfl) rfl (hb hby d10_1) (by decide) (W := 0) (by show 2 * 0 + _ ≤ _; exact Nat.le_of_eq rfl) (by decide)
  refine own_via (T24.setTop (mkF m 4 #[.val (.ref p0)] [])) (fun t k => st24 t k) ?_
  refine own_leave X24 Bd.notSynchronized (v := none) (fun _ => rfl) (fun fs hr => X24.returnOut hx Bd.returns (hb hby d10_4) hr) ?_ (by decide) (by decide)
  refine ⟨?_, N0, e24⟩
  rfl
def own_Q9 (Z : State) (p0 : Addr) (p1 : Int32)  (h0 : Heap) (n0 : Nat) (v : Option Value) (h : Heap) (L : List Loc) : Prop := v = none ∧ Fr n0 L ∧ Keep h0 h [p0] ∧ Exa Z h p0 "java/lang/Integer" ∧ Fld Z h p0 "java/lang/Integer" "value" "I" (.int p1)
theorem d9_0 : decode jdk_33_method_23_code 0 = .ok (.aload_n 0, 1) := by decide +kernel
theorem d9_1 : decode jdk_33_method_23_code 1 = .ok (.invokespecial 202, 3) := by decide +kernel
theorem d9_4 : decode jdk_33_method_23_code 4 = .ok (.aload_n 0, 1) := by decide +kernel
theorem d9_5 : decode jdk_33_method_23_code 5 = .ok (.iload_n 1, 1) := by decide +kernel
theorem d9_6 : decode jdk_33_method_23_code 6 = .ok (.putfield 205, 3) := by decide +kernel
theorem d9_9 : decode jdk_33_method_23_code 9 = .ok (.return_, 1) := by decide +kernel
theorem pd_0 : parseMethodDescriptor "()V" = some ⟨[], none⟩ := by decide +kernel
theorem pn_java_lang_Integer : plainName "java/lang/Integer" = true := by first | (simp [plainName, overriddenIn]; done) | decide +kernel
theorem ef_9 (m : MethodId) (p0 : Addr) (p1 : Int32) : entryFrame m #[(.ref p0), (.int p1)] 2 = mkF m 0 #[.val (.ref p0), .val (.int p1)] [] := by first | (simp [entryFrame, mkF, argsToLocals, Value.category]; done) | rfl
set_option maxRecDepth 65536 in
set_option maxHeartbeats 40000000 in
theorem rm9 (l : Launch) (Z : State) (a0 : Array Value) (hw : ∀ d ∈ tables_1, d.before a0 Z = true) (ws : List Jvm.Cond) (p0 : Addr) (p1 : Int32) (h0 : Heap) (n0 : Nat) (Z0 : n0 ≤ h0.size) (P0 : Fld Z h0 p0 "java/lang/Integer" "value" "I" (.int (0 : Int32))) (P1 : Exa Z h0 p0 "java/lang/Integer") (gg_p0 : n0 ≤ p0) :
    MetFree l (⟨"java/lang/Integer", "<init>", "(I)V"⟩ : MethodName) (head1 (Jvm.Cond.code (⟨"java/lang/Integer", "<init>", "(I)V"⟩ : MethodName) jdk_33_method_23_code 2 none :: ws) ({ frames := 2, cells := 0, slots := 0, locals := 24 } : Room)) (fun a U => a = #[(.ref p0), (.int p1)] ∧ Z.Warmed39 U.vm ∧ U.heap = h0) (fun _ _ _ _ _ => True) (fun _ U o U' => ∃ v L, o = .returned v ∧ (own_Q9 Z p0 p1  h0 n0) v U'.heap L ∧ FrameEnd U o U' L ({ frames := 2, cells := 0, slots := 0, locals := 24 } : Room).cells ({ frames := 2, cells := 0, slots := 0, locals := 24 } : Room).slots) := by
  refine MetFree.of_bodySF (plainFor_of_name pn_java_lang_Integer) hisR ?_
  intro p e s m args below meth c s₁ Bd hml0 hP hK
  obtain ⟨rfl, hZ, hh⟩ := hP
  have hx := Bd.exec
  have hby := Bd.bytes
  have hml : c.maxLocals = 2 := hml0
  have hown : s.vm.findClass "java/lang/Integer" = some m.cls := findClass_of_methodNamed Bd.named
  have hnm := (name_of_methodNamed Bd.named Bd.method).1
  have X0 : Stand p l e ({ frames := 2, cells := 0, slots := 0, locals := 24 } : Room) s m #[(.ref p0), (.int p1)] below meth c s₁ [] 0 0 := Stand.of_body Bd
  have e0 : s₁.heap = h0 := by rw [← hh, Bd.state]; rfl
  have N0 := Fr.nil n0
  refine own_body (QQ := (own_Q9 Z p0 p1  h0 n0)) (ef_9 m p0 p1) ?_
  refine own_via (s₁.setTop (mkF m 1 #[.val (.ref p0), .val (.int p1)] [(.ref p0)])) (fun t k => XS.aloadN X0.here hx rfl (hb hby d9_0) rfl rfl k) ?_
  obtain ⟨_, _, ⟨T25, L25, k25, n25⟩, -, X25, ⟨Lc25, hQ25, l25, y25, z25⟩, st25⟩ := X0.specialBack hx (y := (⟨"java/lang/Number", "<init>", "()V"⟩ : MethodName)) rfl hown (mvT hZ (hw _ (List.mem_of_getElem? (i := 57) rfl))) (mvT hZ (hw _ (List.mem_of_getElem? (i := 58) rfl))) (mvT hZ (hw _ (List.mem_of_getElem? (i := 62) rfl))) (by decide) (backOf (W := 0) (rm10 l Z a0 hw [] p0 h0 n0 (Nat.le_trans Z0 (Keep.refl h0 [p0]).1)) hZ (hw _ (List.mem_of_getElem? (i := 62) rfl)) (hw _ (List.mem_of_getElem? (i := 61) rfl)) (by decide) (by decide)) (g := (mkF m 1 #[.val (.ref p0), .val (.int p1)] [(.ref p0)])) rfl (by rw [hml]; rfl) (Steps.refl _) (a := p0) (argsL := []) (rest := []) (lenOf pd_0 rfl) rfl (by show 2 * 0 + _ ≤ _; exact Nat.le_of_eq rfl) (hb hby d9_1) (fun _ _ => ⟨rfl, e0, (by decide : 0 + 0 ≤ _), (by decide : 0 + 0 ≤ _)⟩)
  dsimp only [Pt.U, Pt.locs, Pt.cells, Pt.slots] at X25 l25 y25 z25 st25 hQ25
  subst l25 y25 z25
  obtain ⟨rfl, N25q, e25⟩ := hQ25
  have N25 := Fr.app N0 N25q
  refine own_via (T25.setTop (mkF m 4 #[.val (.ref p0), .val (.int p1)] [])) (fun t k => st25.trans k) ?_
  refine own_via (T25.setTop (mkF m 5 #[.val (.ref p0), .val (.int p1)] [(.ref p0)])) (fun t k => XS.aloadN X25.here hx rfl (hb hby d9_4) rfl rfl k) ?_
  refine own_via (T25.setTop (mkF m 6 #[.val (.ref p0), .val (.int p1)] [(.int p1), (.ref p0)])) (fun t k => XS.iloadN X25.here hx rfl (hb hby d9_5) rfl  k) ?_
  obtain ⟨T26, h26, X26, e26, W26, st26⟩ := putF X25 hx hZ hown (host := "") (Or.inl (hw _ (List.mem_of_getElem? (i := 64) rfl))) Via.refl e25 P0 P1 (Or.inr ⟨(hw _ (List.mem_of_getElem? (i := 65) rfl)), rfl, hnm⟩) (hw _ (List.mem_of_getElem? (i := 52) rfl)) (ty := .int) (by decide) rfl rfl (g := (mkF m 6 #[.val (.ref p0), .val (.int p1)] [(.int p1), (.ref p0)])) rfl rfl (hb hby d9_6)
  have Fw26 := P0.same W26
  have N26 := Fr.snoc X26 N25 gg_p0
  have K27 : Keep h0 h26 [p0] := (Keep.refl h0 [p0]).wr W26 (Or.inl (List.mem_of_getElem? (i := 0) rfl))
  refine own_via (T26.setTop (mkF m 9 #[.val (.ref p0), .val (.int p1)] [])) (fun t k => st26 t k) ?_
  refine own_leave X26 Bd.notSynchronized (v := none) (fun _ => rfl) (fun fs hr => X26.returnOut hx Bd.returns (hb hby d9_9) hr) ?_ (by decide) (by decide)
  have F28 := (P1.wr W26)
  show (own_Q9 Z p0 p1  h0 n0) _ T26.heap _
  rw [e26]
  exact ⟨rfl, N26, K27, F28, Fw26⟩
theorem own_cidx {x : Int32} (h1 : ¬ x < (-128 : Int32)) (h2 : ¬ (127 : Int32) < x) : 0 ≤ (x + (128 : Int32)).toInt ∧ (x + (128 : Int32)).toInt < 256 := by
  have e1 : (-128 : Int32).toInt = -128 := rfl
  have e2 : (127 : Int32).toInt = 127 := rfl
  have e3 : (128 : Int32).toInt = 128 := rfl
  rw [Int32.lt_iff_toInt_lt] at h1 h2
  have := c_iadd x (128 : Int32); have := rng32 (x + (128 : Int32))
  omega
def own_Q5 (Z : State) (p0 : Int32)  (h0 : Heap) (n0 : Nat) (v : Option Value) (h : Heap) (L : List Loc) : Prop := ∃ (r : Addr), v = some (.ref r) ∧ Fr n0 L ∧ Keep h0 h [] ∧ Exa Z h r "java/lang/Integer"
theorem d5_0 : decode jdk_33_method_22_code 0 = .ok (.iload_n 0, 1) := by decide +kernel
theorem d5_1 : decode jdk_33_method_22_code 1 = .ok (.bipush (-128), 2) := by decide +kernel
theorem d5_3 : decode jdk_33_method_22_code 3 = .ok (.if_icmp .lt 20, 3) := by decide +kernel
theorem d5_6 : decode jdk_33_method_22_code 6 = .ok (.iload_n 0, 1) := by decide +kernel
theorem d5_7 : decode jdk_33_method_22_code 7 = .ok (.getstatic 191, 3) := by decide +kernel
theorem d5_10 : decode jdk_33_method_22_code 10 = .ok (.if_icmp .gt 13, 3) := by decide +kernel
theorem d5_13 : decode jdk_33_method_22_code 13 = .ok (.getstatic 195, 3) := by decide +kernel
theorem d5_16 : decode jdk_33_method_22_code 16 = .ok (.iload_n 0, 1) := by decide +kernel
theorem d5_17 : decode jdk_33_method_22_code 17 = .ok (.sipush 128, 3) := by decide +kernel
theorem d5_20 : decode jdk_33_method_22_code 20 = .ok (.iadd, 1) := by decide +kernel
theorem d5_21 : decode jdk_33_method_22_code 21 = .ok (.aaload, 1) := by decide +kernel
theorem d5_22 : decode jdk_33_method_22_code 22 = .ok (.areturn, 1) := by decide +kernel
theorem d5_23 : decode jdk_33_method_22_code 23 = .ok (.new 1, 3) := by decide +kernel
theorem d5_26 : decode jdk_33_method_22_code 26 = .ok (.dup, 1) := by decide +kernel
theorem d5_27 : decode jdk_33_method_22_code 27 = .ok (.iload_n 0, 1) := by decide +kernel
theorem d5_28 : decode jdk_33_method_22_code 28 = .ok (.invokespecial 199, 3) := by decide +kernel
theorem d5_31 : decode jdk_33_method_22_code 31 = .ok (.areturn, 1) := by decide +kernel
theorem pd_1 : parseMethodDescriptor "(I)V" = some ⟨[.int], none⟩ := by decide +kernel
theorem ef_5 (m : MethodId) (p0 : Int32) : entryFrame m #[(.int p0)] 1 = mkF m 0 #[.val (.int p0)] [] := by first | (simp [entryFrame, mkF, argsToLocals, Value.category]; done) | rfl
set_option maxRecDepth 65536 in
set_option maxHeartbeats 40000000 in
theorem rm5 (l : Launch) (Z : State) (a0 : Array Value) (hw : ∀ d ∈ tables_1, d.before a0 Z = true) (ws : List Jvm.Cond) (p0 : Int32) (h0 : Heap) (n0 : Nat) (Z0 : n0 ≤ h0.size) (hcache : own_Cache Z h0) :
    MetFree l (⟨"java/lang/Integer", "valueOf", "(I)Ljava/lang/Integer;"⟩ : MethodName) (head1 (Jvm.Cond.code (⟨"java/lang/Integer", "valueOf", "(I)Ljava/lang/Integer;"⟩ : MethodName) jdk_33_method_22_code 1 (some (.object "java/lang/Integer")) :: ws) ({ frames := 3, cells := 1, slots := 1, locals := 38 } : Room)) (fun a U => a = #[(.int p0)] ∧ Z.Warmed39 U.vm ∧ U.heap = h0) (fun _ _ _ _ _ => True) (fun _ U o U' => ∃ v L, o = .returned v ∧ (own_Q5 Z p0  h0 n0) v U'.heap L ∧ FrameEnd U o U' L ({ frames := 3, cells := 1, slots := 1, locals := 38 } : Room).cells ({ frames := 3, cells := 1, slots := 1, locals := 38 } : Room).slots) := by
  refine MetFree.of_bodySF (plainFor_of_name pn_java_lang_Integer) hisR ?_
  intro p e s m args below meth c s₁ Bd hml0 hP hK
  obtain ⟨rfl, hZ, hh⟩ := hP
  have hx := Bd.exec
  have hby := Bd.bytes
  have hml : c.maxLocals = 1 := hml0
  have hown : s.vm.findClass "java/lang/Integer" = some m.cls := findClass_of_methodNamed Bd.named
  have hnm := (name_of_methodNamed Bd.named Bd.method).1
  have X0 : Stand p l e ({ frames := 3, cells := 1, slots := 1, locals := 38 } : Room) s m #[(.int p0)] below meth c s₁ [] 0 0 := Stand.of_body Bd
  have e0 : s₁.heap = h0 := by rw [← hh, Bd.state]; rfl
  have N0 := Fr.nil n0
  refine own_body (QQ := (own_Q5 Z p0  h0 n0)) (ef_5 m p0) ?_
  obtain ⟨cA, cl, hS1, hS2, hAr, hsz, hel⟩ := hcache
  refine own_via (s₁.setTop (mkF m 1 #[.val (.int p0)] [(.int p0)])) (fun t k => XS.iloadN X0.here hx rfl (hb hby d5_0) rfl  k) ?_
  refine own_via (s₁.setTop (mkF m 3 #[.val (.int p0)] [(.int (-128 : Int32)), (.int p0)])) (fun t k => XS.bipush X0.here hx rfl (hb hby d5_1) k) ?_
  by_cases hlo : p0 < (-128 : Int32)
  · refine own_via (s₁.setTop (mkF m 23 #[.val (.int p0)] [])) (fun t k => XS.icmpYes X0.here hx rfl (pc0 := 3) (pc' := 23) rfl (hb hby d5_3) rfl (tlt hlo).1 (by decide) (by decide) k) ?_
    obtain ⟨T29, h29, X29, e29, E29, A29, D29, -, st29⟩ := newO X0 hx hZ hown (hw _ (List.mem_of_getElem? (i := 51) rfl)) (hw _ (List.mem_of_getElem? (i := 52) rfl)) (hw _ (List.mem_of_getElem? (i := 26) rfl)) e0 (g := (mkF m 23 #[.val (.int p0)] [])) rfl (hb hby d5_23) (by decide) (by decide)
    obtain ⟨b29, g29⟩ : ∃ z, z = h0.size := ⟨_, rfl⟩
    rw [← g29] at A29 D29 st29
    have gg_b29 : n0 ≤ b29 := Nat.le_trans (Nat.le_trans Z0 (Keep.refl h0 []).1) (Nat.le_of_eq g29.symm)
    have sz_b29 : h0.size ≤ b29 := Nat.le_trans (Keep.refl h0 []).1 (Nat.le_of_eq g29.symm)
    have F_value_b29 : Fld Z h29 b29 "java/lang/Integer" "value" "I" (.int (0 : Int32)) := D29 (Or.inr (hw _ (List.mem_of_getElem? (i := 65) rfl))) (ty := .int) (by decide)
    have K30 : Keep h0 h29 [] := (Keep.refl h0 []).ext E29
    refine own_via (T29.setTop (mkF m 26 #[.val (.int p0)] [(.ref b29)])) (fun t k => st29 t k) ?_
    refine own_via (T29.setTop (mkF m 27 #[.val (.int p0)] [(.ref b29), (.ref b29)])) (fun t k => XS.dup X29.here hx rfl (hb hby d5_26) rfl rfl k) ?_
    refine own_via (T29.setTop (mkF m 28 #[.val (.int p0)] [(.int p0), (.ref b29), (.ref b29)])) (fun t k => XS.iloadN X29.here hx rfl (hb hby d5_27) rfl  k) ?_
    obtain ⟨_, _, ⟨T31, L31, k31, n31⟩, -, X31, ⟨Lc31, hQ31, l31, y31, z31⟩, st31⟩ := X29.specialBack hx (y := (⟨"java/lang/Integer", "<init>", "(I)V"⟩ : MethodName)) rfl hown (mvT hZ (hw _ (List.mem_of_getElem? (i := 53) rfl))) (mvT hZ (hw _ (List.mem_of_getElem? (i := 54) rfl))) (mvT hZ (hw _ (List.mem_of_getElem? (i := 56) rfl))) (by decide) (backOf (W := 1) (rm9 l Z a0 hw [] b29 p0 h29 n0 (Nat.le_trans Z0 K30.1) F_value_b29 A29 gg_b29) hZ (hw _ (List.mem_of_getElem? (i := 56) rfl)) (hw _ (List.mem_of_getElem? (i := 26) rfl)) (by decide) (by decide)) (g := (mkF m 28 #[.val (.int p0)] [(.int p0), (.ref b29), (.ref b29)])) rfl (by rw [hml]; rfl) (Steps.refl _) (a := b29) (argsL := [(.int p0)]) (rest := [(.ref b29)]) (lenOf pd_1 rfl) rfl (by show 2 * 0 + _ ≤ _; exact Nat.le_of_eq rfl) (hb hby d5_28) (fun _ _ => ⟨rfl, e29, (by decide : 1 + 0 ≤ _), (by decide : 1 + 0 ≤ _)⟩)
    dsimp only [Pt.U, Pt.locs, Pt.cells, Pt.slots] at X31 l31 y31 z31 st31 hQ31
    subst l31 y31 z31
    obtain ⟨h31, e31⟩ : ∃ h, T31.heap = h := ⟨_, rfl⟩
    rw [e31] at hQ31
    obtain ⟨rfl, N31q, K31q, G31_0, G31_1⟩ := hQ31
    have N31 := Fr.app N0 N31q
    have K32 : Keep h0 h31 [] := K30.trans K31q (fun x hx => (List.mem_cons.mp hx).elim (fun e => e ▸ Or.inr sz_b29) ((fun x hx => nomatch hx) x))
    refine own_via (T31.setTop (mkF m 31 #[.val (.int p0)] [(.ref b29)])) (fun t k => st31.trans k) ?_
    refine own_leave X31 Bd.notSynchronized (v := some (.ref b29)) (fun h => by rw [Bd.returns] at h; cases h) (fun fs hr => retOut X31 hx Bd.returns rfl (Or.inr (Or.inr (Or.inr (Or.inr ⟨rfl, rfl, rfl⟩)))) (hb hby d5_31) hr) ?_ (by decide) (by decide)
    show (own_Q5 Z p0  h0 n0) _ T31.heap _
    rw [e31]
    exact ⟨b29, rfl, N31, K32, G31_0⟩
  · refine own_via (s₁.setTop (mkF m 6 #[.val (.int p0)] [])) (fun t k => XS.icmpNo X0.here hx rfl (hb hby d5_3) rfl (flt hlo).1 k) ?_
    refine own_via (s₁.setTop (mkF m 7 #[.val (.int p0)] [(.int p0)])) (fun t k => XS.iloadN X0.here hx rfl (hb hby d5_6) rfl  k) ?_
    obtain ⟨T33, X33, e33, st33⟩ := getS2 X0 hx hZ hown (host := "") (Or.inl (hw _ (List.mem_of_getElem? (i := 28) rfl))) Via.refl e0 hS1 (g := (mkF m 7 #[.val (.int p0)] [(.int p0)])) rfl (hb hby d5_7)
    refine own_via (T33.setTop (mkF m 10 #[.val (.int p0)] [(.int (127 : Int32)), (.int p0)])) (fun t k => st33 t k) ?_
    by_cases hhi : (127 : Int32) < p0
    · refine own_via (T33.setTop (mkF m 23 #[.val (.int p0)] [])) (fun t k => XS.icmpYes X33.here hx rfl (pc0 := 10) (pc' := 23) rfl (hb hby d5_10) rfl (tlt hhi).2.2.1 (by decide) (by decide) k) ?_
      obtain ⟨T34, h34, X34, e34, E34, A34, D34, -, st34⟩ := newO X33 hx hZ hown (hw _ (List.mem_of_getElem? (i := 51) rfl)) (hw _ (List.mem_of_getElem? (i := 52) rfl)) (hw _ (List.mem_of_getElem? (i := 26) rfl)) e33 (g := (mkF m 23 #[.val (.int p0)] [])) rfl (hb hby d5_23) (by decide) (by decide)
      obtain ⟨b34, g34⟩ : ∃ z, z = h0.size := ⟨_, rfl⟩
      rw [← g34] at A34 D34 st34
      have gg_b34 : n0 ≤ b34 := Nat.le_trans (Nat.le_trans Z0 (Keep.refl h0 []).1) (Nat.le_of_eq g34.symm)
      have sz_b34 : h0.size ≤ b34 := Nat.le_trans (Keep.refl h0 []).1 (Nat.le_of_eq g34.symm)
      have F_value_b34 : Fld Z h34 b34 "java/lang/Integer" "value" "I" (.int (0 : Int32)) := D34 (Or.inr (hw _ (List.mem_of_getElem? (i := 65) rfl))) (ty := .int) (by decide)
      have K35 : Keep h0 h34 [] := (Keep.refl h0 []).ext E34
      refine own_via (T34.setTop (mkF m 26 #[.val (.int p0)] [(.ref b34)])) (fun t k => st34 t k) ?_
      refine own_via (T34.setTop (mkF m 27 #[.val (.int p0)] [(.ref b34), (.ref b34)])) (fun t k => XS.dup X34.here hx rfl (hb hby d5_26) rfl rfl k) ?_
      refine own_via (T34.setTop (mkF m 28 #[.val (.int p0)] [(.int p0), (.ref b34), (.ref b34)])) (fun t k => XS.iloadN X34.here hx rfl (hb hby d5_27) rfl  k) ?_
      obtain ⟨_, _, ⟨T36, L36, k36, n36⟩, -, X36, ⟨Lc36, hQ36, l36, y36, z36⟩, st36⟩ := X34.specialBack hx (y := (⟨"java/lang/Integer", "<init>", "(I)V"⟩ : MethodName)) rfl hown (mvT hZ (hw _ (List.mem_of_getElem? (i := 53) rfl))) (mvT hZ (hw _ (List.mem_of_getElem? (i := 54) rfl))) (mvT hZ (hw _ (List.mem_of_getElem? (i := 56) rfl))) (by decide) (backOf (W := 1) (rm9 l Z a0 hw [] b34 p0 h34 n0 (Nat.le_trans Z0 K35.1) F_value_b34 A34 gg_b34) hZ (hw _ (List.mem_of_getElem? (i := 56) rfl)) (hw _ (List.mem_of_getElem? (i := 26) rfl)) (by decide) (by decide)) (g := (mkF m 28 #[.val (.int p0)] [(.int p0), (.ref b34), (.ref b34)])) rfl (by rw [hml]; rfl) (Steps.refl _) (a := b34) (argsL := [(.int p0)]) (rest := [(.ref b34)]) (lenOf pd_1 rfl) rfl (by show 2 * 0 + _ ≤ _; exact Nat.le_of_eq rfl) (hb hby d5_28) (fun _ _ => ⟨rfl, e34, (by decide : 1 + 0 ≤ _), (by decide : 1 + 0 ≤ _)⟩)
      dsimp only [Pt.U, Pt.locs, Pt.cells, Pt.slots] at X36 l36 y36 z36 st36 hQ36
      subst l36 y36 z36
      obtain ⟨h36, e36⟩ : ∃ h, T36.heap = h := ⟨_, rfl⟩
      rw [e36] at hQ36
      obtain ⟨rfl, N36q, K36q, G36_0, G36_1⟩ := hQ36
      have N36 := Fr.app N0 N36q
      have K37 : Keep h0 h36 [] := K35.trans K36q (fun x hx => (List.mem_cons.mp hx).elim (fun e => e ▸ Or.inr sz_b34) ((fun x hx => nomatch hx) x))
      refine own_via (T36.setTop (mkF m 31 #[.val (.int p0)] [(.ref b34)])) (fun t k => st36.trans k) ?_
      refine own_leave X36 Bd.notSynchronized (v := some (.ref b34)) (fun h => by rw [Bd.returns] at h; cases h) (fun fs hr => retOut X36 hx Bd.returns rfl (Or.inr (Or.inr (Or.inr (Or.inr ⟨rfl, rfl, rfl⟩)))) (hb hby d5_31) hr) ?_ (by decide) (by decide)
      show (own_Q5 Z p0  h0 n0) _ T36.heap _
      rw [e36]
      exact ⟨b34, rfl, N36, K37, G36_0⟩
    · refine own_via (T33.setTop (mkF m 13 #[.val (.int p0)] [])) (fun t k => XS.icmpNo X33.here hx rfl (hb hby d5_10) rfl (flt hhi).2.2.1 k) ?_
      obtain ⟨T38, X38, e38, st38⟩ := getS2 X33 hx hZ hown (host := "") (Or.inl (hw _ (List.mem_of_getElem? (i := 30) rfl))) Via.refl e33 hS2 (g := (mkF m 13 #[.val (.int p0)] [])) rfl (hb hby d5_13)
      refine own_via (T38.setTop (mkF m 16 #[.val (.int p0)] [(.ref cA)])) (fun t k => st38 t k) ?_
      refine own_via (T38.setTop (mkF m 17 #[.val (.int p0)] [(.int p0), (.ref cA)])) (fun t k => XS.iloadN X38.here hx rfl (hb hby d5_16) rfl  k) ?_
      refine own_via (T38.setTop (mkF m 20 #[.val (.int p0)] [(.int (128 : Int32)), (.int p0), (.ref cA)])) (fun t k => XS.sipush X38.here hx rfl (hb hby d5_17) k) ?_
      refine own_via (T38.setTop (mkF m 21 #[.val (.int p0)] [(.int (p0 + (128 : Int32))), (.ref cA)])) (fun t k => XS.iadd X38.here hx rfl (hb hby d5_20) rfl k) ?_
      have hj := own_cidx hlo hhi
      obtain ⟨bI, hbI, EI⟩ := hel ((p0 + (128 : Int32))).toNatClampNeg (by have ek : ((p0 + (128 : Int32))).toNatClampNeg = ((p0 + (128 : Int32))).toInt.toNat := rfl; omega)
      refine own_via (T38.setTop (mkF m 22 #[.val (.int p0)] [(.ref bI)])) (fun t k => X38.aaload hx (j := (p0 + (128 : Int32))) (v := (.ref bI)) (by rw [e38]; exact hAr.1) (State.isArrayOf_alike hZ.alike hAr.2.1) rfl hAr.2.2 (own_in hsz hj) hbI (g := (mkF m 21 #[.val (.int p0)] [(.int (p0 + (128 : Int32))), (.ref cA)])) rfl rfl (hb hby d5_21) _ k) ?_
      refine own_leave X38 Bd.notSynchronized (v := some (.ref bI)) (fun h => by rw [Bd.returns] at h; cases h) (fun fs hr => retOut X38 hx Bd.returns rfl (Or.inr (Or.inr (Or.inr (Or.inr ⟨rfl, rfl, rfl⟩)))) (hb hby d5_22) hr) ?_ (by decide) (by decide)
      show (own_Q5 Z p0  h0 n0) _ T38.heap _
      rw [e38]
      exact ⟨bI, rfl, N0, (Keep.refl h0 []), EI⟩
def own_f6 (left0 : Int32) (top0 : Int32) (right0 : Int32) (bottom0 : Int32) (left1 : Int32) (top1 : Int32) (right1 : Int32) (bottom1 : Int32) : Int32 := (if left1 < left0 then (0 : Int32) else (if top1 < top0 then (0 : Int32) else (if right0 < right1 then (0 : Int32) else (if bottom0 < bottom1 then (0 : Int32) else (1 : Int32)))))
def own_Q6 (Z : State) (p0 : Addr) (p1 : Addr) (left0 : Int32) (top0 : Int32) (right0 : Int32) (bottom0 : Int32) (left1 : Int32) (top1 : Int32) (right1 : Int32) (bottom1 : Int32) (h0 : Heap) (n0 : Nat) (v : Option Value) (h : Heap) (L : List Loc) : Prop := v = some (.int (own_f6 left0 top0 right0 bottom0 left1 top1 right1 bottom1)) ∧ Fr n0 L ∧ h = h0
theorem d6_0 : decode prog_40_method_3_code 0 = .ok (.aload_n 0, 1) := by decide +kernel
theorem d6_1 : decode prog_40_method_3_code 1 = .ok (.getfield 23, 3) := by decide +kernel
theorem d6_4 : decode prog_40_method_3_code 4 = .ok (.aload_n 1, 1) := by decide +kernel
theorem d6_5 : decode prog_40_method_3_code 5 = .ok (.getfield 23, 3) := by decide +kernel
theorem d6_8 : decode prog_40_method_3_code 8 = .ok (.if_icmp .gt 40, 3) := by decide +kernel
theorem d6_11 : decode prog_40_method_3_code 11 = .ok (.aload_n 0, 1) := by decide +kernel
theorem d6_12 : decode prog_40_method_3_code 12 = .ok (.getfield 27, 3) := by decide +kernel
theorem d6_15 : decode prog_40_method_3_code 15 = .ok (.aload_n 1, 1) := by decide +kernel
theorem d6_16 : decode prog_40_method_3_code 16 = .ok (.getfield 27, 3) := by decide +kernel
theorem d6_19 : decode prog_40_method_3_code 19 = .ok (.if_icmp .gt 29, 3) := by decide +kernel
theorem d6_22 : decode prog_40_method_3_code 22 = .ok (.aload_n 1, 1) := by decide +kernel
theorem d6_23 : decode prog_40_method_3_code 23 = .ok (.getfield 30, 3) := by decide +kernel
theorem d6_26 : decode prog_40_method_3_code 26 = .ok (.aload_n 0, 1) := by decide +kernel
theorem d6_27 : decode prog_40_method_3_code 27 = .ok (.getfield 30, 3) := by decide +kernel
theorem d6_30 : decode prog_40_method_3_code 30 = .ok (.if_icmp .gt 18, 3) := by decide +kernel
theorem d6_33 : decode prog_40_method_3_code 33 = .ok (.aload_n 1, 1) := by decide +kernel
theorem d6_34 : decode prog_40_method_3_code 34 = .ok (.getfield 33, 3) := by decide +kernel
theorem d6_37 : decode prog_40_method_3_code 37 = .ok (.aload_n 0, 1) := by decide +kernel
theorem d6_38 : decode prog_40_method_3_code 38 = .ok (.getfield 33, 3) := by decide +kernel
theorem d6_41 : decode prog_40_method_3_code 41 = .ok (.if_icmp .gt 7, 3) := by decide +kernel
theorem d6_44 : decode prog_40_method_3_code 44 = .ok (.iconst 1, 1) := by decide +kernel
theorem d6_45 : decode prog_40_method_3_code 45 = .ok (.goto 4, 3) := by decide +kernel
theorem d6_48 : decode prog_40_method_3_code 48 = .ok (.iconst 0, 1) := by decide +kernel
theorem d6_49 : decode prog_40_method_3_code 49 = .ok (.ireturn, 1) := by decide +kernel
theorem ef_6 (m : MethodId) (p0 : Addr) (p1 : Addr) : entryFrame m #[(.ref p0), (.ref p1)] 2 = mkF m 0 #[.val (.ref p0), .val (.ref p1)] [] := by first | (simp [entryFrame, mkF, argsToLocals, Value.category]; done) | rfl
set_option maxRecDepth 65536 in
set_option maxHeartbeats 40000000 in
theorem rm6 (l : Launch) (Z : State) (a0 : Array Value) (hw : ∀ d ∈ tables_1, d.before a0 Z = true) (ws : List Jvm.Cond) (p0 : Addr) (p1 : Addr) (h0 : Heap) (n0 : Nat) (Z0 : n0 ≤ h0.size) (left0 : Int32) (top0 : Int32) (right0 : Int32) (bottom0 : Int32) (left1 : Int32) (top1 : Int32) (right1 : Int32) (bottom1 : Int32) (P0 : Fld Z h0 p0 "com/example/rondo/rondo/Rect" "left" "I" (.int left0)) (P1 : Fld Z h0 p0 "com/example/rondo/rondo/Rect" "top" "I" (.int top0)) (P2 : Fld Z h0 p0 "com/example/rondo/rondo/Rect" "right" "I" (.int right0)) (P3 : Fld Z h0 p0 "com/example/rondo/rondo/Rect" "bottom" "I" (.int bottom0)) (P4 : Fld Z h0 p1 "com/example/rondo/rondo/Rect" "left" "I" (.int left1)) (P5 : Fld Z h0 p1 "com/example/rondo/rondo/Rect" "top" "I" (.int top1)) (P6 : Fld Z h0 p1 "com/example/rondo/rondo/Rect" "right" "I" (.int right1)) (P7 : Fld Z h0 p1 "com/example/rondo/rondo/Rect" "bottom" "I" (.int bottom1)) :
    MetFree l (⟨"com/example/rondo/rondo/Rect", "contains", "(Lcom/example/rondo/rondo/Rect;)Z"⟩ : MethodName) (head1 (Jvm.Cond.code (⟨"com/example/rondo/rondo/Rect", "contains", "(Lcom/example/rondo/rondo/Rect;)Z"⟩ : MethodName) prog_40_method_3_code 2 (some .boolean) :: ws) ({ frames := 0, cells := 0, slots := 0, locals := 0 } : Room)) (fun a U => a = #[(.ref p0), (.ref p1)] ∧ Z.Warmed39 U.vm ∧ U.heap = h0) (fun _ _ _ _ _ => True) (fun _ U o U' => ∃ v L, o = .returned v ∧ (own_Q6 Z p0 p1 left0 top0 right0 bottom0 left1 top1 right1 bottom1 h0 n0) v U'.heap L ∧ FrameEnd U o U' L ({ frames := 0, cells := 0, slots := 0, locals := 0 } : Room).cells ({ frames := 0, cells := 0, slots := 0, locals := 0 } : Room).slots) := by
  refine MetFree.of_bodySF (plainFor_of_name pn_com_example_rondo_rondo_Rect) hisR ?_
  intro p e s m args below meth c s₁ Bd hml0 hP hK
  obtain ⟨rfl, hZ, hh⟩ := hP
  have hx := Bd.exec
  have hby := Bd.bytes
  have hml : c.maxLocals = 2 := hml0
  have hown : s.vm.findClass "com/example/rondo/rondo/Rect" = some m.cls := findClass_of_methodNamed Bd.named
  have hnm := (name_of_methodNamed Bd.named Bd.method).1
  have X0 : Stand p l e ({ frames := 0, cells := 0, slots := 0, locals := 0 } : Room) s m #[(.ref p0), (.ref p1)] below meth c s₁ [] 0 0 := Stand.of_body Bd
  have e0 : s₁.heap = h0 := by rw [← hh, Bd.state]; rfl
  have N0 := Fr.nil n0
  refine own_body (QQ := (own_Q6 Z p0 p1 left0 top0 right0 bottom0 left1 top1 right1 bottom1 h0 n0)) (ef_6 m p0 p1) ?_
  refine own_via (s₁.setTop (mkF m 1 #[.val (.ref p0), .val (.ref p1)] [(.ref p0)])) (fun t k => XS.aloadN X0.here hx rfl (hb hby d6_0) rfl rfl k) ?_
  obtain ⟨T51, X51, e51, st51⟩ := getF X0 hx hZ hown (host := "") (Or.inl (hw _ (List.mem_of_getElem? (i := 16) rfl))) Via.refl e0 P0 (g := (mkF m 1 #[.val (.ref p0), .val (.ref p1)] [(.ref p0)])) rfl rfl (hb hby d6_1)
  refine own_via (T51.setTop (mkF m 4 #[.val (.ref p0), .val (.ref p1)] [(.int left0)])) (fun t k => st51 t k) ?_
  refine own_via (T51.setTop (mkF m 5 #[.val (.ref p0), .val (.ref p1)] [(.ref p1), (.int left0)])) (fun t k => XS.aloadN X51.here hx rfl (hb hby d6_4) rfl rfl k) ?_
  obtain ⟨T52, X52, e52, st52⟩ := getF X51 hx hZ hown (host := "") (Or.inl (hw _ (List.mem_of_getElem? (i := 16) rfl))) Via.refl e51 P4 (g := (mkF m 5 #[.val (.ref p0), .val (.ref p1)] [(.ref p1), (.int left0)])) rfl rfl (hb hby d6_5)
  refine own_via (T52.setTop (mkF m 8 #[.val (.ref p0), .val (.ref p1)] [(.int left1), (.int left0)])) (fun t k => st52 t k) ?_
  by_cases hc8_53 : left1 < left0
  · refine own_via (T52.setTop (mkF m 48 #[.val (.ref p0), .val (.ref p1)] [])) (fun t k => XS.icmpYes X52.here hx rfl (pc0 := 8) (pc' := 48) rfl (hb hby d6_8) rfl (tlt hc8_53).2.2.1 (by decide) (by decide) k) ?_
    refine own_via (T52.setTop (mkF m 49 #[.val (.ref p0), .val (.ref p1)] [(.int (0 : Int32))])) (fun t k => XS.iconst X52.here hx rfl (hb hby d6_48) k) ?_
    refine own_leave X52 Bd.notSynchronized (v := some (.int (0 : Int32))) (fun h => by rw [Bd.returns] at h; cases h) (fun fs hr => retN X52 hx (t := .boolean) Bd.returns (by simp) (hb hby d6_49) hr) ?_ (by decide) (by decide)
    exact ⟨(by show some (Value.int _) = some (Value.int _); unfold own_f6; rw [if_pos hc8_53]), N0, e52⟩
  · refine own_via (T52.setTop (mkF m 11 #[.val (.ref p0), .val (.ref p1)] [])) (fun t k => XS.icmpNo X52.here hx rfl (hb hby d6_8) rfl (flt hc8_53).2.2.1 k) ?_
    refine own_via (T52.setTop (mkF m 12 #[.val (.ref p0), .val (.ref p1)] [(.ref p0)])) (fun t k => XS.aloadN X52.here hx rfl (hb hby d6_11) rfl rfl k) ?_
    obtain ⟨T54, X54, e54, st54⟩ := getF X52 hx hZ hown (host := "") (Or.inl (hw _ (List.mem_of_getElem? (i := 18) rfl))) Via.refl e52 P1 (g := (mkF m 12 #[.val (.ref p0), .val (.ref p1)] [(.ref p0)])) rfl rfl (hb hby d6_12)
    refine own_via (T54.setTop (mkF m 15 #[.val (.ref p0), .val (.ref p1)] [(.int top0)])) (fun t k => st54 t k) ?_
    refine own_via (T54.setTop (mkF m 16 #[.val (.ref p0), .val (.ref p1)] [(.ref p1), (.int top0)])) (fun t k => XS.aloadN X54.here hx rfl (hb hby d6_15) rfl rfl k) ?_
    obtain ⟨T55, X55, e55, st55⟩ := getF X54 hx hZ hown (host := "") (Or.inl (hw _ (List.mem_of_getElem? (i := 18) rfl))) Via.refl e54 P5 (g := (mkF m 16 #[.val (.ref p0), .val (.ref p1)] [(.ref p1), (.int top0)])) rfl rfl (hb hby d6_16)
    refine own_via (T55.setTop (mkF m 19 #[.val (.ref p0), .val (.ref p1)] [(.int top1), (.int top0)])) (fun t k => st55 t k) ?_
    by_cases hc19_56 : top1 < top0
    · refine own_via (T55.setTop (mkF m 48 #[.val (.ref p0), .val (.ref p1)] [])) (fun t k => XS.icmpYes X55.here hx rfl (pc0 := 19) (pc' := 48) rfl (hb hby d6_19) rfl (tlt hc19_56).2.2.1 (by decide) (by decide) k) ?_
      refine own_via (T55.setTop (mkF m 49 #[.val (.ref p0), .val (.ref p1)] [(.int (0 : Int32))])) (fun t k => XS.iconst X55.here hx rfl (hb hby d6_48) k) ?_
      refine own_leave X55 Bd.notSynchronized (v := some (.int (0 : Int32))) (fun h => by rw [Bd.returns] at h; cases h) (fun fs hr => retN X55 hx (t := .boolean) Bd.returns (by simp) (hb hby d6_49) hr) ?_ (by decide) (by decide)
      exact ⟨(by show some (Value.int _) = some (Value.int _); unfold own_f6; rw [if_neg hc8_53, if_pos hc19_56]), N0, e55⟩
    · refine own_via (T55.setTop (mkF m 22 #[.val (.ref p0), .val (.ref p1)] [])) (fun t k => XS.icmpNo X55.here hx rfl (hb hby d6_19) rfl (flt hc19_56).2.2.1 k) ?_
      refine own_via (T55.setTop (mkF m 23 #[.val (.ref p0), .val (.ref p1)] [(.ref p1)])) (fun t k => XS.aloadN X55.here hx rfl (hb hby d6_22) rfl rfl k) ?_
      obtain ⟨T57, X57, e57, st57⟩ := getF X55 hx hZ hown (host := "") (Or.inl (hw _ (List.mem_of_getElem? (i := 20) rfl))) Via.refl e55 P6 (g := (mkF m 23 #[.val (.ref p0), .val (.ref p1)] [(.ref p1)])) rfl rfl (hb hby d6_23)
      refine own_via (T57.setTop (mkF m 26 #[.val (.ref p0), .val (.ref p1)] [(.int right1)])) (fun t k => st57 t k) ?_
      refine own_via (T57.setTop (mkF m 27 #[.val (.ref p0), .val (.ref p1)] [(.ref p0), (.int right1)])) (fun t k => XS.aloadN X57.here hx rfl (hb hby d6_26) rfl rfl k) ?_
      obtain ⟨T58, X58, e58, st58⟩ := getF X57 hx hZ hown (host := "") (Or.inl (hw _ (List.mem_of_getElem? (i := 20) rfl))) Via.refl e57 P2 (g := (mkF m 27 #[.val (.ref p0), .val (.ref p1)] [(.ref p0), (.int right1)])) rfl rfl (hb hby d6_27)
      refine own_via (T58.setTop (mkF m 30 #[.val (.ref p0), .val (.ref p1)] [(.int right0), (.int right1)])) (fun t k => st58 t k) ?_
      by_cases hc30_59 : right0 < right1
      · refine own_via (T58.setTop (mkF m 48 #[.val (.ref p0), .val (.ref p1)] [])) (fun t k => XS.icmpYes X58.here hx rfl (pc0 := 30) (pc' := 48) rfl (hb hby d6_30) rfl (tlt hc30_59).2.2.1 (by decide) (by decide) k) ?_
        refine own_via (T58.setTop (mkF m 49 #[.val (.ref p0), .val (.ref p1)] [(.int (0 : Int32))])) (fun t k => XS.iconst X58.here hx rfl (hb hby d6_48) k) ?_
        refine own_leave X58 Bd.notSynchronized (v := some (.int (0 : Int32))) (fun h => by rw [Bd.returns] at h; cases h) (fun fs hr => retN X58 hx (t := .boolean) Bd.returns (by simp) (hb hby d6_49) hr) ?_ (by decide) (by decide)
        exact ⟨(by show some (Value.int _) = some (Value.int _); unfold own_f6; rw [if_neg hc8_53, if_neg hc19_56, if_pos hc30_59]), N0, e58⟩
      · refine own_via (T58.setTop (mkF m 33 #[.val (.ref p0), .val (.ref p1)] [])) (fun t k => XS.icmpNo X58.here hx rfl (hb hby d6_30) rfl (flt hc30_59).2.2.1 k) ?_
        refine own_via (T58.setTop (mkF m 34 #[.val (.ref p0), .val (.ref p1)] [(.ref p1)])) (fun t k => XS.aloadN X58.here hx rfl (hb hby d6_33) rfl rfl k) ?_
        obtain ⟨T60, X60, e60, st60⟩ := getF X58 hx hZ hown (host := "") (Or.inl (hw _ (List.mem_of_getElem? (i := 22) rfl))) Via.refl e58 P7 (g := (mkF m 34 #[.val (.ref p0), .val (.ref p1)] [(.ref p1)])) rfl rfl (hb hby d6_34)
        refine own_via (T60.setTop (mkF m 37 #[.val (.ref p0), .val (.ref p1)] [(.int bottom1)])) (fun t k => st60 t k) ?_
        refine own_via (T60.setTop (mkF m 38 #[.val (.ref p0), .val (.ref p1)] [(.ref p0), (.int bottom1)])) (fun t k => XS.aloadN X60.here hx rfl (hb hby d6_37) rfl rfl k) ?_
        obtain ⟨T61, X61, e61, st61⟩ := getF X60 hx hZ hown (host := "") (Or.inl (hw _ (List.mem_of_getElem? (i := 22) rfl))) Via.refl e60 P3 (g := (mkF m 38 #[.val (.ref p0), .val (.ref p1)] [(.ref p0), (.int bottom1)])) rfl rfl (hb hby d6_38)
        refine own_via (T61.setTop (mkF m 41 #[.val (.ref p0), .val (.ref p1)] [(.int bottom0), (.int bottom1)])) (fun t k => st61 t k) ?_
        by_cases hc41_62 : bottom0 < bottom1
        · refine own_via (T61.setTop (mkF m 48 #[.val (.ref p0), .val (.ref p1)] [])) (fun t k => XS.icmpYes X61.here hx rfl (pc0 := 41) (pc' := 48) rfl (hb hby d6_41) rfl (tlt hc41_62).2.2.1 (by decide) (by decide) k) ?_
          refine own_via (T61.setTop (mkF m 49 #[.val (.ref p0), .val (.ref p1)] [(.int (0 : Int32))])) (fun t k => XS.iconst X61.here hx rfl (hb hby d6_48) k) ?_
          refine own_leave X61 Bd.notSynchronized (v := some (.int (0 : Int32))) (fun h => by rw [Bd.returns] at h; cases h) (fun fs hr => retN X61 hx (t := .boolean) Bd.returns (by simp) (hb hby d6_49) hr) ?_ (by decide) (by decide)
          exact ⟨(by show some (Value.int _) = some (Value.int _); unfold own_f6; rw [if_neg hc8_53, if_neg hc19_56, if_neg hc30_59, if_pos hc41_62]), N0, e61⟩
        · refine own_via (T61.setTop (mkF m 44 #[.val (.ref p0), .val (.ref p1)] [])) (fun t k => XS.icmpNo X61.here hx rfl (hb hby d6_41) rfl (flt hc41_62).2.2.1 k) ?_
          refine own_via (T61.setTop (mkF m 45 #[.val (.ref p0), .val (.ref p1)] [(.int (1 : Int32))])) (fun t k => XS.iconst X61.here hx rfl (hb hby d6_44) k) ?_
          refine own_via (T61.setTop (mkF m 49 #[.val (.ref p0), .val (.ref p1)] [(.int (1 : Int32))])) (fun t k => XS.goto X61.here hx rfl (pc0 := 45) (pc' := 49) rfl (hb hby d6_45) (by decide) (by decide) k) ?_
          refine own_leave X61 Bd.notSynchronized (v := some (.int (1 : Int32))) (fun h => by rw [Bd.returns] at h; cases h) (fun fs hr => retN X61 hx (t := .boolean) Bd.returns (by simp) (hb hby d6_49) hr) ?_ (by decide) (by decide)
          exact ⟨(by show some (Value.int _) = some (Value.int _); unfold own_f6; rw [if_neg hc8_53, if_neg hc19_56, if_neg hc30_59, if_neg hc41_62]), N0, e61⟩
def own_f7 (left0 : Int32) (top0 : Int32) (right0 : Int32) (bottom0 : Int32) (left1 : Int32) (top1 : Int32) (right1 : Int32) (bottom1 : Int32) : Int32 := (if left0 = left1 then (if top0 = top1 then (if right0 = right1 then (if bottom0 = bottom1 then (1 : Int32) else (0 : Int32)) else (0 : Int32)) else (0 : Int32)) else (0 : Int32))
def own_Q7 (Z : State) (p0 : Addr) (p1 : Addr) (left0 : Int32) (top0 : Int32) (right0 : Int32) (bottom0 : Int32) (left1 : Int32) (top1 : Int32) (right1 : Int32) (bottom1 : Int32) (h0 : Heap) (n0 : Nat) (v : Option Value) (h : Heap) (L : List Loc) : Prop := v = some (.int (own_f7 left0 top0 right0 bottom0 left1 top1 right1 bottom1)) ∧ Fr n0 L ∧ h = h0
theorem d7_0 : decode prog_40_method_4_code 0 = .ok (.aload_n 1, 1) := by decide +kernel
theorem d7_1 : decode prog_40_method_4_code 1 = .ok (.instanceof 10, 3) := by decide +kernel
theorem d7_4 : decode prog_40_method_4_code 4 = .ok (.ifCond .eq 56, 3) := by decide +kernel
theorem d7_7 : decode prog_40_method_4_code 7 = .ok (.aload_n 1, 1) := by decide +kernel
theorem d7_8 : decode prog_40_method_4_code 8 = .ok (.checkcast 10, 3) := by decide +kernel
theorem d7_11 : decode prog_40_method_4_code 11 = .ok (.astore_n 2, 1) := by decide +kernel
theorem d7_12 : decode prog_40_method_4_code 12 = .ok (.aload_n 0, 1) := by decide +kernel
theorem d7_13 : decode prog_40_method_4_code 13 = .ok (.getfield 23, 3) := by decide +kernel
theorem d7_16 : decode prog_40_method_4_code 16 = .ok (.aload_n 2, 1) := by decide +kernel
theorem d7_17 : decode prog_40_method_4_code 17 = .ok (.getfield 23, 3) := by decide +kernel
theorem d7_20 : decode prog_40_method_4_code 20 = .ok (.if_icmp .ne 40, 3) := by decide +kernel
theorem d7_23 : decode prog_40_method_4_code 23 = .ok (.aload_n 0, 1) := by decide +kernel
theorem d7_24 : decode prog_40_method_4_code 24 = .ok (.getfield 27, 3) := by decide +kernel
theorem d7_27 : decode prog_40_method_4_code 27 = .ok (.aload_n 2, 1) := by decide +kernel
theorem d7_28 : decode prog_40_method_4_code 28 = .ok (.getfield 27, 3) := by decide +kernel
theorem d7_31 : decode prog_40_method_4_code 31 = .ok (.if_icmp .ne 29, 3) := by decide +kernel
theorem d7_34 : decode prog_40_method_4_code 34 = .ok (.aload_n 0, 1) := by decide +kernel
theorem d7_35 : decode prog_40_method_4_code 35 = .ok (.getfield 30, 3) := by decide +kernel
theorem d7_38 : decode prog_40_method_4_code 38 = .ok (.aload_n 2, 1) := by decide +kernel
theorem d7_39 : decode prog_40_method_4_code 39 = .ok (.getfield 30, 3) := by decide +kernel
theorem d7_42 : decode prog_40_method_4_code 42 = .ok (.if_icmp .ne 18, 3) := by decide +kernel
theorem d7_45 : decode prog_40_method_4_code 45 = .ok (.aload_n 0, 1) := by decide +kernel
theorem d7_46 : decode prog_40_method_4_code 46 = .ok (.getfield 33, 3) := by decide +kernel
theorem d7_49 : decode prog_40_method_4_code 49 = .ok (.aload_n 2, 1) := by decide +kernel
theorem d7_50 : decode prog_40_method_4_code 50 = .ok (.getfield 33, 3) := by decide +kernel
theorem d7_53 : decode prog_40_method_4_code 53 = .ok (.if_icmp .ne 7, 3) := by decide +kernel
theorem d7_56 : decode prog_40_method_4_code 56 = .ok (.iconst 1, 1) := by decide +kernel
theorem d7_57 : decode prog_40_method_4_code 57 = .ok (.goto 4, 3) := by decide +kernel
theorem d7_60 : decode prog_40_method_4_code 60 = .ok (.iconst 0, 1) := by decide +kernel
theorem d7_61 : decode prog_40_method_4_code 61 = .ok (.ireturn, 1) := by decide +kernel
theorem ef_7 (m : MethodId) (p0 : Addr) (p1 : Addr) : entryFrame m #[(.ref p0), (.ref p1)] 3 = mkF m 0 #[.val (.ref p0), .val (.ref p1), .unset] [] := by first | (simp [entryFrame, mkF, argsToLocals, Value.category]; done) | rfl
set_option maxRecDepth 65536 in
set_option maxHeartbeats 40000000 in
theorem rm7 (l : Launch) (Z : State) (a0 : Array Value) (hw : ∀ d ∈ tables_1, d.before a0 Z = true) (ws : List Jvm.Cond) (p0 : Addr) (p1 : Addr) (h0 : Heap) (n0 : Nat) (Z0 : n0 ≤ h0.size) (left0 : Int32) (top0 : Int32) (right0 : Int32) (bottom0 : Int32) (left1 : Int32) (top1 : Int32) (right1 : Int32) (bottom1 : Int32) (P0 : Fld Z h0 p0 "com/example/rondo/rondo/Rect" "left" "I" (.int left0)) (P1 : Fld Z h0 p0 "com/example/rondo/rondo/Rect" "top" "I" (.int top0)) (P2 : Fld Z h0 p0 "com/example/rondo/rondo/Rect" "right" "I" (.int right0)) (P3 : Fld Z h0 p0 "com/example/rondo/rondo/Rect" "bottom" "I" (.int bottom0)) (P4 : Fld Z h0 p1 "com/example/rondo/rondo/Rect" "left" "I" (.int left1)) (P5 : Fld Z h0 p1 "com/example/rondo/rondo/Rect" "top" "I" (.int top1)) (P6 : Fld Z h0 p1 "com/example/rondo/rondo/Rect" "right" "I" (.int right1)) (P7 : Fld Z h0 p1 "com/example/rondo/rondo/Rect" "bottom" "I" (.int bottom1)) (P8 : Exa Z h0 p1 "com/example/rondo/rondo/Rect") :
    MetFree l (⟨"com/example/rondo/rondo/Rect", "equals", "(Ljava/lang/Object;)Z"⟩ : MethodName) (head1 (Jvm.Cond.code (⟨"com/example/rondo/rondo/Rect", "equals", "(Ljava/lang/Object;)Z"⟩ : MethodName) prog_40_method_4_code 3 (some .boolean) :: ws) ({ frames := 0, cells := 0, slots := 0, locals := 0 } : Room)) (fun a U => a = #[(.ref p0), (.ref p1)] ∧ Z.Warmed39 U.vm ∧ U.heap = h0) (fun _ _ _ _ _ => True) (fun _ U o U' => ∃ v L, o = .returned v ∧ (own_Q7 Z p0 p1 left0 top0 right0 bottom0 left1 top1 right1 bottom1 h0 n0) v U'.heap L ∧ FrameEnd U o U' L ({ frames := 0, cells := 0, slots := 0, locals := 0 } : Room).cells ({ frames := 0, cells := 0, slots := 0, locals := 0 } : Room).slots) := by
  refine MetFree.of_bodySF (plainFor_of_name pn_com_example_rondo_rondo_Rect) hisR ?_
  intro p e s m args below meth c s₁ Bd hml0 hP hK
  obtain ⟨rfl, hZ, hh⟩ := hP
  have hx := Bd.exec
  have hby := Bd.bytes
  have hml : c.maxLocals = 3 := hml0
  have hown : s.vm.findClass "com/example/rondo/rondo/Rect" = some m.cls := findClass_of_methodNamed Bd.named
  have hnm := (name_of_methodNamed Bd.named Bd.method).1
  have X0 : Stand p l e ({ frames := 0, cells := 0, slots := 0, locals := 0 } : Room) s m #[(.ref p0), (.ref p1)] below meth c s₁ [] 0 0 := Stand.of_body Bd
  have e0 : s₁.heap = h0 := by rw [← hh, Bd.state]; rfl
  have N0 := Fr.nil n0
  refine own_body (QQ := (own_Q7 Z p0 p1 left0 top0 right0 bottom0 left1 top1 right1 bottom1 h0 n0)) (ef_7 m p0 p1) ?_
  refine own_via (s₁.setTop (mkF m 1 #[.val (.ref p0), .val (.ref p1), .unset] [(.ref p1)])) (fun t k => XS.aloadN X0.here hx rfl (hb hby d7_0) rfl rfl k) ?_
  obtain ⟨T77, X77, e77, st77⟩ := instY X0 hx hZ hown (hw _ (List.mem_of_getElem? (i := 41) rfl)) e0 (Ins.self P8) (g := (mkF m 1 #[.val (.ref p0), .val (.ref p1), .unset] [(.ref p1)])) rfl rfl (hb hby d7_1)
  refine own_via (T77.setTop (mkF m 4 #[.val (.ref p0), .val (.ref p1), .unset] [(.int (1 : Int32))])) (fun t k => st77 t k) ?_
  refine own_via (T77.setTop (mkF m 7 #[.val (.ref p0), .val (.ref p1), .unset] [])) (fun t k => XS.ifNo X77.here hx rfl (hb hby d7_4) rfl ((if0 _ _).trans (feq (by decide)).1) k) ?_
  refine own_via (T77.setTop (mkF m 8 #[.val (.ref p0), .val (.ref p1), .unset] [(.ref p1)])) (fun t k => XS.aloadN X77.here hx rfl (hb hby d7_7) rfl rfl k) ?_
  obtain ⟨T78, X78, e78, st78⟩ := castY X77 hx hZ hown (hw _ (List.mem_of_getElem? (i := 41) rfl)) e77 (Ins.self P8) (g := (mkF m 8 #[.val (.ref p0), .val (.ref p1), .unset] [(.ref p1)])) rfl rfl (hb hby d7_8)
  refine own_via (T78.setTop (mkF m 11 #[.val (.ref p0), .val (.ref p1), .unset] [(.ref p1)])) (fun t k => st78 t k) ?_
  refine own_via (T78.setTop (mkF m 12 #[.val (.ref p0), .val (.ref p1), .val (.ref p1)] [])) (fun t k => XS.astoreN X78.here hx rfl (hb hby d7_11) rfl rfl (l' := #[.val (.ref p0), .val (.ref p1), .val (.ref p1)]) rfl k) ?_
  refine own_via (T78.setTop (mkF m 13 #[.val (.ref p0), .val (.ref p1), .val (.ref p1)] [(.ref p0)])) (fun t k => XS.aloadN X78.here hx rfl (hb hby d7_12) rfl rfl k) ?_
  obtain ⟨T79, X79, e79, st79⟩ := getF X78 hx hZ hown (host := "") (Or.inl (hw _ (List.mem_of_getElem? (i := 16) rfl))) Via.refl e78 P0 (g := (mkF m 13 #[.val (.ref p0), .val (.ref p1), .val (.ref p1)] [(.ref p0)])) rfl rfl (hb hby d7_13)
  refine own_via (T79.setTop (mkF m 16 #[.val (.ref p0), .val (.ref p1), .val (.ref p1)] [(.int left0)])) (fun t k => st79 t k) ?_
  refine own_via (T79.setTop (mkF m 17 #[.val (.ref p0), .val (.ref p1), .val (.ref p1)] [(.ref p1), (.int left0)])) (fun t k => XS.aloadN X79.here hx rfl (hb hby d7_16) rfl rfl k) ?_
  obtain ⟨T80, X80, e80, st80⟩ := getF X79 hx hZ hown (host := "") (Or.inl (hw _ (List.mem_of_getElem? (i := 16) rfl))) Via.refl e79 P4 (g := (mkF m 17 #[.val (.ref p0), .val (.ref p1), .val (.ref p1)] [(.ref p1), (.int left0)])) rfl rfl (hb hby d7_17)
  refine own_via (T80.setTop (mkF m 20 #[.val (.ref p0), .val (.ref p1), .val (.ref p1)] [(.int left1), (.int left0)])) (fun t k => st80 t k) ?_
  by_cases hc20_81 : left0 = left1
  · refine own_via (T80.setTop (mkF m 23 #[.val (.ref p0), .val (.ref p1), .val (.ref p1)] [])) (fun t k => XS.icmpNo X80.here hx rfl (hb hby d7_20) rfl (teq hc20_81).2 k) ?_
    refine own_via (T80.setTop (mkF m 24 #[.val (.ref p0), .val (.ref p1), .val (.ref p1)] [(.ref p0)])) (fun t k => XS.aloadN X80.here hx rfl (hb hby d7_23) rfl rfl k) ?_
    obtain ⟨T82, X82, e82, st82⟩ := getF X80 hx hZ hown (host := "") (Or.inl (hw _ (List.mem_of_getElem? (i := 18) rfl))) Via.refl e80 P1 (g := (mkF m 24 #[.val (.ref p0), .val (.ref p1), .val (.ref p1)] [(.ref p0)])) rfl rfl (hb hby d7_24)
    refine own_via (T82.setTop (mkF m 27 #[.val (.ref p0), .val (.ref p1), .val (.ref p1)] [(.int top0)])) (fun t k => st82 t k) ?_
    refine own_via (T82.setTop (mkF m 28 #[.val (.ref p0), .val (.ref p1), .val (.ref p1)] [(.ref p1), (.int top0)])) (fun t k => XS.aloadN X82.here hx rfl (hb hby d7_27) rfl rfl k) ?_
    obtain ⟨T83, X83, e83, st83⟩ := getF X82 hx hZ hown (host := "") (Or.inl (hw _ (List.mem_of_getElem? (i := 18) rfl))) Via.refl e82 P5 (g := (mkF m 28 #[.val (.ref p0), .val (.ref p1), .val (.ref p1)] [(.ref p1), (.int top0)])) rfl rfl (hb hby d7_28)
    refine own_via (T83.setTop (mkF m 31 #[.val (.ref p0), .val (.ref p1), .val (.ref p1)] [(.int top1), (.int top0)])) (fun t k => st83 t k) ?_
    by_cases hc31_84 : top0 = top1
    · refine own_via (T83.setTop (mkF m 34 #[.val (.ref p0), .val (.ref p1), .val (.ref p1)] [])) (fun t k => XS.icmpNo X83.here hx rfl (hb hby d7_31) rfl (teq hc31_84).2 k) ?_
      refine own_via (T83.setTop (mkF m 35 #[.val (.ref p0), .val (.ref p1), .val (.ref p1)] [(.ref p0)])) (fun t k => XS.aloadN X83.here hx rfl (hb hby d7_34) rfl rfl k) ?_
      obtain ⟨T85, X85, e85, st85⟩ := getF X83 hx hZ hown (host := "") (Or.inl (hw _ (List.mem_of_getElem? (i := 20) rfl))) Via.refl e83 P2 (g := (mkF m 35 #[.val (.ref p0), .val (.ref p1), .val (.ref p1)] [(.ref p0)])) rfl rfl (hb hby d7_35)
      refine own_via (T85.setTop (mkF m 38 #[.val (.ref p0), .val (.ref p1), .val (.ref p1)] [(.int right0)])) (fun t k => st85 t k) ?_
      refine own_via (T85.setTop (mkF m 39 #[.val (.ref p0), .val (.ref p1), .val (.ref p1)] [(.ref p1), (.int right0)])) (fun t k => XS.aloadN X85.here hx rfl (hb hby d7_38) rfl rfl k) ?_
      obtain ⟨T86, X86, e86, st86⟩ := getF X85 hx hZ hown (host := "") (Or.inl (hw _ (List.mem_of_getElem? (i := 20) rfl))) Via.refl e85 P6 (g := (mkF m 39 #[.val (.ref p0), .val (.ref p1), .val (.ref p1)] [(.ref p1), (.int right0)])) rfl rfl (hb hby d7_39)
      refine own_via (T86.setTop (mkF m 42 #[.val (.ref p0), .val (.ref p1), .val (.ref p1)] [(.int right1), (.int right0)])) (fun t k => st86 t k) ?_
      by_cases hc42_87 : right0 = right1
      · refine own_via (T86.setTop (mkF m 45 #[.val (.ref p0), .val (.ref p1), .val (.ref p1)] [])) (fun t k => XS.icmpNo X86.here hx rfl (hb hby d7_42) rfl (teq hc42_87).2 k) ?_
        refine own_via (T86.setTop (mkF m 46 #[.val (.ref p0), .val (.ref p1), .val (.ref p1)] [(.ref p0)])) (fun t k => XS.aloadN X86.here hx rfl (hb hby d7_45) rfl rfl k) ?_
        obtain ⟨T88, X88, e88, st88⟩ := getF X86 hx hZ hown (host := "") (Or.inl (hw _ (List.mem_of_getElem? (i := 22) rfl))) Via.refl e86 P3 (g := (mkF m 46 #[.val (.ref p0), .val (.ref p1), .val (.ref p1)] [(.ref p0)])) rfl rfl (hb hby d7_46)
        refine own_via (T88.setTop (mkF m 49 #[.val (.ref p0), .val (.ref p1), .val (.ref p1)] [(.int bottom0)])) (fun t k => st88 t k) ?_
        refine own_via (T88.setTop (mkF m 50 #[.val (.ref p0), .val (.ref p1), .val (.ref p1)] [(.ref p1), (.int bottom0)])) (fun t k => XS.aloadN X88.here hx rfl (hb hby d7_49) rfl rfl k) ?_
        obtain ⟨T89, X89, e89, st89⟩ := getF X88 hx hZ hown (host := "") (Or.inl (hw _ (List.mem_of_getElem? (i := 22) rfl))) Via.refl e88 P7 (g := (mkF m 50 #[.val (.ref p0), .val (.ref p1), .val (.ref p1)] [(.ref p1), (.int bottom0)])) rfl rfl (hb hby d7_50)
        refine own_via (T89.setTop (mkF m 53 #[.val (.ref p0), .val (.ref p1), .val (.ref p1)] [(.int bottom1), (.int bottom0)])) (fun t k => st89 t k) ?_
        by_cases hc53_90 : bottom0 = bottom1
        · refine own_via (T89.setTop (mkF m 56 #[.val (.ref p0), .val (.ref p1), .val (.ref p1)] [])) (fun t k => XS.icmpNo X89.here hx rfl (hb hby d7_53) rfl (teq hc53_90).2 k) ?_
          refine own_via (T89.setTop (mkF m 57 #[.val (.ref p0), .val (.ref p1), .val (.ref p1)] [(.int (1 : Int32))])) (fun t k => XS.iconst X89.here hx rfl (hb hby d7_56) k) ?_
          refine own_via (T89.setTop (mkF m 61 #[.val (.ref p0), .val (.ref p1), .val (.ref p1)] [(.int (1 : Int32))])) (fun t k => XS.goto X89.here hx rfl (pc0 := 57) (pc' := 61) rfl (hb hby d7_57) (by decide) (by decide) k) ?_
          refine own_leave X89 Bd.notSynchronized (v := some (.int (1 : Int32))) (fun h => by rw [Bd.returns] at h; cases h) (fun fs hr => retN X89 hx (t := .boolean) Bd.returns (by simp) (hb hby d7_61) hr) ?_ (by decide) (by decide)
          exact ⟨(by show some (Value.int _) = some (Value.int _); unfold own_f7; rw [if_pos hc20_81, if_pos hc31_84, if_pos hc42_87, if_pos hc53_90]), N0, e89⟩
        · refine own_via (T89.setTop (mkF m 60 #[.val (.ref p0), .val (.ref p1), .val (.ref p1)] [])) (fun t k => XS.icmpYes X89.here hx rfl (pc0 := 53) (pc' := 60) rfl (hb hby d7_53) rfl (feq hc53_90).2 (by decide) (by decide) k) ?_
          refine own_via (T89.setTop (mkF m 61 #[.val (.ref p0), .val (.ref p1), .val (.ref p1)] [(.int (0 : Int32))])) (fun t k => XS.iconst X89.here hx rfl (hb hby d7_60) k) ?_
          refine own_leave X89 Bd.notSynchronized (v := some (.int (0 : Int32))) (fun h => by rw [Bd.returns] at h; cases h) (fun fs hr => retN X89 hx (t := .boolean) Bd.returns (by simp) (hb hby d7_61) hr) ?_ (by decide) (by decide)
          exact ⟨(by show some (Value.int _) = some (Value.int _); unfold own_f7; rw [if_pos hc20_81, if_pos hc31_84, if_pos hc42_87, if_neg hc53_90]), N0, e89⟩
      · refine own_via (T86.setTop (mkF m 60 #[.val (.ref p0), .val (.ref p1), .val (.ref p1)] [])) (fun t k => XS.icmpYes X86.here hx rfl (pc0 := 42) (pc' := 60) rfl (hb hby d7_42) rfl (feq hc42_87).2 (by decide) (by decide) k) ?_
        refine own_via (T86.setTop (mkF m 61 #[.val (.ref p0), .val (.ref p1), .val (.ref p1)] [(.int (0 : Int32))])) (fun t k => XS.iconst X86.here hx rfl (hb hby d7_60) k) ?_
        refine own_leave X86 Bd.notSynchronized (v := some (.int (0 : Int32))) (fun h => by rw [Bd.returns] at h; cases h) (fun fs hr => retN X86 hx (t := .boolean) Bd.returns (by simp) (hb hby d7_61) hr) ?_ (by decide) (by decide)
        exact ⟨(by show some (Value.int _) = some (Value.int _); unfold own_f7; rw [if_pos hc20_81, if_pos hc31_84, if_neg hc42_87]), N0, e86⟩
    · refine own_via (T83.setTop (mkF m 60 #[.val (.ref p0), .val (.ref p1), .val (.ref p1)] [])) (fun t k => XS.icmpYes X83.here hx rfl (pc0 := 31) (pc' := 60) rfl (hb hby d7_31) rfl (feq hc31_84).2 (by decide) (by decide) k) ?_
      refine own_via (T83.setTop (mkF m 61 #[.val (.ref p0), .val (.ref p1), .val (.ref p1)] [(.int (0 : Int32))])) (fun t k => XS.iconst X83.here hx rfl (hb hby d7_60) k) ?_
      refine own_leave X83 Bd.notSynchronized (v := some (.int (0 : Int32))) (fun h => by rw [Bd.returns] at h; cases h) (fun fs hr => retN X83 hx (t := .boolean) Bd.returns (by simp) (hb hby d7_61) hr) ?_ (by decide) (by decide)
      exact ⟨(by show some (Value.int _) = some (Value.int _); unfold own_f7; rw [if_pos hc20_81, if_neg hc31_84]), N0, e83⟩
  · refine own_via (T80.setTop (mkF m 60 #[.val (.ref p0), .val (.ref p1), .val (.ref p1)] [])) (fun t k => XS.icmpYes X80.here hx rfl (pc0 := 20) (pc' := 60) rfl (hb hby d7_20) rfl (feq hc20_81).2 (by decide) (by decide) k) ?_
    refine own_via (T80.setTop (mkF m 61 #[.val (.ref p0), .val (.ref p1), .val (.ref p1)] [(.int (0 : Int32))])) (fun t k => XS.iconst X80.here hx rfl (hb hby d7_60) k) ?_
    refine own_leave X80 Bd.notSynchronized (v := some (.int (0 : Int32))) (fun h => by rw [Bd.returns] at h; cases h) (fun fs hr => retN X80 hx (t := .boolean) Bd.returns (by simp) (hb hby d7_61) hr) ?_ (by decide) (by decide)
    exact ⟨(by show some (Value.int _) = some (Value.int _); unfold own_f7; rw [if_neg hc20_81]), N0, e80⟩
def own_Q7n (Z : State) (p0 : Addr)  (h0 : Heap) (n0 : Nat) (v : Option Value) (h : Heap) (L : List Loc) : Prop := v = some (.int (0 : Int32)) ∧ Fr n0 L ∧ h = h0
theorem ef_7n (m : MethodId) (p0 : Addr) : entryFrame m #[(.ref p0), .null] 3 = mkF m 0 #[.val (.ref p0), .val .null, .unset] [] := by first | (simp [entryFrame, mkF, argsToLocals, Value.category]; done) | rfl
set_option maxRecDepth 65536 in
set_option maxHeartbeats 40000000 in
theorem rm7n (l : Launch) (Z : State) (a0 : Array Value) (hw : ∀ d ∈ tables_1, d.before a0 Z = true) (ws : List Jvm.Cond) (p0 : Addr) (h0 : Heap) (n0 : Nat) (Z0 : n0 ≤ h0.size)  :
    MetFree l (⟨"com/example/rondo/rondo/Rect", "equals", "(Ljava/lang/Object;)Z"⟩ : MethodName) (head1 (Jvm.Cond.code (⟨"com/example/rondo/rondo/Rect", "equals", "(Ljava/lang/Object;)Z"⟩ : MethodName) prog_40_method_4_code 3 (some .boolean) :: ws) ({ frames := 0, cells := 0, slots := 0, locals := 0 } : Room)) (fun a U => a = #[(.ref p0), .null] ∧ Z.Warmed39 U.vm ∧ U.heap = h0) (fun _ _ _ _ _ => True) (fun _ U o U' => ∃ v L, o = .returned v ∧ (own_Q7n Z p0  h0 n0) v U'.heap L ∧ FrameEnd U o U' L ({ frames := 0, cells := 0, slots := 0, locals := 0 } : Room).cells ({ frames := 0, cells := 0, slots := 0, locals := 0 } : Room).slots) := by
  refine MetFree.of_bodySF (plainFor_of_name pn_com_example_rondo_rondo_Rect) hisR ?_
  intro p e s m args below meth c s₁ Bd hml0 hP hK
  obtain ⟨rfl, hZ, hh⟩ := hP
  have hx := Bd.exec
  have hby := Bd.bytes
  have hml : c.maxLocals = 3 := hml0
  have hown : s.vm.findClass "com/example/rondo/rondo/Rect" = some m.cls := findClass_of_methodNamed Bd.named
  have hnm := (name_of_methodNamed Bd.named Bd.method).1
  have X0 : Stand p l e ({ frames := 0, cells := 0, slots := 0, locals := 0 } : Room) s m #[(.ref p0), .null] below meth c s₁ [] 0 0 := Stand.of_body Bd
  have e0 : s₁.heap = h0 := by rw [← hh, Bd.state]; rfl
  have N0 := Fr.nil n0
  refine own_body (QQ := (own_Q7n Z p0  h0 n0)) (ef_7n m p0) ?_
  refine own_via (s₁.setTop (mkF m 1 #[.val (.ref p0), .val .null, .unset] [.null])) (fun t k => XS.aloadN X0.here hx rfl (hb hby d7_0) rfl rfl k) ?_
  refine own_via (s₁.setTop (mkF m 4 #[.val (.ref p0), .val .null, .unset] [(.int (0 : Int32))])) (fun t k => X0.instanceofNull hx (g := (mkF m 1 #[.val (.ref p0), .val .null, .unset] [.null])) rfl rfl (hb hby d7_1) _ k) ?_
  refine own_via (s₁.setTop (mkF m 60 #[.val (.ref p0), .val .null, .unset] [])) (fun t k => XS.ifYes X0.here hx rfl (pc0 := 4) (pc' := 60) rfl (hb hby d7_4) rfl ((if0 _ _).trans (teq (by decide)).1) (by decide) (by decide) k) ?_
  refine own_via (s₁.setTop (mkF m 61 #[.val (.ref p0), .val .null, .unset] [(.int (0 : Int32))])) (fun t k => XS.iconst X0.here hx rfl (hb hby d7_60) k) ?_
  refine own_leave X0 Bd.notSynchronized (v := some (.int (0 : Int32))) (fun h => by rw [Bd.returns] at h; cases h) (fun fs hr => retN X0 hx (t := .boolean) Bd.returns (by simp) (hb hby d7_61) hr) ?_ (by decide) (by decide)
  exact ⟨rfl, N0, e0⟩
def own_Q7i (Z : State) (p0 : Addr) (p1 : Addr)  (h0 : Heap) (n0 : Nat) (v : Option Value) (h : Heap) (L : List Loc) : Prop := v = some (.int (0 : Int32)) ∧ Fr n0 L ∧ h = h0
theorem ef_7i (m : MethodId) (p0 : Addr) (p1 : Addr) : entryFrame m #[(.ref p0), (.ref p1)] 3 = mkF m 0 #[.val (.ref p0), .val (.ref p1), .unset] [] := by first | (simp [entryFrame, mkF, argsToLocals, Value.category]; done) | rfl
set_option maxRecDepth 65536 in
set_option maxHeartbeats 40000000 in
theorem rm7i (l : Launch) (Z : State) (a0 : Array Value) (hw : ∀ d ∈ tables_1, d.before a0 Z = true) (ws : List Jvm.Cond) (p0 : Addr) (p1 : Addr) (h0 : Heap) (n0 : Nat) (Z0 : n0 ≤ h0.size) (P0 : Exa Z h0 p1 "java/lang/Integer") (hno : ∃ c t, Z.vm.findClass "java/lang/Integer" = some c ∧ Z.vm.findClass "com/example/rondo/rondo/Rect" = some t ∧ Z.vm.assignable c t = false) :
    MetFree l (⟨"com/example/rondo/rondo/Rect", "equals", "(Ljava/lang/Object;)Z"⟩ : MethodName) (head1 (Jvm.Cond.code (⟨"com/example/rondo/rondo/Rect", "equals", "(Ljava/lang/Object;)Z"⟩ : MethodName) prog_40_method_4_code 3 (some .boolean) :: ws) ({ frames := 0, cells := 0, slots := 0, locals := 0 } : Room)) (fun a U => a = #[(.ref p0), (.ref p1)] ∧ Z.Warmed39 U.vm ∧ U.heap = h0) (fun _ _ _ _ _ => True) (fun _ U o U' => ∃ v L, o = .returned v ∧ (own_Q7i Z p0 p1  h0 n0) v U'.heap L ∧ FrameEnd U o U' L ({ frames := 0, cells := 0, slots := 0, locals := 0 } : Room).cells ({ frames := 0, cells := 0, slots := 0, locals := 0 } : Room).slots) := by
  refine MetFree.of_bodySF (plainFor_of_name pn_com_example_rondo_rondo_Rect) hisR ?_
  intro p e s m args below meth c s₁ Bd hml0 hP hK
  obtain ⟨rfl, hZ, hh⟩ := hP
  have hx := Bd.exec
  have hby := Bd.bytes
  have hml : c.maxLocals = 3 := hml0
  have hown : s.vm.findClass "com/example/rondo/rondo/Rect" = some m.cls := findClass_of_methodNamed Bd.named
  have hnm := (name_of_methodNamed Bd.named Bd.method).1
  have X0 : Stand p l e ({ frames := 0, cells := 0, slots := 0, locals := 0 } : Room) s m #[(.ref p0), (.ref p1)] below meth c s₁ [] 0 0 := Stand.of_body Bd
  have e0 : s₁.heap = h0 := by rw [← hh, Bd.state]; rfl
  have N0 := Fr.nil n0
  refine own_body (QQ := (own_Q7i Z p0 p1  h0 n0)) (ef_7i m p0 p1) ?_
  refine own_via (s₁.setTop (mkF m 1 #[.val (.ref p0), .val (.ref p1), .unset] [(.ref p1)])) (fun t k => XS.aloadN X0.here hx rfl (hb hby d7_0) rfl rfl k) ?_
  obtain ⟨T92, X92, e92, st92⟩ := instNo X0 hx hZ hown (hw _ (List.mem_of_getElem? (i := 41) rfl)) e0 P0 hno (g := (mkF m 1 #[.val (.ref p0), .val (.ref p1), .unset] [(.ref p1)])) rfl rfl (hb hby d7_1)
  refine own_via (T92.setTop (mkF m 4 #[.val (.ref p0), .val (.ref p1), .unset] [(.int (0 : Int32))])) (fun t k => st92 t k) ?_
  refine own_via (T92.setTop (mkF m 60 #[.val (.ref p0), .val (.ref p1), .unset] [])) (fun t k => XS.ifYes X92.here hx rfl (pc0 := 4) (pc' := 60) rfl (hb hby d7_4) rfl ((if0 _ _).trans (teq (by decide)).1) (by decide) (by decide) k) ?_
  refine own_via (T92.setTop (mkF m 61 #[.val (.ref p0), .val (.ref p1), .unset] [(.int (0 : Int32))])) (fun t k => XS.iconst X92.here hx rfl (hb hby d7_60) k) ?_
  refine own_leave X92 Bd.notSynchronized (v := some (.int (0 : Int32))) (fun h => by rw [Bd.returns] at h; cases h) (fun fs hr => retN X92 hx (t := .boolean) Bd.returns (by simp) (hb hby d7_61) hr) ?_ (by decide) (by decide)
  exact ⟨rfl, N0, e92⟩
def own_f8 (left0 : Int32) (top0 : Int32) (right0 : Int32) (bottom0 : Int32) : Int32 := (((31 : Int32) * (((31 : Int32) * (((31 : Int32) * left0) + top0)) + right0)) + bottom0)
def own_Q8 (Z : State) (p0 : Addr) (left0 : Int32) (top0 : Int32) (right0 : Int32) (bottom0 : Int32) (h0 : Heap) (n0 : Nat) (v : Option Value) (h : Heap) (L : List Loc) : Prop := v = some (.int (own_f8 left0 top0 right0 bottom0)) ∧ Fr n0 L ∧ h = h0
theorem d8_0 : decode prog_40_method_5_code 0 = .ok (.bipush 31, 2) := by decide +kernel
theorem d8_2 : decode prog_40_method_5_code 2 = .ok (.bipush 31, 2) := by decide +kernel
theorem d8_4 : decode prog_40_method_5_code 4 = .ok (.bipush 31, 2) := by decide +kernel
theorem d8_6 : decode prog_40_method_5_code 6 = .ok (.aload_n 0, 1) := by decide +kernel
theorem d8_7 : decode prog_40_method_5_code 7 = .ok (.getfield 23, 3) := by decide +kernel
theorem d8_10 : decode prog_40_method_5_code 10 = .ok (.imul, 1) := by decide +kernel
theorem d8_11 : decode prog_40_method_5_code 11 = .ok (.aload_n 0, 1) := by decide +kernel
theorem d8_12 : decode prog_40_method_5_code 12 = .ok (.getfield 27, 3) := by decide +kernel
theorem d8_15 : decode prog_40_method_5_code 15 = .ok (.iadd, 1) := by decide +kernel
theorem d8_16 : decode prog_40_method_5_code 16 = .ok (.imul, 1) := by decide +kernel
theorem d8_17 : decode prog_40_method_5_code 17 = .ok (.aload_n 0, 1) := by decide +kernel
theorem d8_18 : decode prog_40_method_5_code 18 = .ok (.getfield 30, 3) := by decide +kernel
theorem d8_21 : decode prog_40_method_5_code 21 = .ok (.iadd, 1) := by decide +kernel
theorem d8_22 : decode prog_40_method_5_code 22 = .ok (.imul, 1) := by decide +kernel
theorem d8_23 : decode prog_40_method_5_code 23 = .ok (.aload_n 0, 1) := by decide +kernel
theorem d8_24 : decode prog_40_method_5_code 24 = .ok (.getfield 33, 3) := by decide +kernel
theorem d8_27 : decode prog_40_method_5_code 27 = .ok (.iadd, 1) := by decide +kernel
theorem d8_28 : decode prog_40_method_5_code 28 = .ok (.ireturn, 1) := by decide +kernel
theorem ef_8 (m : MethodId) (p0 : Addr) : entryFrame m #[(.ref p0)] 1 = mkF m 0 #[.val (.ref p0)] [] := by first | (simp [entryFrame, mkF, argsToLocals, Value.category]; done) | rfl
set_option maxRecDepth 65536 in
set_option maxHeartbeats 40000000 in
theorem rm8 (l : Launch) (Z : State) (a0 : Array Value) (hw : ∀ d ∈ tables_1, d.before a0 Z = true) (ws : List Jvm.Cond) (p0 : Addr) (h0 : Heap) (n0 : Nat) (Z0 : n0 ≤ h0.size) (left0 : Int32) (top0 : Int32) (right0 : Int32) (bottom0 : Int32) (P0 : Fld Z h0 p0 "com/example/rondo/rondo/Rect" "left" "I" (.int left0)) (P1 : Fld Z h0 p0 "com/example/rondo/rondo/Rect" "top" "I" (.int top0)) (P2 : Fld Z h0 p0 "com/example/rondo/rondo/Rect" "right" "I" (.int right0)) (P3 : Fld Z h0 p0 "com/example/rondo/rondo/Rect" "bottom" "I" (.int bottom0)) :
    MetFree l (⟨"com/example/rondo/rondo/Rect", "hashCode", "()I"⟩ : MethodName) (head1 (Jvm.Cond.code (⟨"com/example/rondo/rondo/Rect", "hashCode", "()I"⟩ : MethodName) prog_40_method_5_code 1 (some .int) :: ws) ({ frames := 0, cells := 0, slots := 0, locals := 0 } : Room)) (fun a U => a = #[(.ref p0)] ∧ Z.Warmed39 U.vm ∧ U.heap = h0) (fun _ _ _ _ _ => True) (fun _ U o U' => ∃ v L, o = .returned v ∧ (own_Q8 Z p0 left0 top0 right0 bottom0 h0 n0) v U'.heap L ∧ FrameEnd U o U' L ({ frames := 0, cells := 0, slots := 0, locals := 0 } : Room).cells ({ frames := 0, cells := 0, slots := 0, locals := 0 } : Room).slots) := by
  refine MetFree.of_bodySF (plainFor_of_name pn_com_example_rondo_rondo_Rect) hisR ?_
  intro p e s m args below meth c s₁ Bd hml0 hP hK
  obtain ⟨rfl, hZ, hh⟩ := hP
  have hx := Bd.exec
  have hby := Bd.bytes
  have hml : c.maxLocals = 1 := hml0
  have hown : s.vm.findClass "com/example/rondo/rondo/Rect" = some m.cls := findClass_of_methodNamed Bd.named
  have hnm := (name_of_methodNamed Bd.named Bd.method).1
  have X0 : Stand p l e ({ frames := 0, cells := 0, slots := 0, locals := 0 } : Room) s m #[(.ref p0)] below meth c s₁ [] 0 0 := Stand.of_body Bd
  have e0 : s₁.heap = h0 := by rw [← hh, Bd.state]; rfl
  have N0 := Fr.nil n0
  refine own_body (QQ := (own_Q8 Z p0 left0 top0 right0 bottom0 h0 n0)) (ef_8 m p0) ?_
  refine own_via (s₁.setTop (mkF m 2 #[.val (.ref p0)] [(.int (31 : Int32))])) (fun t k => XS.bipush X0.here hx rfl (hb hby d8_0) k) ?_
  refine own_via (s₁.setTop (mkF m 4 #[.val (.ref p0)] [(.int (31 : Int32)), (.int (31 : Int32))])) (fun t k => XS.bipush X0.here hx rfl (hb hby d8_2) k) ?_
  refine own_via (s₁.setTop (mkF m 6 #[.val (.ref p0)] [(.int (31 : Int32)), (.int (31 : Int32)), (.int (31 : Int32))])) (fun t k => XS.bipush X0.here hx rfl (hb hby d8_4) k) ?_
  refine own_via (s₁.setTop (mkF m 7 #[.val (.ref p0)] [(.ref p0), (.int (31 : Int32)), (.int (31 : Int32)), (.int (31 : Int32))])) (fun t k => XS.aloadN X0.here hx rfl (hb hby d8_6) rfl rfl k) ?_
  obtain ⟨T97, X97, e97, st97⟩ := getF X0 hx hZ hown (host := "") (Or.inl (hw _ (List.mem_of_getElem? (i := 16) rfl))) Via.refl e0 P0 (g := (mkF m 7 #[.val (.ref p0)] [(.ref p0), (.int (31 : Int32)), (.int (31 : Int32)), (.int (31 : Int32))])) rfl rfl (hb hby d8_7)
  refine own_via (T97.setTop (mkF m 10 #[.val (.ref p0)] [(.int left0), (.int (31 : Int32)), (.int (31 : Int32)), (.int (31 : Int32))])) (fun t k => st97 t k) ?_
  refine own_via (T97.setTop (mkF m 11 #[.val (.ref p0)] [(.int ((31 : Int32) * left0)), (.int (31 : Int32)), (.int (31 : Int32))])) (fun t k => XS.imul X97.here hx rfl (hb hby d8_10) rfl k) ?_
  refine own_via (T97.setTop (mkF m 12 #[.val (.ref p0)] [(.ref p0), (.int ((31 : Int32) * left0)), (.int (31 : Int32)), (.int (31 : Int32))])) (fun t k => XS.aloadN X97.here hx rfl (hb hby d8_11) rfl rfl k) ?_
  obtain ⟨T98, X98, e98, st98⟩ := getF X97 hx hZ hown (host := "") (Or.inl (hw _ (List.mem_of_getElem? (i := 18) rfl))) Via.refl e97 P1 (g := (mkF m 12 #[.val (.ref p0)] [(.ref p0), (.int ((31 : Int32) * left0)), (.int (31 : Int32)), (.int (31 : Int32))])) rfl rfl (hb hby d8_12)
  refine own_via (T98.setTop (mkF m 15 #[.val (.ref p0)] [(.int top0), (.int ((31 : Int32) * left0)), (.int (31 : Int32)), (.int (31 : Int32))])) (fun t k => st98 t k) ?_
  refine own_via (T98.setTop (mkF m 16 #[.val (.ref p0)] [(.int (((31 : Int32) * left0) + top0)), (.int (31 : Int32)), (.int (31 : Int32))])) (fun t k => XS.iadd X98.here hx rfl (hb hby d8_15) rfl k) ?_
  refine own_via (T98.setTop (mkF m 17 #[.val (.ref p0)] [(.int ((31 : Int32) * (((31 : Int32) * left0) + top0))), (.int (31 : Int32))])) (fun t k => XS.imul X98.here hx rfl (hb hby d8_16) rfl k) ?_
  refine own_via (T98.setTop (mkF m 18 #[.val (.ref p0)] [(.ref p0), (.int ((31 : Int32) * (((31 : Int32) * left0) + top0))), (.int (31 : Int32))])) (fun t k => XS.aloadN X98.here hx rfl (hb hby d8_17) rfl rfl k) ?_
  obtain ⟨T99, X99, e99, st99⟩ := getF X98 hx hZ hown (host := "") (Or.inl (hw _ (List.mem_of_getElem? (i := 20) rfl))) Via.refl e98 P2 (g := (mkF m 18 #[.val (.ref p0)] [(.ref p0), (.int ((31 : Int32) * (((31 : Int32) * left0) + top0))), (.int (31 : Int32))])) rfl rfl (hb hby d8_18)
  refine own_via (T99.setTop (mkF m 21 #[.val (.ref p0)] [(.int right0), (.int ((31 : Int32) * (((31 : Int32) * left0) + top0))), (.int (31 : Int32))])) (fun t k => st99 t k) ?_
  refine own_via (T99.setTop (mkF m 22 #[.val (.ref p0)] [(.int (((31 : Int32) * (((31 : Int32) * left0) + top0)) + right0)), (.int (31 : Int32))])) (fun t k => XS.iadd X99.here hx rfl (hb hby d8_21) rfl k) ?_
  refine own_via (T99.setTop (mkF m 23 #[.val (.ref p0)] [(.int ((31 : Int32) * (((31 : Int32) * (((31 : Int32) * left0) + top0)) + right0)))])) (fun t k => XS.imul X99.here hx rfl (hb hby d8_22) rfl k) ?_
  refine own_via (T99.setTop (mkF m 24 #[.val (.ref p0)] [(.ref p0), (.int ((31 : Int32) * (((31 : Int32) * (((31 : Int32) * left0) + top0)) + right0)))])) (fun t k => XS.aloadN X99.here hx rfl (hb hby d8_23) rfl rfl k) ?_
  obtain ⟨T100, X100, e100, st100⟩ := getF X99 hx hZ hown (host := "") (Or.inl (hw _ (List.mem_of_getElem? (i := 22) rfl))) Via.refl e99 P3 (g := (mkF m 24 #[.val (.ref p0)] [(.ref p0), (.int ((31 : Int32) * (((31 : Int32) * (((31 : Int32) * left0) + top0)) + right0)))])) rfl rfl (hb hby d8_24)
  refine own_via (T100.setTop (mkF m 27 #[.val (.ref p0)] [(.int bottom0), (.int ((31 : Int32) * (((31 : Int32) * (((31 : Int32) * left0) + top0)) + right0)))])) (fun t k => st100 t k) ?_
  refine own_via (T100.setTop (mkF m 28 #[.val (.ref p0)] [(.int (((31 : Int32) * (((31 : Int32) * (((31 : Int32) * left0) + top0)) + right0)) + bottom0))])) (fun t k => XS.iadd X100.here hx rfl (hb hby d8_27) rfl k) ?_
  refine own_leave X100 Bd.notSynchronized (v := some (.int (((31 : Int32) * (((31 : Int32) * (((31 : Int32) * left0) + top0)) + right0)) + bottom0))) (fun h => by rw [Bd.returns] at h; cases h) (fun fs hr => retI X100 hx Bd.returns (hb hby d8_28) hr) ?_ (by decide) (by decide)
  exact ⟨(by show some (Value.int _) = some (Value.int _); unfold own_f8; rfl), N0, e100⟩
theorem own_mm (a b : Int32) : ¬ (own_f2 a b) < (own_f1 a b) := by
  unfold own_f1 own_f2
  simp only [Int32.lt_iff_toInt_lt]
  repeat' split
  all_goals omega
theorem own_self7 (l t r b : Int32) : ¬ own_f7 l t r b l t r b = 0 := by
  unfold own_f7
  simp
theorem own_eq7 (l t r b l' t' r' b' : Int32) : own_f7 l t r b l' t' r' b' = if own_f6 l t r b l' t' r' b' = 0 then 0 else if own_f6 l' t' r' b' l t r b = 0 then 0 else 1 := by
  unfold own_f7 own_f6
  simp only [Int32.lt_iff_toInt_lt, ← Int32.toInt_inj (x := l), ← Int32.toInt_inj (x := t), ← Int32.toInt_inj (x := r), ← Int32.toInt_inj (x := b)]
  generalize l.toInt = l1; generalize t.toInt = t1; generalize r.toInt = r1; generalize b.toInt = b1
  generalize l'.toInt = l2; generalize t'.toInt = t2; generalize r'.toInt = r2; generalize b'.toInt = b2
  have e : ¬ (1 : Int32) = 0 := by decide
  by_cases h1 : l1 = l2 <;> by_cases h2 : t1 = t2 <;> by_cases h3 : r1 = r2 <;> by_cases h4 : b1 = b2 <;> simp [h1, h2, h3, h4] <;> (repeat' split) <;> first | rfl | omega | (simp_all; done) | (exfalso; simp_all; omega)
theorem own_eq7s (l t r b l' t' r' b' : Int32) : own_f7 l' t' r' b' l t r b = own_f7 l t r b l' t' r' b' := by
  unfold own_f7
  simp only [eq_comm (a := l), eq_comm (a := t), eq_comm (a := r), eq_comm (a := b)]
theorem own_ab0 {l t r b l' t' r' b' z : Int32} (h : z = own_f7 l t r b l' t' r' b') (hc : own_f6 l t r b l' t' r' b' = 0) : z = 0 := by rw [h, own_eq7, if_pos hc]
theorem own_ab1 {l t r b l' t' r' b' z y : Int32} (h : z = own_f7 l t r b l' t' r' b') (hc : ¬ own_f6 l t r b l' t' r' b' = 0) (hy : y = (if own_f6 l' t' r' b' l t r b = (0 : Int32) then (0 : Int32) else (1 : Int32))) : z = y := by rw [h, own_eq7, if_neg hc, hy]
theorem own_ba0 {l t r b l' t' r' b' z : Int32} (h : z = own_f7 l' t' r' b' l t r b) (hc : own_f6 l t r b l' t' r' b' = 0) : z = 0 := by rw [h, own_eq7s, own_eq7, if_pos hc]
theorem own_ba1 {l t r b l' t' r' b' z y : Int32} (h : z = own_f7 l' t' r' b' l t r b) (hc : ¬ own_f6 l t r b l' t' r' b' = 0) (hy : y = (if own_f6 l' t' r' b' l t r b = (0 : Int32) then (0 : Int32) else (1 : Int32))) : z = y := by rw [h, own_eq7s, own_eq7, if_neg hc, hy]
theorem own_hash {l t r b l' t' r' b' z : Int32} (h : z = own_f7 l t r b l' t' r' b') (hz : ¬ z = 0) : own_f8 l t r b = own_f8 l' t' r' b' := by
  rw [h] at hz
  unfold own_f7 at hz
  by_cases h1 : l = l'
  · by_cases h2 : t = t'
    · by_cases h3 : r = r'
      · by_cases h4 : b = b'
        · rw [h1, h2, h3, h4]
        · simp [h1, h2, h3, h4] at hz
      · simp [h1, h2, h3] at hz
    · simp [h1, h2] at hz
  · simp [h1] at hz
theorem own_noRect {Z : State} {a0 : Array Value} (hw : ∀ d ∈ tables_1, d.before a0 Z = true) : ∃ c t, Z.vm.findClass "java/lang/Integer" = some c ∧ Z.vm.findClass "com/example/rondo/rondo/Rect" = some t ∧ Z.vm.assignable c t = false := own_notInt (hw _ (List.mem_of_getElem? (i := 48) rfl)) (hw _ (List.mem_of_getElem? (i := 49) rfl)) (hw _ (List.mem_of_getElem? (i := 50) rfl)) (hw _ (List.mem_of_getElem? (i := 1) rfl)) (by decide) (by decide) (by decide)
def own_Q0 (n0 : Nat) (v : Option Value) (h : Heap) (L : List Loc) : Prop := v = some (.int 1) ∧ Fr n0 L
theorem pd_2 : parseMethodDescriptor "(II)I" = some ⟨[.int, .int], some .int⟩ := by decide +kernel
theorem pd_3 : parseMethodDescriptor "(IIII)V" = some ⟨[.int, .int, .int, .int], none⟩ := by decide +kernel
theorem pd_4 : parseMethodDescriptor "(I)Ljava/lang/Integer;" = some ⟨[.int], some (.object "java/lang/Integer")⟩ := by decide +kernel
theorem pd_5 : parseMethodDescriptor "(Lcom/example/rondo/rondo/Rect;)Z" = some ⟨[(.object "com/example/rondo/rondo/Rect")], some .boolean⟩ := by decide +kernel
theorem pd_6 : parseMethodDescriptor "(Ljava/lang/Object;)Z" = some ⟨[(.object "java/lang/Object")], some .boolean⟩ := by decide +kernel
theorem pd_7 : parseMethodDescriptor "()I" = some ⟨[], some .int⟩ := by decide +kernel
theorem pn_com_example_rondo_rondo_RectEqualsPinLaw : plainName "com/example/rondo/rondo/RectEqualsPinLaw" = true := by first | (simp [plainName, overriddenIn]; done) | decide +kernel
theorem ef_0 (m : MethodId) (p0 : Int32) (p1 : Int32) (p2 : Int32) (p3 : Int32) (p4 : Int32) (p5 : Int32) : entryFrame m #[(.int p0), (.int p1), (.int p2), (.int p3), (.int p4), (.int p5)] maxLocals = mkF m 0 #[.val (.int p0), .val (.int p1), .val (.int p2), .val (.int p3), .val (.int p4), .val (.int p5), .unset, .unset, .unset, .unset, .unset, .unset, .unset, .unset, .unset, .unset, .unset] [] := by first | (simp [entryFrame, mkF, argsToLocals, Value.category, maxLocals]; done) | rfl
set_option maxRecDepth 65536 in
set_option maxHeartbeats 40000000 in
theorem rm0 (l : Launch) (Z : State) (a0 : Array Value) (hw : ∀ d ∈ tables_1, d.before a0 Z = true) (ws : List Jvm.Cond) (p0 : Int32) (p1 : Int32) (p2 : Int32) (p3 : Int32) (p4 : Int32) (p5 : Int32) (h0 : Heap) (n0 : Nat) (Z0 : n0 ≤ h0.size) (hcache : own_Cache Z h0) :
    MetFree l x (head1 (Jvm.Cond.code x code maxLocals ret :: ws) room_1) (fun a U => a = #[(.int p0), (.int p1), (.int p2), (.int p3), (.int p4), (.int p5)] ∧ Z.Warmed39 U.vm ∧ U.heap = h0) (fun _ _ _ _ _ => True) (fun _ U o U' => ∃ v L, o = .returned v ∧ (own_Q0 n0) v U'.heap L ∧ FrameEnd U o U' L room_1.cells room_1.slots) := by
  refine MetFree.of_bodySF (plainFor_of_name pn_com_example_rondo_rondo_RectEqualsPinLaw) hisR ?_
  intro p e s m args below meth c s₁ Bd hml0 hP hK
  obtain ⟨rfl, hZ, hh⟩ := hP
  have hx := Bd.exec
  have hby := Bd.bytes
  have hml : c.maxLocals = 17 := hml0
  have hown : s.vm.findClass "com/example/rondo/rondo/RectEqualsPinLaw" = some m.cls := findClass_of_methodNamed Bd.named
  have hnm := (name_of_methodNamed Bd.named Bd.method).1
  have X0 : Stand p l e room_1 s m #[(.int p0), (.int p1), (.int p2), (.int p3), (.int p4), (.int p5)] below meth c s₁ [] 0 0 := Stand.of_body Bd
  have e0 : s₁.heap = h0 := by rw [← hh, Bd.state]; rfl
  have N0 := Fr.nil n0
  refine own_body (QQ := (own_Q0 n0)) (ef_0 m p0 p1 p2 p3 p4 p5) ?_
  obtain ⟨T101, h101, X101, e101, E101, A101, D101, -, st101⟩ := newO X0 hx hZ hown (hw _ (List.mem_of_getElem? (i := 0) rfl)) (hw _ (List.mem_of_getElem? (i := 1) rfl)) (hw _ (List.mem_of_getElem? (i := 2) rfl)) e0 (g := (mkF m 0 #[.val (.int p0), .val (.int p1), .val (.int p2), .val (.int p3), .val (.int p4), .val (.int p5), .unset, .unset, .unset, .unset, .unset, .unset, .unset, .unset, .unset, .unset, .unset] [])) rfl (hb hby at_0) (by decide) (by decide)
  obtain ⟨b101, g101⟩ : ∃ z, z = h0.size := ⟨_, rfl⟩
  rw [← g101] at A101 D101 st101
  have gg_b101 : n0 ≤ b101 := Nat.le_trans (Nat.le_trans Z0 (Keep.refl h0 []).1) (Nat.le_of_eq g101.symm)
  have sz_b101 : h0.size ≤ b101 := Nat.le_trans (Keep.refl h0 []).1 (Nat.le_of_eq g101.symm)
  have F_left_b101 : Fld Z h101 b101 "com/example/rondo/rondo/Rect" "left" "I" (.int (0 : Int32)) := D101 (Or.inr (hw _ (List.mem_of_getElem? (i := 17) rfl))) (ty := .int) (by decide)
  have F_top_b101 : Fld Z h101 b101 "com/example/rondo/rondo/Rect" "top" "I" (.int (0 : Int32)) := D101 (Or.inr (hw _ (List.mem_of_getElem? (i := 19) rfl))) (ty := .int) (by decide)
  have F_right_b101 : Fld Z h101 b101 "com/example/rondo/rondo/Rect" "right" "I" (.int (0 : Int32)) := D101 (Or.inr (hw _ (List.mem_of_getElem? (i := 21) rfl))) (ty := .int) (by decide)
  have F_bottom_b101 : Fld Z h101 b101 "com/example/rondo/rondo/Rect" "bottom" "I" (.int (0 : Int32)) := D101 (Or.inr (hw _ (List.mem_of_getElem? (i := 23) rfl))) (ty := .int) (by decide)
  have K102 : Keep h0 h101 [] := (Keep.refl h0 []).ext E101
  refine own_via (T101.setTop (mkF m 3 #[.val (.int p0), .val (.int p1), .val (.int p2), .val (.int p3), .val (.int p4), .val (.int p5), .unset, .unset, .unset, .unset, .unset, .unset, .unset, .unset, .unset, .unset, .unset] [(.ref b101)])) (fun t k => st101 t k) ?_
  refine own_via (T101.setTop (mkF m 4 #[.val (.int p0), .val (.int p1), .val (.int p2), .val (.int p3), .val (.int p4), .val (.int p5), .unset, .unset, .unset, .unset, .unset, .unset, .unset, .unset, .unset, .unset, .unset] [(.ref b101), (.ref b101)])) (fun t k => XS.dup X101.here hx rfl (hb hby at_3) rfl rfl k) ?_
  refine own_via (T101.setTop (mkF m 5 #[.val (.int p0), .val (.int p1), .val (.int p2), .val (.int p3), .val (.int p4), .val (.int p5), .unset, .unset, .unset, .unset, .unset, .unset, .unset, .unset, .unset, .unset, .unset] [(.int p0), (.ref b101), (.ref b101)])) (fun t k => XS.iloadN X101.here hx rfl (hb hby at_4) rfl  k) ?_
  refine own_via (T101.setTop (mkF m 6 #[.val (.int p0), .val (.int p1), .val (.int p2), .val (.int p3), .val (.int p4), .val (.int p5), .unset, .unset, .unset, .unset, .unset, .unset, .unset, .unset, .unset, .unset, .unset] [(.int p2), (.int p0), (.ref b101), (.ref b101)])) (fun t k => XS.iloadN X101.here hx rfl (hb hby at_5) rfl  k) ?_
  obtain ⟨_, _, ⟨T103, L103, k103, n103⟩, -, X103, ⟨Lc103, hQ103, l103, y103, z103⟩, st103⟩ := Jvm.LawKit.callS X101 hx (y := (⟨"java/lang/Math", "min", "(II)I"⟩ : MethodName)) hown (mvT hZ (hw _ (List.mem_of_getElem? (i := 3) rfl))) (mvT hZ (hw _ (List.mem_of_getElem? (i := 4) rfl))) (mvT hZ (hw _ (List.mem_of_getElem? (i := 5) rfl))) (mvT hZ (hw _ (List.mem_of_getElem? (i := 6) rfl))) (by decide) (backOf (W := 2) (rm1 l Z a0 hw [] p0 p2 h101 n0 (Nat.le_trans Z0 K102.1)) hZ (hw _ (List.mem_of_getElem? (i := 6) rfl)) (hw _ (List.mem_of_getElem? (i := 5) rfl)) (by decide) (by decide)) (g := (mkF m 6 #[.val (.int p0), .val (.int p1), .val (.int p2), .val (.int p3), .val (.int p4), .val (.int p5), .unset, .unset, .unset, .unset, .unset, .unset, .unset, .unset, .unset, .unset, .unset] [(.int p2), (.int p0), (.ref b101), (.ref b101)])) rfl (by rw [hml]; rfl) (argsL := [(.int p0), (.int p2)]) (rest := [(.ref b101), (.ref b101)]) (lenOf pd_2 rfl) rfl (by show 2 * 0 + _ ≤ _; exact Nat.le_of_eq rfl) (hb hby at_6) (fun _ _ => ⟨rfl, e101, (by decide : 1 + 0 ≤ _), (by decide : 4 + 0 ≤ _)⟩)
  dsimp only [Pt.U, Pt.locs, Pt.cells, Pt.slots] at X103 l103 y103 z103 st103 hQ103
  subst l103 y103 z103
  obtain ⟨rfl, N103q, e103⟩ := hQ103
  have N103 := Fr.app N0 N103q
  refine own_via (T103.setTop (mkF m 9 #[.val (.int p0), .val (.int p1), .val (.int p2), .val (.int p3), .val (.int p4), .val (.int p5), .unset, .unset, .unset, .unset, .unset, .unset, .unset, .unset, .unset, .unset, .unset] [(.int (own_f1 p0 p2)), (.ref b101), (.ref b101)])) (fun t k => st103 t k) ?_
  refine own_via (T103.setTop (mkF m 10 #[.val (.int p0), .val (.int p1), .val (.int p2), .val (.int p3), .val (.int p4), .val (.int p5), .unset, .unset, .unset, .unset, .unset, .unset, .unset, .unset, .unset, .unset, .unset] [(.int p1), (.int (own_f1 p0 p2)), (.ref b101), (.ref b101)])) (fun t k => XS.iloadN X103.here hx rfl (hb hby at_9) rfl  k) ?_
  refine own_via (T103.setTop (mkF m 11 #[.val (.int p0), .val (.int p1), .val (.int p2), .val (.int p3), .val (.int p4), .val (.int p5), .unset, .unset, .unset, .unset, .unset, .unset, .unset, .unset, .unset, .unset, .unset] [(.int p3), (.int p1), (.int (own_f1 p0 p2)), (.ref b101), (.ref b101)])) (fun t k => XS.iloadN X103.here hx rfl (hb hby at_10) rfl  k) ?_
  obtain ⟨_, _, ⟨T104, L104, k104, n104⟩, -, X104, ⟨Lc104, hQ104, l104, y104, z104⟩, st104⟩ := Jvm.LawKit.callS X103 hx (y := (⟨"java/lang/Math", "min", "(II)I"⟩ : MethodName)) hown (mvT hZ (hw _ (List.mem_of_getElem? (i := 3) rfl))) (mvT hZ (hw _ (List.mem_of_getElem? (i := 4) rfl))) (mvT hZ (hw _ (List.mem_of_getElem? (i := 5) rfl))) (mvT hZ (hw _ (List.mem_of_getElem? (i := 6) rfl))) (by decide) (backOf (W := 3) (rm1 l Z a0 hw [] p1 p3 h101 n0 (Nat.le_trans Z0 K102.1)) hZ (hw _ (List.mem_of_getElem? (i := 6) rfl)) (hw _ (List.mem_of_getElem? (i := 5) rfl)) (by decide) (by decide)) (g := (mkF m 11 #[.val (.int p0), .val (.int p1), .val (.int p2), .val (.int p3), .val (.int p4), .val (.int p5), .unset, .unset, .unset, .unset, .unset, .unset, .unset, .unset, .unset, .unset, .unset] [(.int p3), (.int p1), (.int (own_f1 p0 p2)), (.ref b101), (.ref b101)])) rfl (by rw [hml]; rfl) (argsL := [(.int p1), (.int p3)]) (rest := [(.int (own_f1 p0 p2)), (.ref b101), (.ref b101)]) (lenOf pd_2 rfl) rfl (by show 2 * 0 + _ ≤ _; exact Nat.le_of_eq rfl) (hb hby at_11) (fun _ _ => ⟨rfl, e103, (by decide : 1 + 0 ≤ _), (by decide : 4 + 0 ≤ _)⟩)
  dsimp only [Pt.U, Pt.locs, Pt.cells, Pt.slots] at X104 l104 y104 z104 st104 hQ104
  subst l104 y104 z104
  obtain ⟨rfl, N104q, e104⟩ := hQ104
  have N104 := Fr.app N103 N104q
  refine own_via (T104.setTop (mkF m 14 #[.val (.int p0), .val (.int p1), .val (.int p2), .val (.int p3), .val (.int p4), .val (.int p5), .unset, .unset, .unset, .unset, .unset, .unset, .unset, .unset, .unset, .unset, .unset] [(.int (own_f1 p1 p3)), (.int (own_f1 p0 p2)), (.ref b101), (.ref b101)])) (fun t k => st104 t k) ?_
  refine own_via (T104.setTop (mkF m 15 #[.val (.int p0), .val (.int p1), .val (.int p2), .val (.int p3), .val (.int p4), .val (.int p5), .unset, .unset, .unset, .unset, .unset, .unset, .unset, .unset, .unset, .unset, .unset] [(.int p0), (.int (own_f1 p1 p3)), (.int (own_f1 p0 p2)), (.ref b101), (.ref b101)])) (fun t k => XS.iloadN X104.here hx rfl (hb hby at_14) rfl  k) ?_
  refine own_via (T104.setTop (mkF m 16 #[.val (.int p0), .val (.int p1), .val (.int p2), .val (.int p3), .val (.int p4), .val (.int p5), .unset, .unset, .unset, .unset, .unset, .unset, .unset, .unset, .unset, .unset, .unset] [(.int p2), (.int p0), (.int (own_f1 p1 p3)), (.int (own_f1 p0 p2)), (.ref b101), (.ref b101)])) (fun t k => XS.iloadN X104.here hx rfl (hb hby at_15) rfl  k) ?_
  obtain ⟨_, _, ⟨T105, L105, k105, n105⟩, -, X105, ⟨Lc105, hQ105, l105, y105, z105⟩, st105⟩ := Jvm.LawKit.callS X104 hx (y := (⟨"java/lang/Math", "max", "(II)I"⟩ : MethodName)) hown (mvT hZ (hw _ (List.mem_of_getElem? (i := 7) rfl))) (mvT hZ (hw _ (List.mem_of_getElem? (i := 8) rfl))) (mvT hZ (hw _ (List.mem_of_getElem? (i := 5) rfl))) (mvT hZ (hw _ (List.mem_of_getElem? (i := 9) rfl))) (by decide) (backOf (W := 4) (rm2 l Z a0 hw [] p0 p2 h101 n0 (Nat.le_trans Z0 K102.1)) hZ (hw _ (List.mem_of_getElem? (i := 9) rfl)) (hw _ (List.mem_of_getElem? (i := 5) rfl)) (by decide) (by decide)) (g := (mkF m 16 #[.val (.int p0), .val (.int p1), .val (.int p2), .val (.int p3), .val (.int p4), .val (.int p5), .unset, .unset, .unset, .unset, .unset, .unset, .unset, .unset, .unset, .unset, .unset] [(.int p2), (.int p0), (.int (own_f1 p1 p3)), (.int (own_f1 p0 p2)), (.ref b101), (.ref b101)])) rfl (by rw [hml]; rfl) (argsL := [(.int p0), (.int p2)]) (rest := [(.int (own_f1 p1 p3)), (.int (own_f1 p0 p2)), (.ref b101), (.ref b101)]) (lenOf pd_2 rfl) rfl (by show 2 * 0 + _ ≤ _; exact Nat.le_of_eq rfl) (hb hby at_16) (fun _ _ => ⟨rfl, e104, (by decide : 1 + 0 ≤ _), (by decide : 4 + 0 ≤ _)⟩)
  dsimp only [Pt.U, Pt.locs, Pt.cells, Pt.slots] at X105 l105 y105 z105 st105 hQ105
  subst l105 y105 z105
  obtain ⟨rfl, N105q, e105⟩ := hQ105
  have N105 := Fr.app N104 N105q
  refine own_via (T105.setTop (mkF m 19 #[.val (.int p0), .val (.int p1), .val (.int p2), .val (.int p3), .val (.int p4), .val (.int p5), .unset, .unset, .unset, .unset, .unset, .unset, .unset, .unset, .unset, .unset, .unset] [(.int (own_f2 p0 p2)), (.int (own_f1 p1 p3)), (.int (own_f1 p0 p2)), (.ref b101), (.ref b101)])) (fun t k => st105 t k) ?_
  refine own_via (T105.setTop (mkF m 20 #[.val (.int p0), .val (.int p1), .val (.int p2), .val (.int p3), .val (.int p4), .val (.int p5), .unset, .unset, .unset, .unset, .unset, .unset, .unset, .unset, .unset, .unset, .unset] [(.int p1), (.int (own_f2 p0 p2)), (.int (own_f1 p1 p3)), (.int (own_f1 p0 p2)), (.ref b101), (.ref b101)])) (fun t k => XS.iloadN X105.here hx rfl (hb hby at_19) rfl  k) ?_
  refine own_via (T105.setTop (mkF m 21 #[.val (.int p0), .val (.int p1), .val (.int p2), .val (.int p3), .val (.int p4), .val (.int p5), .unset, .unset, .unset, .unset, .unset, .unset, .unset, .unset, .unset, .unset, .unset] [(.int p3), (.int p1), (.int (own_f2 p0 p2)), (.int (own_f1 p1 p3)), (.int (own_f1 p0 p2)), (.ref b101), (.ref b101)])) (fun t k => XS.iloadN X105.here hx rfl (hb hby at_20) rfl  k) ?_
  obtain ⟨_, _, ⟨T106, L106, k106, n106⟩, -, X106, ⟨Lc106, hQ106, l106, y106, z106⟩, st106⟩ := Jvm.LawKit.callS X105 hx (y := (⟨"java/lang/Math", "max", "(II)I"⟩ : MethodName)) hown (mvT hZ (hw _ (List.mem_of_getElem? (i := 7) rfl))) (mvT hZ (hw _ (List.mem_of_getElem? (i := 8) rfl))) (mvT hZ (hw _ (List.mem_of_getElem? (i := 5) rfl))) (mvT hZ (hw _ (List.mem_of_getElem? (i := 9) rfl))) (by decide) (backOf (W := 5) (rm2 l Z a0 hw [] p1 p3 h101 n0 (Nat.le_trans Z0 K102.1)) hZ (hw _ (List.mem_of_getElem? (i := 9) rfl)) (hw _ (List.mem_of_getElem? (i := 5) rfl)) (by decide) (by decide)) (g := (mkF m 21 #[.val (.int p0), .val (.int p1), .val (.int p2), .val (.int p3), .val (.int p4), .val (.int p5), .unset, .unset, .unset, .unset, .unset, .unset, .unset, .unset, .unset, .unset, .unset] [(.int p3), (.int p1), (.int (own_f2 p0 p2)), (.int (own_f1 p1 p3)), (.int (own_f1 p0 p2)), (.ref b101), (.ref b101)])) rfl (by rw [hml]; rfl) (argsL := [(.int p1), (.int p3)]) (rest := [(.int (own_f2 p0 p2)), (.int (own_f1 p1 p3)), (.int (own_f1 p0 p2)), (.ref b101), (.ref b101)]) (lenOf pd_2 rfl) rfl (by show 2 * 0 + _ ≤ _; exact Nat.le_of_eq rfl) (hb hby at_21) (fun _ _ => ⟨rfl, e105, (by decide : 1 + 0 ≤ _), (by decide : 4 + 0 ≤ _)⟩)
  dsimp only [Pt.U, Pt.locs, Pt.cells, Pt.slots] at X106 l106 y106 z106 st106 hQ106
  subst l106 y106 z106
  obtain ⟨rfl, N106q, e106⟩ := hQ106
  have N106 := Fr.app N105 N106q
  refine own_via (T106.setTop (mkF m 24 #[.val (.int p0), .val (.int p1), .val (.int p2), .val (.int p3), .val (.int p4), .val (.int p5), .unset, .unset, .unset, .unset, .unset, .unset, .unset, .unset, .unset, .unset, .unset] [(.int (own_f2 p1 p3)), (.int (own_f2 p0 p2)), (.int (own_f1 p1 p3)), (.int (own_f1 p0 p2)), (.ref b101), (.ref b101)])) (fun t k => st106 t k) ?_
  obtain ⟨_, _, ⟨T107, L107, k107, n107⟩, -, X107, ⟨Lc107, hQ107, l107, y107, z107⟩, st107⟩ := X106.specialBack hx (y := (⟨"com/example/rondo/rondo/Rect", "<init>", "(IIII)V"⟩ : MethodName)) rfl hown (mvT hZ (hw _ (List.mem_of_getElem? (i := 10) rfl))) (mvT hZ (hw _ (List.mem_of_getElem? (i := 11) rfl))) (mvT hZ (hw _ (List.mem_of_getElem? (i := 12) rfl))) (by decide) (backOf (W := 1) (rm3 l Z a0 hw [] b101 (own_f1 p0 p2) (own_f1 p1 p3) (own_f2 p0 p2) (own_f2 p1 p3) h101 n0 (Nat.le_trans Z0 K102.1) F_left_b101 F_top_b101 F_right_b101 F_bottom_b101 A101 gg_b101 (own_mm _ _) (own_mm _ _)) hZ (hw _ (List.mem_of_getElem? (i := 12) rfl)) (hw _ (List.mem_of_getElem? (i := 2) rfl)) (by decide) (by decide)) (g := (mkF m 24 #[.val (.int p0), .val (.int p1), .val (.int p2), .val (.int p3), .val (.int p4), .val (.int p5), .unset, .unset, .unset, .unset, .unset, .unset, .unset, .unset, .unset, .unset, .unset] [(.int (own_f2 p1 p3)), (.int (own_f2 p0 p2)), (.int (own_f1 p1 p3)), (.int (own_f1 p0 p2)), (.ref b101), (.ref b101)])) rfl (by rw [hml]; rfl) (Steps.refl _) (a := b101) (argsL := [(.int (own_f1 p0 p2)), (.int (own_f1 p1 p3)), (.int (own_f2 p0 p2)), (.int (own_f2 p1 p3))]) (rest := [(.ref b101)]) (lenOf pd_3 rfl) rfl (by show 2 * 0 + _ ≤ _; exact Nat.le_of_eq rfl) (hb hby at_24) (fun _ _ => ⟨rfl, e106, (by decide : 1 + 0 ≤ _), (by decide : 4 + 0 ≤ _)⟩)
  dsimp only [Pt.U, Pt.locs, Pt.cells, Pt.slots] at X107 l107 y107 z107 st107 hQ107
  subst l107 y107 z107
  obtain ⟨h107, e107⟩ : ∃ h, T107.heap = h := ⟨_, rfl⟩
  rw [e107] at hQ107
  obtain ⟨rfl, N107q, K107q, G107_0, G107_1, G107_2, G107_3, G107_4⟩ := hQ107
  have N107 := Fr.app N106 N107q
  have K108 : Keep h0 h107 [] := K102.trans K107q (fun x hx => (List.mem_cons.mp hx).elim (fun e => e ▸ Or.inr sz_b101) ((fun x hx => nomatch hx) x))
  obtain ⟨z109, hz109⟩ : ∃ z : Int32, z = (own_f1 p0 p2) := ⟨_, rfl⟩
  rw [← hz109] at G107_1
  obtain ⟨z110, hz110⟩ : ∃ z : Int32, z = (own_f1 p1 p3) := ⟨_, rfl⟩
  rw [← hz110] at G107_2
  obtain ⟨z111, hz111⟩ : ∃ z : Int32, z = (own_f2 p0 p2) := ⟨_, rfl⟩
  rw [← hz111] at G107_3
  obtain ⟨z112, hz112⟩ : ∃ z : Int32, z = (own_f2 p1 p3) := ⟨_, rfl⟩
  rw [← hz112] at G107_4
  refine own_via (T107.setTop (mkF m 27 #[.val (.int p0), .val (.int p1), .val (.int p2), .val (.int p3), .val (.int p4), .val (.int p5), .unset, .unset, .unset, .unset, .unset, .unset, .unset, .unset, .unset, .unset, .unset] [(.ref b101)])) (fun t k => st107.trans k) ?_
  refine own_via (T107.setTop (mkF m 29 #[.val (.int p0), .val (.int p1), .val (.int p2), .val (.int p3), .val (.int p4), .val (.int p5), .val (.ref b101), .unset, .unset, .unset, .unset, .unset, .unset, .unset, .unset, .unset, .unset] [])) (fun t k => XS.astore X107.here hx rfl (hb hby at_27) rfl rfl (l' := #[.val (.int p0), .val (.int p1), .val (.int p2), .val (.int p3), .val (.int p4), .val (.int p5), .val (.ref b101), .unset, .unset, .unset, .unset, .unset, .unset, .unset, .unset, .unset, .unset]) rfl k) ?_
  refine own_via (T107.setTop (mkF m 31 #[.val (.int p0), .val (.int p1), .val (.int p2), .val (.int p3), .val (.int p4), .val (.int p5), .val (.ref b101), .unset, .unset, .unset, .unset, .unset, .unset, .unset, .unset, .unset, .unset] [(.int p5)])) (fun t k => XS.iload X107.here hx rfl (hb hby at_29) rfl  k) ?_
  refine own_via (T107.setTop (mkF m 32 #[.val (.int p0), .val (.int p1), .val (.int p2), .val (.int p3), .val (.int p4), .val (.int p5), .val (.ref b101), .unset, .unset, .unset, .unset, .unset, .unset, .unset, .unset, .unset, .unset] [(.int (1 : Int32)), (.int p5)])) (fun t k => XS.iconst X107.here hx rfl (hb hby at_31) k) ?_
  refine own_via (T107.setTop (mkF m 33 #[.val (.int p0), .val (.int p1), .val (.int p2), .val (.int p3), .val (.int p4), .val (.int p5), .val (.ref b101), .unset, .unset, .unset, .unset, .unset, .unset, .unset, .unset, .unset, .unset] [(.int (p5 &&& (1 : Int32)))])) (fun t k => XS.iand X107.here hx rfl (hb hby at_32) rfl k) ?_
  obtain ⟨z113, hz113⟩ : ∃ z : Int32, z = (if (p5 &&& (1 : Int32)) = (0 : Int32) then p0 else (p0 + p4)) := ⟨_, rfl⟩
  refine own_via (T107.setTop (mkF m 44 #[.val (.int p0), .val (.int p1), .val (.int p2), .val (.int p3), .val (.int p4), .val (.int p5), .val (.ref b101), .unset, .unset, .unset, .unset, .unset, .unset, .unset, .unset, .unset, .unset] [(.int z113)])) (fun t k => ?_) ?_
  · skip
    by_cases hj33_114 : (p5 &&& (1 : Int32)) = (0 : Int32)
    · refine XS.ifYes X107.here hx rfl (pc0 := 33) (pc' := 43) rfl (hb hby at_33) rfl ((if0 _ _).trans (teq hj33_114).1) (by decide) (by decide) (?_ : Steps p.tables e below (T107.setTop (mkF m 43 #[.val (.int p0), .val (.int p1), .val (.int p2), .val (.int p3), .val (.int p4), .val (.int p5), .val (.ref b101), .unset, .unset, .unset, .unset, .unset, .unset, .unset, .unset, .unset, .unset] [])) t)
      refine XS.iloadN X107.here hx rfl (hb hby at_43) rfl  (?_ : Steps p.tables e below (T107.setTop (mkF m 44 #[.val (.int p0), .val (.int p1), .val (.int p2), .val (.int p3), .val (.int p4), .val (.int p5), .val (.ref b101), .unset, .unset, .unset, .unset, .unset, .unset, .unset, .unset, .unset, .unset] [(.int p0)])) t)
      have q_z113 := (hz113.trans (if_pos hj33_114))
      subst q_z113
      exact k
    · refine XS.ifNo X107.here hx rfl (hb hby at_33) rfl ((if0 _ _).trans (feq hj33_114).1) (?_ : Steps p.tables e below (T107.setTop (mkF m 36 #[.val (.int p0), .val (.int p1), .val (.int p2), .val (.int p3), .val (.int p4), .val (.int p5), .val (.ref b101), .unset, .unset, .unset, .unset, .unset, .unset, .unset, .unset, .unset, .unset] [])) t)
      refine XS.iloadN X107.here hx rfl (hb hby at_36) rfl  (?_ : Steps p.tables e below (T107.setTop (mkF m 37 #[.val (.int p0), .val (.int p1), .val (.int p2), .val (.int p3), .val (.int p4), .val (.int p5), .val (.ref b101), .unset, .unset, .unset, .unset, .unset, .unset, .unset, .unset, .unset, .unset] [(.int p0)])) t)
      refine XS.iload X107.here hx rfl (hb hby at_37) rfl  (?_ : Steps p.tables e below (T107.setTop (mkF m 39 #[.val (.int p0), .val (.int p1), .val (.int p2), .val (.int p3), .val (.int p4), .val (.int p5), .val (.ref b101), .unset, .unset, .unset, .unset, .unset, .unset, .unset, .unset, .unset, .unset] [(.int p4), (.int p0)])) t)
      refine XS.iadd X107.here hx rfl (hb hby at_39) rfl (?_ : Steps p.tables e below (T107.setTop (mkF m 40 #[.val (.int p0), .val (.int p1), .val (.int p2), .val (.int p3), .val (.int p4), .val (.int p5), .val (.ref b101), .unset, .unset, .unset, .unset, .unset, .unset, .unset, .unset, .unset, .unset] [(.int (p0 + p4))])) t)
      refine XS.goto X107.here hx rfl (pc0 := 40) (pc' := 44) rfl (hb hby at_40) (by decide) (by decide) (?_ : Steps p.tables e below (T107.setTop (mkF m 44 #[.val (.int p0), .val (.int p1), .val (.int p2), .val (.int p3), .val (.int p4), .val (.int p5), .val (.ref b101), .unset, .unset, .unset, .unset, .unset, .unset, .unset, .unset, .unset, .unset] [(.int (p0 + p4))])) t)
      have q_z113 := (hz113.trans (if_neg hj33_114))
      subst q_z113
      exact k
  refine own_via (T107.setTop (mkF m 46 #[.val (.int p0), .val (.int p1), .val (.int p2), .val (.int p3), .val (.int p4), .val (.int p5), .val (.ref b101), .val (.int z113), .unset, .unset, .unset, .unset, .unset, .unset, .unset, .unset, .unset] [])) (fun t k => XS.istore X107.here hx rfl (hb hby at_44) rfl (l' := #[.val (.int p0), .val (.int p1), .val (.int p2), .val (.int p3), .val (.int p4), .val (.int p5), .val (.ref b101), .val (.int z113), .unset, .unset, .unset, .unset, .unset, .unset, .unset, .unset, .unset]) rfl k) ?_
  refine own_via (T107.setTop (mkF m 48 #[.val (.int p0), .val (.int p1), .val (.int p2), .val (.int p3), .val (.int p4), .val (.int p5), .val (.ref b101), .val (.int z113), .unset, .unset, .unset, .unset, .unset, .unset, .unset, .unset, .unset] [(.int p5)])) (fun t k => XS.iload X107.here hx rfl (hb hby at_46) rfl  k) ?_
  refine own_via (T107.setTop (mkF m 49 #[.val (.int p0), .val (.int p1), .val (.int p2), .val (.int p3), .val (.int p4), .val (.int p5), .val (.ref b101), .val (.int z113), .unset, .unset, .unset, .unset, .unset, .unset, .unset, .unset, .unset] [(.int (2 : Int32)), (.int p5)])) (fun t k => XS.iconst X107.here hx rfl (hb hby at_48) k) ?_
  refine own_via (T107.setTop (mkF m 50 #[.val (.int p0), .val (.int p1), .val (.int p2), .val (.int p3), .val (.int p4), .val (.int p5), .val (.ref b101), .val (.int z113), .unset, .unset, .unset, .unset, .unset, .unset, .unset, .unset, .unset] [(.int (p5 &&& (2 : Int32)))])) (fun t k => XS.iand X107.here hx rfl (hb hby at_49) rfl k) ?_
  obtain ⟨z115, hz115⟩ : ∃ z : Int32, z = (if (p5 &&& (2 : Int32)) = (0 : Int32) then p1 else (p1 + p4)) := ⟨_, rfl⟩
  refine own_via (T107.setTop (mkF m 61 #[.val (.int p0), .val (.int p1), .val (.int p2), .val (.int p3), .val (.int p4), .val (.int p5), .val (.ref b101), .val (.int z113), .unset, .unset, .unset, .unset, .unset, .unset, .unset, .unset, .unset] [(.int z115)])) (fun t k => ?_) ?_
  · skip
    by_cases hj50_116 : (p5 &&& (2 : Int32)) = (0 : Int32)
    · refine XS.ifYes X107.here hx rfl (pc0 := 50) (pc' := 60) rfl (hb hby at_50) rfl ((if0 _ _).trans (teq hj50_116).1) (by decide) (by decide) (?_ : Steps p.tables e below (T107.setTop (mkF m 60 #[.val (.int p0), .val (.int p1), .val (.int p2), .val (.int p3), .val (.int p4), .val (.int p5), .val (.ref b101), .val (.int z113), .unset, .unset, .unset, .unset, .unset, .unset, .unset, .unset, .unset] [])) t)
      refine XS.iloadN X107.here hx rfl (hb hby at_60) rfl  (?_ : Steps p.tables e below (T107.setTop (mkF m 61 #[.val (.int p0), .val (.int p1), .val (.int p2), .val (.int p3), .val (.int p4), .val (.int p5), .val (.ref b101), .val (.int z113), .unset, .unset, .unset, .unset, .unset, .unset, .unset, .unset, .unset] [(.int p1)])) t)
      have q_z115 := (hz115.trans (if_pos hj50_116))
      subst q_z115
      exact k
    · refine XS.ifNo X107.here hx rfl (hb hby at_50) rfl ((if0 _ _).trans (feq hj50_116).1) (?_ : Steps p.tables e below (T107.setTop (mkF m 53 #[.val (.int p0), .val (.int p1), .val (.int p2), .val (.int p3), .val (.int p4), .val (.int p5), .val (.ref b101), .val (.int z113), .unset, .unset, .unset, .unset, .unset, .unset, .unset, .unset, .unset] [])) t)
      refine XS.iloadN X107.here hx rfl (hb hby at_53) rfl  (?_ : Steps p.tables e below (T107.setTop (mkF m 54 #[.val (.int p0), .val (.int p1), .val (.int p2), .val (.int p3), .val (.int p4), .val (.int p5), .val (.ref b101), .val (.int z113), .unset, .unset, .unset, .unset, .unset, .unset, .unset, .unset, .unset] [(.int p1)])) t)
      refine XS.iload X107.here hx rfl (hb hby at_54) rfl  (?_ : Steps p.tables e below (T107.setTop (mkF m 56 #[.val (.int p0), .val (.int p1), .val (.int p2), .val (.int p3), .val (.int p4), .val (.int p5), .val (.ref b101), .val (.int z113), .unset, .unset, .unset, .unset, .unset, .unset, .unset, .unset, .unset] [(.int p4), (.int p1)])) t)
      refine XS.iadd X107.here hx rfl (hb hby at_56) rfl (?_ : Steps p.tables e below (T107.setTop (mkF m 57 #[.val (.int p0), .val (.int p1), .val (.int p2), .val (.int p3), .val (.int p4), .val (.int p5), .val (.ref b101), .val (.int z113), .unset, .unset, .unset, .unset, .unset, .unset, .unset, .unset, .unset] [(.int (p1 + p4))])) t)
      refine XS.goto X107.here hx rfl (pc0 := 57) (pc' := 61) rfl (hb hby at_57) (by decide) (by decide) (?_ : Steps p.tables e below (T107.setTop (mkF m 61 #[.val (.int p0), .val (.int p1), .val (.int p2), .val (.int p3), .val (.int p4), .val (.int p5), .val (.ref b101), .val (.int z113), .unset, .unset, .unset, .unset, .unset, .unset, .unset, .unset, .unset] [(.int (p1 + p4))])) t)
      have q_z115 := (hz115.trans (if_neg hj50_116))
      subst q_z115
      exact k
  refine own_via (T107.setTop (mkF m 63 #[.val (.int p0), .val (.int p1), .val (.int p2), .val (.int p3), .val (.int p4), .val (.int p5), .val (.ref b101), .val (.int z113), .val (.int z115), .unset, .unset, .unset, .unset, .unset, .unset, .unset, .unset] [])) (fun t k => XS.istore X107.here hx rfl (hb hby at_61) rfl (l' := #[.val (.int p0), .val (.int p1), .val (.int p2), .val (.int p3), .val (.int p4), .val (.int p5), .val (.ref b101), .val (.int z113), .val (.int z115), .unset, .unset, .unset, .unset, .unset, .unset, .unset, .unset]) rfl k) ?_
  refine own_via (T107.setTop (mkF m 65 #[.val (.int p0), .val (.int p1), .val (.int p2), .val (.int p3), .val (.int p4), .val (.int p5), .val (.ref b101), .val (.int z113), .val (.int z115), .unset, .unset, .unset, .unset, .unset, .unset, .unset, .unset] [(.int p5)])) (fun t k => XS.iload X107.here hx rfl (hb hby at_63) rfl  k) ?_
  refine own_via (T107.setTop (mkF m 66 #[.val (.int p0), .val (.int p1), .val (.int p2), .val (.int p3), .val (.int p4), .val (.int p5), .val (.ref b101), .val (.int z113), .val (.int z115), .unset, .unset, .unset, .unset, .unset, .unset, .unset, .unset] [(.int (4 : Int32)), (.int p5)])) (fun t k => XS.iconst X107.here hx rfl (hb hby at_65) k) ?_
  refine own_via (T107.setTop (mkF m 67 #[.val (.int p0), .val (.int p1), .val (.int p2), .val (.int p3), .val (.int p4), .val (.int p5), .val (.ref b101), .val (.int z113), .val (.int z115), .unset, .unset, .unset, .unset, .unset, .unset, .unset, .unset] [(.int (p5 &&& (4 : Int32)))])) (fun t k => XS.iand X107.here hx rfl (hb hby at_66) rfl k) ?_
  obtain ⟨z117, hz117⟩ : ∃ z : Int32, z = (if (p5 &&& (4 : Int32)) = (0 : Int32) then p2 else (p2 + p4)) := ⟨_, rfl⟩
  refine own_via (T107.setTop (mkF m 78 #[.val (.int p0), .val (.int p1), .val (.int p2), .val (.int p3), .val (.int p4), .val (.int p5), .val (.ref b101), .val (.int z113), .val (.int z115), .unset, .unset, .unset, .unset, .unset, .unset, .unset, .unset] [(.int z117)])) (fun t k => ?_) ?_
  · skip
    by_cases hj67_118 : (p5 &&& (4 : Int32)) = (0 : Int32)
    · refine XS.ifYes X107.here hx rfl (pc0 := 67) (pc' := 77) rfl (hb hby at_67) rfl ((if0 _ _).trans (teq hj67_118).1) (by decide) (by decide) (?_ : Steps p.tables e below (T107.setTop (mkF m 77 #[.val (.int p0), .val (.int p1), .val (.int p2), .val (.int p3), .val (.int p4), .val (.int p5), .val (.ref b101), .val (.int z113), .val (.int z115), .unset, .unset, .unset, .unset, .unset, .unset, .unset, .unset] [])) t)
      refine XS.iloadN X107.here hx rfl (hb hby at_77) rfl  (?_ : Steps p.tables e below (T107.setTop (mkF m 78 #[.val (.int p0), .val (.int p1), .val (.int p2), .val (.int p3), .val (.int p4), .val (.int p5), .val (.ref b101), .val (.int z113), .val (.int z115), .unset, .unset, .unset, .unset, .unset, .unset, .unset, .unset] [(.int p2)])) t)
      have q_z117 := (hz117.trans (if_pos hj67_118))
      subst q_z117
      exact k
    · refine XS.ifNo X107.here hx rfl (hb hby at_67) rfl ((if0 _ _).trans (feq hj67_118).1) (?_ : Steps p.tables e below (T107.setTop (mkF m 70 #[.val (.int p0), .val (.int p1), .val (.int p2), .val (.int p3), .val (.int p4), .val (.int p5), .val (.ref b101), .val (.int z113), .val (.int z115), .unset, .unset, .unset, .unset, .unset, .unset, .unset, .unset] [])) t)
      refine XS.iloadN X107.here hx rfl (hb hby at_70) rfl  (?_ : Steps p.tables e below (T107.setTop (mkF m 71 #[.val (.int p0), .val (.int p1), .val (.int p2), .val (.int p3), .val (.int p4), .val (.int p5), .val (.ref b101), .val (.int z113), .val (.int z115), .unset, .unset, .unset, .unset, .unset, .unset, .unset, .unset] [(.int p2)])) t)
      refine XS.iload X107.here hx rfl (hb hby at_71) rfl  (?_ : Steps p.tables e below (T107.setTop (mkF m 73 #[.val (.int p0), .val (.int p1), .val (.int p2), .val (.int p3), .val (.int p4), .val (.int p5), .val (.ref b101), .val (.int z113), .val (.int z115), .unset, .unset, .unset, .unset, .unset, .unset, .unset, .unset] [(.int p4), (.int p2)])) t)
      refine XS.iadd X107.here hx rfl (hb hby at_73) rfl (?_ : Steps p.tables e below (T107.setTop (mkF m 74 #[.val (.int p0), .val (.int p1), .val (.int p2), .val (.int p3), .val (.int p4), .val (.int p5), .val (.ref b101), .val (.int z113), .val (.int z115), .unset, .unset, .unset, .unset, .unset, .unset, .unset, .unset] [(.int (p2 + p4))])) t)
      refine XS.goto X107.here hx rfl (pc0 := 74) (pc' := 78) rfl (hb hby at_74) (by decide) (by decide) (?_ : Steps p.tables e below (T107.setTop (mkF m 78 #[.val (.int p0), .val (.int p1), .val (.int p2), .val (.int p3), .val (.int p4), .val (.int p5), .val (.ref b101), .val (.int z113), .val (.int z115), .unset, .unset, .unset, .unset, .unset, .unset, .unset, .unset] [(.int (p2 + p4))])) t)
      have q_z117 := (hz117.trans (if_neg hj67_118))
      subst q_z117
      exact k
  refine own_via (T107.setTop (mkF m 80 #[.val (.int p0), .val (.int p1), .val (.int p2), .val (.int p3), .val (.int p4), .val (.int p5), .val (.ref b101), .val (.int z113), .val (.int z115), .val (.int z117), .unset, .unset, .unset, .unset, .unset, .unset, .unset] [])) (fun t k => XS.istore X107.here hx rfl (hb hby at_78) rfl (l' := #[.val (.int p0), .val (.int p1), .val (.int p2), .val (.int p3), .val (.int p4), .val (.int p5), .val (.ref b101), .val (.int z113), .val (.int z115), .val (.int z117), .unset, .unset, .unset, .unset, .unset, .unset, .unset]) rfl k) ?_
  refine own_via (T107.setTop (mkF m 82 #[.val (.int p0), .val (.int p1), .val (.int p2), .val (.int p3), .val (.int p4), .val (.int p5), .val (.ref b101), .val (.int z113), .val (.int z115), .val (.int z117), .unset, .unset, .unset, .unset, .unset, .unset, .unset] [(.int p5)])) (fun t k => XS.iload X107.here hx rfl (hb hby at_80) rfl  k) ?_
  refine own_via (T107.setTop (mkF m 84 #[.val (.int p0), .val (.int p1), .val (.int p2), .val (.int p3), .val (.int p4), .val (.int p5), .val (.ref b101), .val (.int z113), .val (.int z115), .val (.int z117), .unset, .unset, .unset, .unset, .unset, .unset, .unset] [(.int (8 : Int32)), (.int p5)])) (fun t k => XS.bipush X107.here hx rfl (hb hby at_82) k) ?_
  refine own_via (T107.setTop (mkF m 85 #[.val (.int p0), .val (.int p1), .val (.int p2), .val (.int p3), .val (.int p4), .val (.int p5), .val (.ref b101), .val (.int z113), .val (.int z115), .val (.int z117), .unset, .unset, .unset, .unset, .unset, .unset, .unset] [(.int (p5 &&& (8 : Int32)))])) (fun t k => XS.iand X107.here hx rfl (hb hby at_84) rfl k) ?_
  obtain ⟨z119, hz119⟩ : ∃ z : Int32, z = (if (p5 &&& (8 : Int32)) = (0 : Int32) then p3 else (p3 + p4)) := ⟨_, rfl⟩
  refine own_via (T107.setTop (mkF m 96 #[.val (.int p0), .val (.int p1), .val (.int p2), .val (.int p3), .val (.int p4), .val (.int p5), .val (.ref b101), .val (.int z113), .val (.int z115), .val (.int z117), .unset, .unset, .unset, .unset, .unset, .unset, .unset] [(.int z119)])) (fun t k => ?_) ?_
  · skip
    by_cases hj85_120 : (p5 &&& (8 : Int32)) = (0 : Int32)
    · refine XS.ifYes X107.here hx rfl (pc0 := 85) (pc' := 95) rfl (hb hby at_85) rfl ((if0 _ _).trans (teq hj85_120).1) (by decide) (by decide) (?_ : Steps p.tables e below (T107.setTop (mkF m 95 #[.val (.int p0), .val (.int p1), .val (.int p2), .val (.int p3), .val (.int p4), .val (.int p5), .val (.ref b101), .val (.int z113), .val (.int z115), .val (.int z117), .unset, .unset, .unset, .unset, .unset, .unset, .unset] [])) t)
      refine XS.iloadN X107.here hx rfl (hb hby at_95) rfl  (?_ : Steps p.tables e below (T107.setTop (mkF m 96 #[.val (.int p0), .val (.int p1), .val (.int p2), .val (.int p3), .val (.int p4), .val (.int p5), .val (.ref b101), .val (.int z113), .val (.int z115), .val (.int z117), .unset, .unset, .unset, .unset, .unset, .unset, .unset] [(.int p3)])) t)
      have q_z119 := (hz119.trans (if_pos hj85_120))
      subst q_z119
      exact k
    · refine XS.ifNo X107.here hx rfl (hb hby at_85) rfl ((if0 _ _).trans (feq hj85_120).1) (?_ : Steps p.tables e below (T107.setTop (mkF m 88 #[.val (.int p0), .val (.int p1), .val (.int p2), .val (.int p3), .val (.int p4), .val (.int p5), .val (.ref b101), .val (.int z113), .val (.int z115), .val (.int z117), .unset, .unset, .unset, .unset, .unset, .unset, .unset] [])) t)
      refine XS.iloadN X107.here hx rfl (hb hby at_88) rfl  (?_ : Steps p.tables e below (T107.setTop (mkF m 89 #[.val (.int p0), .val (.int p1), .val (.int p2), .val (.int p3), .val (.int p4), .val (.int p5), .val (.ref b101), .val (.int z113), .val (.int z115), .val (.int z117), .unset, .unset, .unset, .unset, .unset, .unset, .unset] [(.int p3)])) t)
      refine XS.iload X107.here hx rfl (hb hby at_89) rfl  (?_ : Steps p.tables e below (T107.setTop (mkF m 91 #[.val (.int p0), .val (.int p1), .val (.int p2), .val (.int p3), .val (.int p4), .val (.int p5), .val (.ref b101), .val (.int z113), .val (.int z115), .val (.int z117), .unset, .unset, .unset, .unset, .unset, .unset, .unset] [(.int p4), (.int p3)])) t)
      refine XS.iadd X107.here hx rfl (hb hby at_91) rfl (?_ : Steps p.tables e below (T107.setTop (mkF m 92 #[.val (.int p0), .val (.int p1), .val (.int p2), .val (.int p3), .val (.int p4), .val (.int p5), .val (.ref b101), .val (.int z113), .val (.int z115), .val (.int z117), .unset, .unset, .unset, .unset, .unset, .unset, .unset] [(.int (p3 + p4))])) t)
      refine XS.goto X107.here hx rfl (pc0 := 92) (pc' := 96) rfl (hb hby at_92) (by decide) (by decide) (?_ : Steps p.tables e below (T107.setTop (mkF m 96 #[.val (.int p0), .val (.int p1), .val (.int p2), .val (.int p3), .val (.int p4), .val (.int p5), .val (.ref b101), .val (.int z113), .val (.int z115), .val (.int z117), .unset, .unset, .unset, .unset, .unset, .unset, .unset] [(.int (p3 + p4))])) t)
      have q_z119 := (hz119.trans (if_neg hj85_120))
      subst q_z119
      exact k
  refine own_via (T107.setTop (mkF m 98 #[.val (.int p0), .val (.int p1), .val (.int p2), .val (.int p3), .val (.int p4), .val (.int p5), .val (.ref b101), .val (.int z113), .val (.int z115), .val (.int z117), .val (.int z119), .unset, .unset, .unset, .unset, .unset, .unset] [])) (fun t k => XS.istore X107.here hx rfl (hb hby at_96) rfl (l' := #[.val (.int p0), .val (.int p1), .val (.int p2), .val (.int p3), .val (.int p4), .val (.int p5), .val (.ref b101), .val (.int z113), .val (.int z115), .val (.int z117), .val (.int z119), .unset, .unset, .unset, .unset, .unset, .unset]) rfl k) ?_
  obtain ⟨T121, h121, X121, e121, E121, A121, D121, -, st121⟩ := newO X107 hx hZ hown (hw _ (List.mem_of_getElem? (i := 0) rfl)) (hw _ (List.mem_of_getElem? (i := 1) rfl)) (hw _ (List.mem_of_getElem? (i := 2) rfl)) e107 (g := (mkF m 98 #[.val (.int p0), .val (.int p1), .val (.int p2), .val (.int p3), .val (.int p4), .val (.int p5), .val (.ref b101), .val (.int z113), .val (.int z115), .val (.int z117), .val (.int z119), .unset, .unset, .unset, .unset, .unset, .unset] [])) rfl (hb hby at_98) (by decide) (by decide)
  obtain ⟨b121, g121⟩ : ∃ z, z = h107.size := ⟨_, rfl⟩
  rw [← g121] at A121 D121 st121
  have gg_b121 : n0 ≤ b121 := Nat.le_trans (Nat.le_trans Z0 K108.1) (Nat.le_of_eq g121.symm)
  have sz_b121 : h0.size ≤ b121 := Nat.le_trans K108.1 (Nat.le_of_eq g121.symm)
  have ne_b101_b121 : b101 ≠ b121 := Nat.ne_of_lt (Nat.lt_of_lt_of_le G107_0.lt (Nat.le_of_eq g121.symm))
  have F_left_b121 : Fld Z h121 b121 "com/example/rondo/rondo/Rect" "left" "I" (.int (0 : Int32)) := D121 (Or.inr (hw _ (List.mem_of_getElem? (i := 17) rfl))) (ty := .int) (by decide)
  have F_top_b121 : Fld Z h121 b121 "com/example/rondo/rondo/Rect" "top" "I" (.int (0 : Int32)) := D121 (Or.inr (hw _ (List.mem_of_getElem? (i := 19) rfl))) (ty := .int) (by decide)
  have F_right_b121 : Fld Z h121 b121 "com/example/rondo/rondo/Rect" "right" "I" (.int (0 : Int32)) := D121 (Or.inr (hw _ (List.mem_of_getElem? (i := 21) rfl))) (ty := .int) (by decide)
  have F_bottom_b121 : Fld Z h121 b121 "com/example/rondo/rondo/Rect" "bottom" "I" (.int (0 : Int32)) := D121 (Or.inr (hw _ (List.mem_of_getElem? (i := 23) rfl))) (ty := .int) (by decide)
  have K122 : Keep h0 h121 [] := K108.ext E121
  refine own_via (T121.setTop (mkF m 101 #[.val (.int p0), .val (.int p1), .val (.int p2), .val (.int p3), .val (.int p4), .val (.int p5), .val (.ref b101), .val (.int z113), .val (.int z115), .val (.int z117), .val (.int z119), .unset, .unset, .unset, .unset, .unset, .unset] [(.ref b121)])) (fun t k => st121 t k) ?_
  refine own_via (T121.setTop (mkF m 102 #[.val (.int p0), .val (.int p1), .val (.int p2), .val (.int p3), .val (.int p4), .val (.int p5), .val (.ref b101), .val (.int z113), .val (.int z115), .val (.int z117), .val (.int z119), .unset, .unset, .unset, .unset, .unset, .unset] [(.ref b121), (.ref b121)])) (fun t k => XS.dup X121.here hx rfl (hb hby at_101) rfl rfl k) ?_
  refine own_via (T121.setTop (mkF m 104 #[.val (.int p0), .val (.int p1), .val (.int p2), .val (.int p3), .val (.int p4), .val (.int p5), .val (.ref b101), .val (.int z113), .val (.int z115), .val (.int z117), .val (.int z119), .unset, .unset, .unset, .unset, .unset, .unset] [(.int z113), (.ref b121), (.ref b121)])) (fun t k => XS.iload X121.here hx rfl (hb hby at_102) rfl  k) ?_
  refine own_via (T121.setTop (mkF m 106 #[.val (.int p0), .val (.int p1), .val (.int p2), .val (.int p3), .val (.int p4), .val (.int p5), .val (.ref b101), .val (.int z113), .val (.int z115), .val (.int z117), .val (.int z119), .unset, .unset, .unset, .unset, .unset, .unset] [(.int z117), (.int z113), (.ref b121), (.ref b121)])) (fun t k => XS.iload X121.here hx rfl (hb hby at_104) rfl  k) ?_
  obtain ⟨_, _, ⟨T123, L123, k123, n123⟩, -, X123, ⟨Lc123, hQ123, l123, y123, z123⟩, st123⟩ := Jvm.LawKit.callS X121 hx (y := (⟨"java/lang/Math", "min", "(II)I"⟩ : MethodName)) hown (mvT hZ (hw _ (List.mem_of_getElem? (i := 3) rfl))) (mvT hZ (hw _ (List.mem_of_getElem? (i := 4) rfl))) (mvT hZ (hw _ (List.mem_of_getElem? (i := 5) rfl))) (mvT hZ (hw _ (List.mem_of_getElem? (i := 6) rfl))) (by decide) (backOf (W := 2) (rm1 l Z a0 hw [] z113 z117 h121 n0 (Nat.le_trans Z0 K122.1)) hZ (hw _ (List.mem_of_getElem? (i := 6) rfl)) (hw _ (List.mem_of_getElem? (i := 5) rfl)) (by decide) (by decide)) (g := (mkF m 106 #[.val (.int p0), .val (.int p1), .val (.int p2), .val (.int p3), .val (.int p4), .val (.int p5), .val (.ref b101), .val (.int z113), .val (.int z115), .val (.int z117), .val (.int z119), .unset, .unset, .unset, .unset, .unset, .unset] [(.int z117), (.int z113), (.ref b121), (.ref b121)])) rfl (by rw [hml]; rfl) (argsL := [(.int z113), (.int z117)]) (rest := [(.ref b121), (.ref b121)]) (lenOf pd_2 rfl) rfl (by show 2 * 0 + _ ≤ _; exact Nat.le_of_eq rfl) (hb hby at_106) (fun _ _ => ⟨rfl, e121, (by decide : 2 + 0 ≤ _), (by decide : 8 + 0 ≤ _)⟩)
  dsimp only [Pt.U, Pt.locs, Pt.cells, Pt.slots] at X123 l123 y123 z123 st123 hQ123
  subst l123 y123 z123
  obtain ⟨rfl, N123q, e123⟩ := hQ123
  have N123 := Fr.app N107 N123q
  refine own_via (T123.setTop (mkF m 109 #[.val (.int p0), .val (.int p1), .val (.int p2), .val (.int p3), .val (.int p4), .val (.int p5), .val (.ref b101), .val (.int z113), .val (.int z115), .val (.int z117), .val (.int z119), .unset, .unset, .unset, .unset, .unset, .unset] [(.int (own_f1 z113 z117)), (.ref b121), (.ref b121)])) (fun t k => st123 t k) ?_
  refine own_via (T123.setTop (mkF m 111 #[.val (.int p0), .val (.int p1), .val (.int p2), .val (.int p3), .val (.int p4), .val (.int p5), .val (.ref b101), .val (.int z113), .val (.int z115), .val (.int z117), .val (.int z119), .unset, .unset, .unset, .unset, .unset, .unset] [(.int z115), (.int (own_f1 z113 z117)), (.ref b121), (.ref b121)])) (fun t k => XS.iload X123.here hx rfl (hb hby at_109) rfl  k) ?_
  refine own_via (T123.setTop (mkF m 113 #[.val (.int p0), .val (.int p1), .val (.int p2), .val (.int p3), .val (.int p4), .val (.int p5), .val (.ref b101), .val (.int z113), .val (.int z115), .val (.int z117), .val (.int z119), .unset, .unset, .unset, .unset, .unset, .unset] [(.int z119), (.int z115), (.int (own_f1 z113 z117)), (.ref b121), (.ref b121)])) (fun t k => XS.iload X123.here hx rfl (hb hby at_111) rfl  k) ?_
  obtain ⟨_, _, ⟨T124, L124, k124, n124⟩, -, X124, ⟨Lc124, hQ124, l124, y124, z124⟩, st124⟩ := Jvm.LawKit.callS X123 hx (y := (⟨"java/lang/Math", "min", "(II)I"⟩ : MethodName)) hown (mvT hZ (hw _ (List.mem_of_getElem? (i := 3) rfl))) (mvT hZ (hw _ (List.mem_of_getElem? (i := 4) rfl))) (mvT hZ (hw _ (List.mem_of_getElem? (i := 5) rfl))) (mvT hZ (hw _ (List.mem_of_getElem? (i := 6) rfl))) (by decide) (backOf (W := 3) (rm1 l Z a0 hw [] z115 z119 h121 n0 (Nat.le_trans Z0 K122.1)) hZ (hw _ (List.mem_of_getElem? (i := 6) rfl)) (hw _ (List.mem_of_getElem? (i := 5) rfl)) (by decide) (by decide)) (g := (mkF m 113 #[.val (.int p0), .val (.int p1), .val (.int p2), .val (.int p3), .val (.int p4), .val (.int p5), .val (.ref b101), .val (.int z113), .val (.int z115), .val (.int z117), .val (.int z119), .unset, .unset, .unset, .unset, .unset, .unset] [(.int z119), (.int z115), (.int (own_f1 z113 z117)), (.ref b121), (.ref b121)])) rfl (by rw [hml]; rfl) (argsL := [(.int z115), (.int z119)]) (rest := [(.int (own_f1 z113 z117)), (.ref b121), (.ref b121)]) (lenOf pd_2 rfl) rfl (by show 2 * 0 + _ ≤ _; exact Nat.le_of_eq rfl) (hb hby at_113) (fun _ _ => ⟨rfl, e123, (by decide : 2 + 0 ≤ _), (by decide : 8 + 0 ≤ _)⟩)
  dsimp only [Pt.U, Pt.locs, Pt.cells, Pt.slots] at X124 l124 y124 z124 st124 hQ124
  subst l124 y124 z124
  obtain ⟨rfl, N124q, e124⟩ := hQ124
  have N124 := Fr.app N123 N124q
  refine own_via (T124.setTop (mkF m 116 #[.val (.int p0), .val (.int p1), .val (.int p2), .val (.int p3), .val (.int p4), .val (.int p5), .val (.ref b101), .val (.int z113), .val (.int z115), .val (.int z117), .val (.int z119), .unset, .unset, .unset, .unset, .unset, .unset] [(.int (own_f1 z115 z119)), (.int (own_f1 z113 z117)), (.ref b121), (.ref b121)])) (fun t k => st124 t k) ?_
  refine own_via (T124.setTop (mkF m 118 #[.val (.int p0), .val (.int p1), .val (.int p2), .val (.int p3), .val (.int p4), .val (.int p5), .val (.ref b101), .val (.int z113), .val (.int z115), .val (.int z117), .val (.int z119), .unset, .unset, .unset, .unset, .unset, .unset] [(.int z113), (.int (own_f1 z115 z119)), (.int (own_f1 z113 z117)), (.ref b121), (.ref b121)])) (fun t k => XS.iload X124.here hx rfl (hb hby at_116) rfl  k) ?_
  refine own_via (T124.setTop (mkF m 120 #[.val (.int p0), .val (.int p1), .val (.int p2), .val (.int p3), .val (.int p4), .val (.int p5), .val (.ref b101), .val (.int z113), .val (.int z115), .val (.int z117), .val (.int z119), .unset, .unset, .unset, .unset, .unset, .unset] [(.int z117), (.int z113), (.int (own_f1 z115 z119)), (.int (own_f1 z113 z117)), (.ref b121), (.ref b121)])) (fun t k => XS.iload X124.here hx rfl (hb hby at_118) rfl  k) ?_
  obtain ⟨_, _, ⟨T125, L125, k125, n125⟩, -, X125, ⟨Lc125, hQ125, l125, y125, z125⟩, st125⟩ := Jvm.LawKit.callS X124 hx (y := (⟨"java/lang/Math", "max", "(II)I"⟩ : MethodName)) hown (mvT hZ (hw _ (List.mem_of_getElem? (i := 7) rfl))) (mvT hZ (hw _ (List.mem_of_getElem? (i := 8) rfl))) (mvT hZ (hw _ (List.mem_of_getElem? (i := 5) rfl))) (mvT hZ (hw _ (List.mem_of_getElem? (i := 9) rfl))) (by decide) (backOf (W := 4) (rm2 l Z a0 hw [] z113 z117 h121 n0 (Nat.le_trans Z0 K122.1)) hZ (hw _ (List.mem_of_getElem? (i := 9) rfl)) (hw _ (List.mem_of_getElem? (i := 5) rfl)) (by decide) (by decide)) (g := (mkF m 120 #[.val (.int p0), .val (.int p1), .val (.int p2), .val (.int p3), .val (.int p4), .val (.int p5), .val (.ref b101), .val (.int z113), .val (.int z115), .val (.int z117), .val (.int z119), .unset, .unset, .unset, .unset, .unset, .unset] [(.int z117), (.int z113), (.int (own_f1 z115 z119)), (.int (own_f1 z113 z117)), (.ref b121), (.ref b121)])) rfl (by rw [hml]; rfl) (argsL := [(.int z113), (.int z117)]) (rest := [(.int (own_f1 z115 z119)), (.int (own_f1 z113 z117)), (.ref b121), (.ref b121)]) (lenOf pd_2 rfl) rfl (by show 2 * 0 + _ ≤ _; exact Nat.le_of_eq rfl) (hb hby at_120) (fun _ _ => ⟨rfl, e124, (by decide : 2 + 0 ≤ _), (by decide : 8 + 0 ≤ _)⟩)
  dsimp only [Pt.U, Pt.locs, Pt.cells, Pt.slots] at X125 l125 y125 z125 st125 hQ125
  subst l125 y125 z125
  obtain ⟨rfl, N125q, e125⟩ := hQ125
  have N125 := Fr.app N124 N125q
  refine own_via (T125.setTop (mkF m 123 #[.val (.int p0), .val (.int p1), .val (.int p2), .val (.int p3), .val (.int p4), .val (.int p5), .val (.ref b101), .val (.int z113), .val (.int z115), .val (.int z117), .val (.int z119), .unset, .unset, .unset, .unset, .unset, .unset] [(.int (own_f2 z113 z117)), (.int (own_f1 z115 z119)), (.int (own_f1 z113 z117)), (.ref b121), (.ref b121)])) (fun t k => st125 t k) ?_
  refine own_via (T125.setTop (mkF m 125 #[.val (.int p0), .val (.int p1), .val (.int p2), .val (.int p3), .val (.int p4), .val (.int p5), .val (.ref b101), .val (.int z113), .val (.int z115), .val (.int z117), .val (.int z119), .unset, .unset, .unset, .unset, .unset, .unset] [(.int z115), (.int (own_f2 z113 z117)), (.int (own_f1 z115 z119)), (.int (own_f1 z113 z117)), (.ref b121), (.ref b121)])) (fun t k => XS.iload X125.here hx rfl (hb hby at_123) rfl  k) ?_
  refine own_via (T125.setTop (mkF m 127 #[.val (.int p0), .val (.int p1), .val (.int p2), .val (.int p3), .val (.int p4), .val (.int p5), .val (.ref b101), .val (.int z113), .val (.int z115), .val (.int z117), .val (.int z119), .unset, .unset, .unset, .unset, .unset, .unset] [(.int z119), (.int z115), (.int (own_f2 z113 z117)), (.int (own_f1 z115 z119)), (.int (own_f1 z113 z117)), (.ref b121), (.ref b121)])) (fun t k => XS.iload X125.here hx rfl (hb hby at_125) rfl  k) ?_
  obtain ⟨_, _, ⟨T126, L126, k126, n126⟩, -, X126, ⟨Lc126, hQ126, l126, y126, z126⟩, st126⟩ := Jvm.LawKit.callS X125 hx (y := (⟨"java/lang/Math", "max", "(II)I"⟩ : MethodName)) hown (mvT hZ (hw _ (List.mem_of_getElem? (i := 7) rfl))) (mvT hZ (hw _ (List.mem_of_getElem? (i := 8) rfl))) (mvT hZ (hw _ (List.mem_of_getElem? (i := 5) rfl))) (mvT hZ (hw _ (List.mem_of_getElem? (i := 9) rfl))) (by decide) (backOf (W := 5) (rm2 l Z a0 hw [] z115 z119 h121 n0 (Nat.le_trans Z0 K122.1)) hZ (hw _ (List.mem_of_getElem? (i := 9) rfl)) (hw _ (List.mem_of_getElem? (i := 5) rfl)) (by decide) (by decide)) (g := (mkF m 127 #[.val (.int p0), .val (.int p1), .val (.int p2), .val (.int p3), .val (.int p4), .val (.int p5), .val (.ref b101), .val (.int z113), .val (.int z115), .val (.int z117), .val (.int z119), .unset, .unset, .unset, .unset, .unset, .unset] [(.int z119), (.int z115), (.int (own_f2 z113 z117)), (.int (own_f1 z115 z119)), (.int (own_f1 z113 z117)), (.ref b121), (.ref b121)])) rfl (by rw [hml]; rfl) (argsL := [(.int z115), (.int z119)]) (rest := [(.int (own_f2 z113 z117)), (.int (own_f1 z115 z119)), (.int (own_f1 z113 z117)), (.ref b121), (.ref b121)]) (lenOf pd_2 rfl) rfl (by show 2 * 0 + _ ≤ _; exact Nat.le_of_eq rfl) (hb hby at_127) (fun _ _ => ⟨rfl, e125, (by decide : 2 + 0 ≤ _), (by decide : 8 + 0 ≤ _)⟩)
  dsimp only [Pt.U, Pt.locs, Pt.cells, Pt.slots] at X126 l126 y126 z126 st126 hQ126
  subst l126 y126 z126
  obtain ⟨rfl, N126q, e126⟩ := hQ126
  have N126 := Fr.app N125 N126q
  refine own_via (T126.setTop (mkF m 130 #[.val (.int p0), .val (.int p1), .val (.int p2), .val (.int p3), .val (.int p4), .val (.int p5), .val (.ref b101), .val (.int z113), .val (.int z115), .val (.int z117), .val (.int z119), .unset, .unset, .unset, .unset, .unset, .unset] [(.int (own_f2 z115 z119)), (.int (own_f2 z113 z117)), (.int (own_f1 z115 z119)), (.int (own_f1 z113 z117)), (.ref b121), (.ref b121)])) (fun t k => st126 t k) ?_
  obtain ⟨_, _, ⟨T127, L127, k127, n127⟩, -, X127, ⟨Lc127, hQ127, l127, y127, z127⟩, st127⟩ := X126.specialBack hx (y := (⟨"com/example/rondo/rondo/Rect", "<init>", "(IIII)V"⟩ : MethodName)) rfl hown (mvT hZ (hw _ (List.mem_of_getElem? (i := 10) rfl))) (mvT hZ (hw _ (List.mem_of_getElem? (i := 11) rfl))) (mvT hZ (hw _ (List.mem_of_getElem? (i := 12) rfl))) (by decide) (backOf (W := 1) (rm3 l Z a0 hw [] b121 (own_f1 z113 z117) (own_f1 z115 z119) (own_f2 z113 z117) (own_f2 z115 z119) h121 n0 (Nat.le_trans Z0 K122.1) F_left_b121 F_top_b121 F_right_b121 F_bottom_b121 A121 gg_b121 (own_mm _ _) (own_mm _ _)) hZ (hw _ (List.mem_of_getElem? (i := 12) rfl)) (hw _ (List.mem_of_getElem? (i := 2) rfl)) (by decide) (by decide)) (g := (mkF m 130 #[.val (.int p0), .val (.int p1), .val (.int p2), .val (.int p3), .val (.int p4), .val (.int p5), .val (.ref b101), .val (.int z113), .val (.int z115), .val (.int z117), .val (.int z119), .unset, .unset, .unset, .unset, .unset, .unset] [(.int (own_f2 z115 z119)), (.int (own_f2 z113 z117)), (.int (own_f1 z115 z119)), (.int (own_f1 z113 z117)), (.ref b121), (.ref b121)])) rfl (by rw [hml]; rfl) (Steps.refl _) (a := b121) (argsL := [(.int (own_f1 z113 z117)), (.int (own_f1 z115 z119)), (.int (own_f2 z113 z117)), (.int (own_f2 z115 z119))]) (rest := [(.ref b121)]) (lenOf pd_3 rfl) rfl (by show 2 * 0 + _ ≤ _; exact Nat.le_of_eq rfl) (hb hby at_130) (fun _ _ => ⟨rfl, e126, (by decide : 2 + 0 ≤ _), (by decide : 8 + 0 ≤ _)⟩)
  dsimp only [Pt.U, Pt.locs, Pt.cells, Pt.slots] at X127 l127 y127 z127 st127 hQ127
  subst l127 y127 z127
  obtain ⟨h127, e127⟩ : ∃ h, T127.heap = h := ⟨_, rfl⟩
  rw [e127] at hQ127
  obtain ⟨rfl, N127q, K127q, G127_0, G127_1, G127_2, G127_3, G127_4⟩ := hQ127
  have N127 := Fr.app N126 N127q
  have K128 : Keep h0 h127 [] := K122.trans K127q (fun x hx => (List.mem_cons.mp hx).elim (fun e => e ▸ Or.inr sz_b121) ((fun x hx => nomatch hx) x))
  obtain ⟨z129, hz129⟩ : ∃ z : Int32, z = (own_f1 z113 z117) := ⟨_, rfl⟩
  rw [← hz129] at G127_1
  obtain ⟨z130, hz130⟩ : ∃ z : Int32, z = (own_f1 z115 z119) := ⟨_, rfl⟩
  rw [← hz130] at G127_2
  obtain ⟨z131, hz131⟩ : ∃ z : Int32, z = (own_f2 z113 z117) := ⟨_, rfl⟩
  rw [← hz131] at G127_3
  obtain ⟨z132, hz132⟩ : ∃ z : Int32, z = (own_f2 z115 z119) := ⟨_, rfl⟩
  rw [← hz132] at G127_4
  refine own_via (T127.setTop (mkF m 133 #[.val (.int p0), .val (.int p1), .val (.int p2), .val (.int p3), .val (.int p4), .val (.int p5), .val (.ref b101), .val (.int z113), .val (.int z115), .val (.int z117), .val (.int z119), .unset, .unset, .unset, .unset, .unset, .unset] [(.ref b121)])) (fun t k => st127.trans k) ?_
  refine own_via (T127.setTop (mkF m 135 #[.val (.int p0), .val (.int p1), .val (.int p2), .val (.int p3), .val (.int p4), .val (.int p5), .val (.ref b101), .val (.int z113), .val (.int z115), .val (.int z117), .val (.int z119), .val (.ref b121), .unset, .unset, .unset, .unset, .unset] [])) (fun t k => XS.astore X127.here hx rfl (hb hby at_133) rfl rfl (l' := #[.val (.int p0), .val (.int p1), .val (.int p2), .val (.int p3), .val (.int p4), .val (.int p5), .val (.ref b101), .val (.int z113), .val (.int z115), .val (.int z117), .val (.int z119), .val (.ref b121), .unset, .unset, .unset, .unset, .unset]) rfl k) ?_
  refine own_via (T127.setTop (mkF m 136 #[.val (.int p0), .val (.int p1), .val (.int p2), .val (.int p3), .val (.int p4), .val (.int p5), .val (.ref b101), .val (.int z113), .val (.int z115), .val (.int z117), .val (.int z119), .val (.ref b121), .unset, .unset, .unset, .unset, .unset] [.null])) (fun t k => XS.aconstNull X127.here hx rfl (hb hby at_135) k) ?_
  refine own_via (T127.setTop (mkF m 138 #[.val (.int p0), .val (.int p1), .val (.int p2), .val (.int p3), .val (.int p4), .val (.int p5), .val (.ref b101), .val (.int z113), .val (.int z115), .val (.int z117), .val (.int z119), .val (.ref b121), .val .null, .unset, .unset, .unset, .unset] [])) (fun t k => XS.astore X127.here hx rfl (hb hby at_136) rfl rfl (l' := #[.val (.int p0), .val (.int p1), .val (.int p2), .val (.int p3), .val (.int p4), .val (.int p5), .val (.ref b101), .val (.int z113), .val (.int z115), .val (.int z117), .val (.int z119), .val (.ref b121), .val .null, .unset, .unset, .unset, .unset]) rfl k) ?_
  refine own_via (T127.setTop (mkF m 139 #[.val (.int p0), .val (.int p1), .val (.int p2), .val (.int p3), .val (.int p4), .val (.int p5), .val (.ref b101), .val (.int z113), .val (.int z115), .val (.int z117), .val (.int z119), .val (.ref b121), .val .null, .unset, .unset, .unset, .unset] [(.int p0)])) (fun t k => XS.iloadN X127.here hx rfl (hb hby at_138) rfl  k) ?_
  obtain ⟨_, _, ⟨T133, L133, k133, n133⟩, -, X133, ⟨Lc133, hQ133, l133, y133, z133⟩, st133⟩ := Jvm.LawKit.callS X127 hx (y := (⟨"java/lang/Integer", "valueOf", "(I)Ljava/lang/Integer;"⟩ : MethodName)) hown (mvT hZ (hw _ (List.mem_of_getElem? (i := 24) rfl))) (mvT hZ (hw _ (List.mem_of_getElem? (i := 25) rfl))) (mvT hZ (hw _ (List.mem_of_getElem? (i := 26) rfl))) (mvT hZ (hw _ (List.mem_of_getElem? (i := 27) rfl))) (by decide) (backOf (W := 0) (rm5 l Z a0 hw [] p0 h127 n0 (Nat.le_trans Z0 K128.1) (hcache.keep K128)) hZ (hw _ (List.mem_of_getElem? (i := 27) rfl)) (hw _ (List.mem_of_getElem? (i := 26) rfl)) (by decide) (by decide)) (g := (mkF m 139 #[.val (.int p0), .val (.int p1), .val (.int p2), .val (.int p3), .val (.int p4), .val (.int p5), .val (.ref b101), .val (.int z113), .val (.int z115), .val (.int z117), .val (.int z119), .val (.ref b121), .val .null, .unset, .unset, .unset, .unset] [(.int p0)])) rfl (by rw [hml]; rfl) (argsL := [(.int p0)]) (rest := []) (lenOf pd_4 rfl) rfl (by show 2 * 0 + _ ≤ _; exact Nat.le_of_eq rfl) (hb hby at_139) (fun _ _ => ⟨rfl, e127, (by decide : 2 + 1 ≤ _), (by decide : 8 + 1 ≤ _)⟩)
  dsimp only [Pt.U, Pt.locs, Pt.cells, Pt.slots] at X133 l133 y133 z133 st133 hQ133
  subst l133 y133 z133
  obtain ⟨h133, e133⟩ : ∃ h, T133.heap = h := ⟨_, rfl⟩
  rw [e133] at hQ133
  obtain ⟨r_133, rfl, N133q, K133q, G133_0⟩ := hQ133
  have N133 := Fr.app N127 N133q
  have K134 : Keep h0 h133 [] := K128.trans K133q (fun x hx => nomatch hx)
  refine own_via (T133.setTop (mkF m 142 #[.val (.int p0), .val (.int p1), .val (.int p2), .val (.int p3), .val (.int p4), .val (.int p5), .val (.ref b101), .val (.int z113), .val (.int z115), .val (.int z117), .val (.int z119), .val (.ref b121), .val .null, .unset, .unset, .unset, .unset] [(.ref r_133)])) (fun t k => st133 t k) ?_
  refine own_via (T133.setTop (mkF m 144 #[.val (.int p0), .val (.int p1), .val (.int p2), .val (.int p3), .val (.int p4), .val (.int p5), .val (.ref b101), .val (.int z113), .val (.int z115), .val (.int z117), .val (.int z119), .val (.ref b121), .val .null, .val (.ref r_133), .unset, .unset, .unset] [])) (fun t k => XS.astore X133.here hx rfl (hb hby at_142) rfl rfl (l' := #[.val (.int p0), .val (.int p1), .val (.int p2), .val (.int p3), .val (.int p4), .val (.int p5), .val (.ref b101), .val (.int z113), .val (.int z115), .val (.int z117), .val (.int z119), .val (.ref b121), .val .null, .val (.ref r_133), .unset, .unset, .unset]) rfl k) ?_
  refine own_via (T133.setTop (mkF m 146 #[.val (.int p0), .val (.int p1), .val (.int p2), .val (.int p3), .val (.int p4), .val (.int p5), .val (.ref b101), .val (.int z113), .val (.int z115), .val (.int z117), .val (.int z119), .val (.ref b121), .val .null, .val (.ref r_133), .unset, .unset, .unset] [(.ref b101)])) (fun t k => XS.aload X133.here hx rfl (hb hby at_144) rfl rfl k) ?_
  refine own_via (T133.setTop (mkF m 148 #[.val (.int p0), .val (.int p1), .val (.int p2), .val (.int p3), .val (.int p4), .val (.int p5), .val (.ref b101), .val (.int z113), .val (.int z115), .val (.int z117), .val (.int z119), .val (.ref b121), .val .null, .val (.ref r_133), .unset, .unset, .unset] [(.ref b121), (.ref b101)])) (fun t k => XS.aload X133.here hx rfl (hb hby at_146) rfl rfl k) ?_
  have F136 := (((G107_1.ext E121).keep K127q (fun q => ne_b101_b121 (List.mem_singleton.mp q))).keep K133q (by simp))
  have F137 := (((G107_2.ext E121).keep K127q (fun q => ne_b101_b121 (List.mem_singleton.mp q))).keep K133q (by simp))
  have F138 := (((G107_3.ext E121).keep K127q (fun q => ne_b101_b121 (List.mem_singleton.mp q))).keep K133q (by simp))
  have F139 := (((G107_4.ext E121).keep K127q (fun q => ne_b101_b121 (List.mem_singleton.mp q))).keep K133q (by simp))
  have F140 := (G127_1.keep K133q (by simp))
  have F141 := (G127_2.keep K133q (by simp))
  have F142 := (G127_3.keep K133q (by simp))
  have F143 := (G127_4.keep K133q (by simp))
  have F144 := (((G107_0.ext E121).keep K127q).keep K133q)
  obtain ⟨cq135, kq135, q135a, q135b, q135c⟩ := isOf hZ e133 F144
  obtain ⟨_, _, ⟨T135, L135, k135, n135⟩, -, X135, ⟨Lc135, hQ135, l135, y135, z135⟩, st135⟩ := X133.virtualBack hx (y := (⟨"com/example/rondo/rondo/Rect", "contains", "(Lcom/example/rondo/rondo/Rect;)Z"⟩ : MethodName)) (z := (⟨"com/example/rondo/rondo/Rect", "contains", "(Lcom/example/rondo/rondo/Rect;)Z"⟩ : MethodName)) hown (mvT hZ (hw _ (List.mem_of_getElem? (i := 31) rfl))) (mvT hZ (hw _ (List.mem_of_getElem? (i := 32) rfl))) (notFace_of_selects (args := #[]) (mvT hZ (hw _ (List.mem_of_getElem? (i := 34) rfl)))) (mvT hZ (hw _ (List.mem_of_getElem? (i := 34) rfl))) (mvT hZ (hw _ (List.mem_of_getElem? (i := 33) rfl))) (by decide) (backOf (W := 0) (rm6 l Z a0 hw [] b101 b121 h133 n0 (Nat.le_trans Z0 K134.1) z109 z110 z111 z112 z129 z130 z131 z132 F136 F137 F138 F139 F140 F141 F142 F143) hZ (hw _ (List.mem_of_getElem? (i := 35) rfl)) (hw _ (List.mem_of_getElem? (i := 2) rfl)) (by decide) (by decide)) q135a q135c (g := (mkF m 148 #[.val (.int p0), .val (.int p1), .val (.int p2), .val (.int p3), .val (.int p4), .val (.int p5), .val (.ref b101), .val (.int z113), .val (.int z115), .val (.int z117), .val (.int z119), .val (.ref b121), .val .null, .val (.ref r_133), .unset, .unset, .unset] [(.ref b121), (.ref b101)])) rfl (by rw [hml]; rfl) (Steps.refl _) (argsL := [(.ref b121)]) (rest := []) (lenOf pd_5 rfl) rfl (by show 2 * 0 + _ ≤ _; exact Nat.le_of_eq rfl) (hb hby at_148) (fun _ _ => ⟨rfl, e133, (by decide : 3 + 0 ≤ _), (by decide : 9 + 0 ≤ _)⟩)
  dsimp only [Pt.U, Pt.locs, Pt.cells, Pt.slots] at X135 l135 y135 z135 st135 hQ135
  subst l135 y135 z135
  obtain ⟨rfl, N135q, e135⟩ := hQ135
  have N135 := Fr.app N133 N135q
  refine own_via (T135.setTop (mkF m 151 #[.val (.int p0), .val (.int p1), .val (.int p2), .val (.int p3), .val (.int p4), .val (.int p5), .val (.ref b101), .val (.int z113), .val (.int z115), .val (.int z117), .val (.int z119), .val (.ref b121), .val .null, .val (.ref r_133), .unset, .unset, .unset] [(.int (own_f6 z109 z110 z111 z112 z129 z130 z131 z132))])) (fun t k => st135.trans k) ?_
  by_cases hct : (own_f6 z109 z110 z111 z112 z129 z130 z131 z132) = (0 : Int32)
  · refine own_via (T135.setTop (mkF m 168 #[.val (.int p0), .val (.int p1), .val (.int p2), .val (.int p3), .val (.int p4), .val (.int p5), .val (.ref b101), .val (.int z113), .val (.int z115), .val (.int z117), .val (.int z119), .val (.ref b121), .val .null, .val (.ref r_133), .unset, .unset, .unset] [])) (fun t k => XS.ifYes X135.here hx rfl (pc0 := 151) (pc' := 168) rfl (hb hby at_151) rfl ((if0 _ _).trans (teq hct).1) (by decide) (by decide) k) ?_
    refine own_via (T135.setTop (mkF m 169 #[.val (.int p0), .val (.int p1), .val (.int p2), .val (.int p3), .val (.int p4), .val (.int p5), .val (.ref b101), .val (.int z113), .val (.int z115), .val (.int z117), .val (.int z119), .val (.ref b121), .val .null, .val (.ref r_133), .unset, .unset, .unset] [(.int (0 : Int32))])) (fun t k => XS.iconst X135.here hx rfl (hb hby at_168) k) ?_
    refine own_via (T135.setTop (mkF m 171 #[.val (.int p0), .val (.int p1), .val (.int p2), .val (.int p3), .val (.int p4), .val (.int p5), .val (.ref b101), .val (.int z113), .val (.int z115), .val (.int z117), .val (.int z119), .val (.ref b121), .val .null, .val (.ref r_133), .val (.int (0 : Int32)), .unset, .unset] [])) (fun t k => XS.istore X135.here hx rfl (hb hby at_169) rfl (l' := #[.val (.int p0), .val (.int p1), .val (.int p2), .val (.int p3), .val (.int p4), .val (.int p5), .val (.ref b101), .val (.int z113), .val (.int z115), .val (.int z117), .val (.int z119), .val (.ref b121), .val .null, .val (.ref r_133), .val (.int (0 : Int32)), .unset, .unset]) rfl k) ?_
    refine own_via (T135.setTop (mkF m 173 #[.val (.int p0), .val (.int p1), .val (.int p2), .val (.int p3), .val (.int p4), .val (.int p5), .val (.ref b101), .val (.int z113), .val (.int z115), .val (.int z117), .val (.int z119), .val (.ref b121), .val .null, .val (.ref r_133), .val (.int (0 : Int32)), .unset, .unset] [(.ref b101)])) (fun t k => XS.aload X135.here hx rfl (hb hby at_171) rfl rfl k) ?_
    refine own_via (T135.setTop (mkF m 175 #[.val (.int p0), .val (.int p1), .val (.int p2), .val (.int p3), .val (.int p4), .val (.int p5), .val (.ref b101), .val (.int z113), .val (.int z115), .val (.int z117), .val (.int z119), .val (.ref b121), .val .null, .val (.ref r_133), .val (.int (0 : Int32)), .unset, .unset] [(.ref b121), (.ref b101)])) (fun t k => XS.aload X135.here hx rfl (hb hby at_173) rfl rfl k) ?_
    have F146 := (G127_0.keep K133q)
    obtain ⟨cq145, kq145, q145a, q145b, q145c⟩ := isOf hZ e135 F144
    obtain ⟨_, _, ⟨T145, L145, k145, n145⟩, -, X145, ⟨Lc145, hQ145, l145, y145, z145⟩, st145⟩ := X135.virtualBack hx (y := (⟨"com/example/rondo/rondo/Rect", "equals", "(Ljava/lang/Object;)Z"⟩ : MethodName)) (z := (⟨"com/example/rondo/rondo/Rect", "equals", "(Ljava/lang/Object;)Z"⟩ : MethodName)) hown (mvT hZ (hw _ (List.mem_of_getElem? (i := 36) rfl))) (mvT hZ (hw _ (List.mem_of_getElem? (i := 37) rfl))) (notFace_of_selects (args := #[]) (mvT hZ (hw _ (List.mem_of_getElem? (i := 39) rfl)))) (mvT hZ (hw _ (List.mem_of_getElem? (i := 39) rfl))) (mvT hZ (hw _ (List.mem_of_getElem? (i := 38) rfl))) (by decide) (backOf (W := 0) (rm7 l Z a0 hw [] b101 b121 h133 n0 (Nat.le_trans Z0 K134.1) z109 z110 z111 z112 z129 z130 z131 z132 F136 F137 F138 F139 F140 F141 F142 F143 F146) hZ (hw _ (List.mem_of_getElem? (i := 40) rfl)) (hw _ (List.mem_of_getElem? (i := 2) rfl)) (by decide) (by decide)) q145a q145c (g := (mkF m 175 #[.val (.int p0), .val (.int p1), .val (.int p2), .val (.int p3), .val (.int p4), .val (.int p5), .val (.ref b101), .val (.int z113), .val (.int z115), .val (.int z117), .val (.int z119), .val (.ref b121), .val .null, .val (.ref r_133), .val (.int (0 : Int32)), .unset, .unset] [(.ref b121), (.ref b101)])) rfl (by rw [hml]; rfl) (Steps.refl _) (argsL := [(.ref b121)]) (rest := []) (lenOf pd_6 rfl) rfl (by show 2 * 0 + _ ≤ _; exact Nat.le_of_eq rfl) (hb hby at_175) (fun _ _ => ⟨rfl, e135, (by decide : 3 + 0 ≤ _), (by decide : 9 + 0 ≤ _)⟩)
    dsimp only [Pt.U, Pt.locs, Pt.cells, Pt.slots] at X145 l145 y145 z145 st145 hQ145
    subst l145 y145 z145
    obtain ⟨rfl, N145q, e145⟩ := hQ145
    have N145 := Fr.app N135 N145q
    refine own_via (T145.setTop (mkF m 178 #[.val (.int p0), .val (.int p1), .val (.int p2), .val (.int p3), .val (.int p4), .val (.int p5), .val (.ref b101), .val (.int z113), .val (.int z115), .val (.int z117), .val (.int z119), .val (.ref b121), .val .null, .val (.ref r_133), .val (.int (0 : Int32)), .unset, .unset] [(.int (own_f7 z109 z110 z111 z112 z129 z130 z131 z132))])) (fun t k => st145.trans k) ?_
    obtain ⟨zab, hzab⟩ : ∃ z : Int32, z = (own_f7 z109 z110 z111 z112 z129 z130 z131 z132) := ⟨_, rfl⟩
    refine own_via (T145.setTop (mkF m 180 #[.val (.int p0), .val (.int p1), .val (.int p2), .val (.int p3), .val (.int p4), .val (.int p5), .val (.ref b101), .val (.int z113), .val (.int z115), .val (.int z117), .val (.int z119), .val (.ref b121), .val .null, .val (.ref r_133), .val (.int (0 : Int32)), .val (.int zab), .unset] [])) (fun t k => XS.istore X145.here hx rfl (hb hby at_178) rfl (l' := #[.val (.int p0), .val (.int p1), .val (.int p2), .val (.int p3), .val (.int p4), .val (.int p5), .val (.ref b101), .val (.int z113), .val (.int z115), .val (.int z117), .val (.int z119), .val (.ref b121), .val .null, .val (.ref r_133), .val (.int (0 : Int32)), .val (.int zab), .unset]) (by rw [hzab]; rfl) k) ?_
    refine own_via (T145.setTop (mkF m 182 #[.val (.int p0), .val (.int p1), .val (.int p2), .val (.int p3), .val (.int p4), .val (.int p5), .val (.ref b101), .val (.int z113), .val (.int z115), .val (.int z117), .val (.int z119), .val (.ref b121), .val .null, .val (.ref r_133), .val (.int (0 : Int32)), .val (.int zab), .unset] [(.ref b121)])) (fun t k => XS.aload X145.here hx rfl (hb hby at_180) rfl rfl k) ?_
    refine own_via (T145.setTop (mkF m 184 #[.val (.int p0), .val (.int p1), .val (.int p2), .val (.int p3), .val (.int p4), .val (.int p5), .val (.ref b101), .val (.int z113), .val (.int z115), .val (.int z117), .val (.int z119), .val (.ref b121), .val .null, .val (.ref r_133), .val (.int (0 : Int32)), .val (.int zab), .unset] [(.ref b101), (.ref b121)])) (fun t k => XS.aload X145.here hx rfl (hb hby at_182) rfl rfl k) ?_
    obtain ⟨cq147, kq147, q147a, q147b, q147c⟩ := isOf hZ e145 F146
    obtain ⟨_, _, ⟨T147, L147, k147, n147⟩, -, X147, ⟨Lc147, hQ147, l147, y147, z147⟩, st147⟩ := X145.virtualBack hx (y := (⟨"com/example/rondo/rondo/Rect", "equals", "(Ljava/lang/Object;)Z"⟩ : MethodName)) (z := (⟨"com/example/rondo/rondo/Rect", "equals", "(Ljava/lang/Object;)Z"⟩ : MethodName)) hown (mvT hZ (hw _ (List.mem_of_getElem? (i := 36) rfl))) (mvT hZ (hw _ (List.mem_of_getElem? (i := 37) rfl))) (notFace_of_selects (args := #[]) (mvT hZ (hw _ (List.mem_of_getElem? (i := 39) rfl)))) (mvT hZ (hw _ (List.mem_of_getElem? (i := 39) rfl))) (mvT hZ (hw _ (List.mem_of_getElem? (i := 38) rfl))) (by decide) (backOf (W := 0) (rm7 l Z a0 hw [] b121 b101 h133 n0 (Nat.le_trans Z0 K134.1) z129 z130 z131 z132 z109 z110 z111 z112 F140 F141 F142 F143 F136 F137 F138 F139 F144) hZ (hw _ (List.mem_of_getElem? (i := 40) rfl)) (hw _ (List.mem_of_getElem? (i := 2) rfl)) (by decide) (by decide)) q147a q147c (g := (mkF m 184 #[.val (.int p0), .val (.int p1), .val (.int p2), .val (.int p3), .val (.int p4), .val (.int p5), .val (.ref b101), .val (.int z113), .val (.int z115), .val (.int z117), .val (.int z119), .val (.ref b121), .val .null, .val (.ref r_133), .val (.int (0 : Int32)), .val (.int zab), .unset] [(.ref b101), (.ref b121)])) rfl (by rw [hml]; rfl) (Steps.refl _) (argsL := [(.ref b101)]) (rest := []) (lenOf pd_6 rfl) rfl (by show 2 * 0 + _ ≤ _; exact Nat.le_of_eq rfl) (hb hby at_184) (fun _ _ => ⟨rfl, e145, (by decide : 3 + 0 ≤ _), (by decide : 9 + 0 ≤ _)⟩)
    dsimp only [Pt.U, Pt.locs, Pt.cells, Pt.slots] at X147 l147 y147 z147 st147 hQ147
    subst l147 y147 z147
    obtain ⟨rfl, N147q, e147⟩ := hQ147
    have N147 := Fr.app N145 N147q
    refine own_via (T147.setTop (mkF m 187 #[.val (.int p0), .val (.int p1), .val (.int p2), .val (.int p3), .val (.int p4), .val (.int p5), .val (.ref b101), .val (.int z113), .val (.int z115), .val (.int z117), .val (.int z119), .val (.ref b121), .val .null, .val (.ref r_133), .val (.int (0 : Int32)), .val (.int zab), .unset] [(.int (own_f7 z129 z130 z131 z132 z109 z110 z111 z112))])) (fun t k => st147.trans k) ?_
    obtain ⟨zba, hzba⟩ : ∃ z : Int32, z = (own_f7 z129 z130 z131 z132 z109 z110 z111 z112) := ⟨_, rfl⟩
    refine own_via (T147.setTop (mkF m 189 #[.val (.int p0), .val (.int p1), .val (.int p2), .val (.int p3), .val (.int p4), .val (.int p5), .val (.ref b101), .val (.int z113), .val (.int z115), .val (.int z117), .val (.int z119), .val (.ref b121), .val .null, .val (.ref r_133), .val (.int (0 : Int32)), .val (.int zab), .val (.int zba)] [])) (fun t k => XS.istore X147.here hx rfl (hb hby at_187) rfl (l' := #[.val (.int p0), .val (.int p1), .val (.int p2), .val (.int p3), .val (.int p4), .val (.int p5), .val (.ref b101), .val (.int z113), .val (.int z115), .val (.int z117), .val (.int z119), .val (.ref b121), .val .null, .val (.ref r_133), .val (.int (0 : Int32)), .val (.int zab), .val (.int zba)]) (by rw [hzba]; rfl) k) ?_
    refine own_via (T147.setTop (mkF m 191 #[.val (.int p0), .val (.int p1), .val (.int p2), .val (.int p3), .val (.int p4), .val (.int p5), .val (.ref b101), .val (.int z113), .val (.int z115), .val (.int z117), .val (.int z119), .val (.ref b121), .val .null, .val (.ref r_133), .val (.int (0 : Int32)), .val (.int zab), .val (.int zba)] [(.int zab)])) (fun t k => XS.iload X147.here hx rfl (hb hby at_189) rfl  k) ?_
    refine own_via (T147.setTop (mkF m 193 #[.val (.int p0), .val (.int p1), .val (.int p2), .val (.int p3), .val (.int p4), .val (.int p5), .val (.ref b101), .val (.int z113), .val (.int z115), .val (.int z117), .val (.int z119), .val (.ref b121), .val .null, .val (.ref r_133), .val (.int (0 : Int32)), .val (.int zab), .val (.int zba)] [(.int (0 : Int32)), (.int zab)])) (fun t k => XS.iload X147.here hx rfl (hb hby at_191) rfl  k) ?_
    by_cases hc193_148 : zab = (0 : Int32)
    · refine own_via (T147.setTop (mkF m 196 #[.val (.int p0), .val (.int p1), .val (.int p2), .val (.int p3), .val (.int p4), .val (.int p5), .val (.ref b101), .val (.int z113), .val (.int z115), .val (.int z117), .val (.int z119), .val (.ref b121), .val .null, .val (.ref r_133), .val (.int (0 : Int32)), .val (.int zab), .val (.int zba)] [])) (fun t k => XS.icmpNo X147.here hx rfl (hb hby at_193) rfl (teq hc193_148).2 k) ?_
      refine own_via (T147.setTop (mkF m 198 #[.val (.int p0), .val (.int p1), .val (.int p2), .val (.int p3), .val (.int p4), .val (.int p5), .val (.ref b101), .val (.int z113), .val (.int z115), .val (.int z117), .val (.int z119), .val (.ref b121), .val .null, .val (.ref r_133), .val (.int (0 : Int32)), .val (.int zab), .val (.int zba)] [(.int zba)])) (fun t k => XS.iload X147.here hx rfl (hb hby at_196) rfl  k) ?_
      refine own_via (T147.setTop (mkF m 200 #[.val (.int p0), .val (.int p1), .val (.int p2), .val (.int p3), .val (.int p4), .val (.int p5), .val (.ref b101), .val (.int z113), .val (.int z115), .val (.int z117), .val (.int z119), .val (.ref b121), .val .null, .val (.ref r_133), .val (.int (0 : Int32)), .val (.int zab), .val (.int zba)] [(.int (0 : Int32)), (.int zba)])) (fun t k => XS.iload X147.here hx rfl (hb hby at_198) rfl  k) ?_
      by_cases hc200_149 : zba = (0 : Int32)
      · refine own_via (T147.setTop (mkF m 205 #[.val (.int p0), .val (.int p1), .val (.int p2), .val (.int p3), .val (.int p4), .val (.int p5), .val (.ref b101), .val (.int z113), .val (.int z115), .val (.int z117), .val (.int z119), .val (.ref b121), .val .null, .val (.ref r_133), .val (.int (0 : Int32)), .val (.int zab), .val (.int zba)] [])) (fun t k => XS.icmpYes X147.here hx rfl (pc0 := 200) (pc' := 205) rfl (hb hby at_200) rfl (teq hc200_149).1 (by decide) (by decide) k) ?_
        refine own_via (T147.setTop (mkF m 207 #[.val (.int p0), .val (.int p1), .val (.int p2), .val (.int p3), .val (.int p4), .val (.int p5), .val (.ref b101), .val (.int z113), .val (.int z115), .val (.int z117), .val (.int z119), .val (.ref b121), .val .null, .val (.ref r_133), .val (.int (0 : Int32)), .val (.int zab), .val (.int zba)] [(.int zab)])) (fun t k => XS.iload X147.here hx rfl (hb hby at_205) rfl  k) ?_
        by_cases hab : zab = (0 : Int32)
        · refine own_via (T147.setTop (mkF m 225 #[.val (.int p0), .val (.int p1), .val (.int p2), .val (.int p3), .val (.int p4), .val (.int p5), .val (.ref b101), .val (.int z113), .val (.int z115), .val (.int z117), .val (.int z119), .val (.ref b121), .val .null, .val (.ref r_133), .val (.int (0 : Int32)), .val (.int zab), .val (.int zba)] [])) (fun t k => XS.ifYes X147.here hx rfl (pc0 := 207) (pc' := 225) rfl (hb hby at_207) rfl ((if0 _ _).trans (teq hab).1) (by decide) (by decide) k) ?_
          refine own_via (T147.setTop (mkF m 227 #[.val (.int p0), .val (.int p1), .val (.int p2), .val (.int p3), .val (.int p4), .val (.int p5), .val (.ref b101), .val (.int z113), .val (.int z115), .val (.int z117), .val (.int z119), .val (.ref b121), .val .null, .val (.ref r_133), .val (.int (0 : Int32)), .val (.int zab), .val (.int zba)] [(.ref b101)])) (fun t k => XS.aload X147.here hx rfl (hb hby at_225) rfl rfl k) ?_
          refine own_via (T147.setTop (mkF m 229 #[.val (.int p0), .val (.int p1), .val (.int p2), .val (.int p3), .val (.int p4), .val (.int p5), .val (.ref b101), .val (.int z113), .val (.int z115), .val (.int z117), .val (.int z119), .val (.ref b121), .val .null, .val (.ref r_133), .val (.int (0 : Int32)), .val (.int zab), .val (.int zba)] [(.ref b101), (.ref b101)])) (fun t k => XS.aload X147.here hx rfl (hb hby at_227) rfl rfl k) ?_
          obtain ⟨cq150, kq150, q150a, q150b, q150c⟩ := isOf hZ e147 F144
          obtain ⟨_, _, ⟨T150, L150, k150, n150⟩, -, X150, ⟨Lc150, hQ150, l150, y150, z150⟩, st150⟩ := X147.virtualBack hx (y := (⟨"com/example/rondo/rondo/Rect", "equals", "(Ljava/lang/Object;)Z"⟩ : MethodName)) (z := (⟨"com/example/rondo/rondo/Rect", "equals", "(Ljava/lang/Object;)Z"⟩ : MethodName)) hown (mvT hZ (hw _ (List.mem_of_getElem? (i := 36) rfl))) (mvT hZ (hw _ (List.mem_of_getElem? (i := 37) rfl))) (notFace_of_selects (args := #[]) (mvT hZ (hw _ (List.mem_of_getElem? (i := 39) rfl)))) (mvT hZ (hw _ (List.mem_of_getElem? (i := 39) rfl))) (mvT hZ (hw _ (List.mem_of_getElem? (i := 38) rfl))) (by decide) (backOf (W := 0) (rm7 l Z a0 hw [] b101 b101 h133 n0 (Nat.le_trans Z0 K134.1) z109 z110 z111 z112 z109 z110 z111 z112 F136 F137 F138 F139 F136 F137 F138 F139 F144) hZ (hw _ (List.mem_of_getElem? (i := 40) rfl)) (hw _ (List.mem_of_getElem? (i := 2) rfl)) (by decide) (by decide)) q150a q150c (g := (mkF m 229 #[.val (.int p0), .val (.int p1), .val (.int p2), .val (.int p3), .val (.int p4), .val (.int p5), .val (.ref b101), .val (.int z113), .val (.int z115), .val (.int z117), .val (.int z119), .val (.ref b121), .val .null, .val (.ref r_133), .val (.int (0 : Int32)), .val (.int zab), .val (.int zba)] [(.ref b101), (.ref b101)])) rfl (by rw [hml]; rfl) (Steps.refl _) (argsL := [(.ref b101)]) (rest := []) (lenOf pd_6 rfl) rfl (by show 2 * 0 + _ ≤ _; exact Nat.le_of_eq rfl) (hb hby at_229) (fun _ _ => ⟨rfl, e147, (by decide : 3 + 0 ≤ _), (by decide : 9 + 0 ≤ _)⟩)
          dsimp only [Pt.U, Pt.locs, Pt.cells, Pt.slots] at X150 l150 y150 z150 st150 hQ150
          subst l150 y150 z150
          obtain ⟨rfl, N150q, e150⟩ := hQ150
          have N150 := Fr.app N147 N150q
          refine own_via (T150.setTop (mkF m 232 #[.val (.int p0), .val (.int p1), .val (.int p2), .val (.int p3), .val (.int p4), .val (.int p5), .val (.ref b101), .val (.int z113), .val (.int z115), .val (.int z117), .val (.int z119), .val (.ref b121), .val .null, .val (.ref r_133), .val (.int (0 : Int32)), .val (.int zab), .val (.int zba)] [(.int (own_f7 z109 z110 z111 z112 z109 z110 z111 z112))])) (fun t k => st150.trans k) ?_
          by_cases hc232_151 : (own_f7 z109 z110 z111 z112 z109 z110 z111 z112) = (0 : Int32)
          · exact absurd hc232_151 (own_self7 _ _ _ _)
          · refine own_via (T150.setTop (mkF m 235 #[.val (.int p0), .val (.int p1), .val (.int p2), .val (.int p3), .val (.int p4), .val (.int p5), .val (.ref b101), .val (.int z113), .val (.int z115), .val (.int z117), .val (.int z119), .val (.ref b121), .val .null, .val (.ref r_133), .val (.int (0 : Int32)), .val (.int zab), .val (.int zba)] [])) (fun t k => XS.ifNo X150.here hx rfl (hb hby at_232) rfl ((if0 _ _).trans (feq hc232_151).1) k) ?_
            refine own_via (T150.setTop (mkF m 237 #[.val (.int p0), .val (.int p1), .val (.int p2), .val (.int p3), .val (.int p4), .val (.int p5), .val (.ref b101), .val (.int z113), .val (.int z115), .val (.int z117), .val (.int z119), .val (.ref b121), .val .null, .val (.ref r_133), .val (.int (0 : Int32)), .val (.int zab), .val (.int zba)] [(.ref b101)])) (fun t k => XS.aload X150.here hx rfl (hb hby at_235) rfl rfl k) ?_
            refine own_via (T150.setTop (mkF m 239 #[.val (.int p0), .val (.int p1), .val (.int p2), .val (.int p3), .val (.int p4), .val (.int p5), .val (.ref b101), .val (.int z113), .val (.int z115), .val (.int z117), .val (.int z119), .val (.ref b121), .val .null, .val (.ref r_133), .val (.int (0 : Int32)), .val (.int zab), .val (.int zba)] [.null, (.ref b101)])) (fun t k => XS.aload X150.here hx rfl (hb hby at_237) rfl rfl k) ?_
            obtain ⟨cq152, kq152, q152a, q152b, q152c⟩ := isOf hZ e150 F144
            obtain ⟨_, _, ⟨T152, L152, k152, n152⟩, -, X152, ⟨Lc152, hQ152, l152, y152, z152⟩, st152⟩ := X150.virtualBack hx (y := (⟨"com/example/rondo/rondo/Rect", "equals", "(Ljava/lang/Object;)Z"⟩ : MethodName)) (z := (⟨"com/example/rondo/rondo/Rect", "equals", "(Ljava/lang/Object;)Z"⟩ : MethodName)) hown (mvT hZ (hw _ (List.mem_of_getElem? (i := 36) rfl))) (mvT hZ (hw _ (List.mem_of_getElem? (i := 37) rfl))) (notFace_of_selects (args := #[]) (mvT hZ (hw _ (List.mem_of_getElem? (i := 39) rfl)))) (mvT hZ (hw _ (List.mem_of_getElem? (i := 39) rfl))) (mvT hZ (hw _ (List.mem_of_getElem? (i := 38) rfl))) (by decide) (backOf (W := 0) (rm7n l Z a0 hw [] b101 h133 n0 (Nat.le_trans Z0 K134.1) ) hZ (hw _ (List.mem_of_getElem? (i := 40) rfl)) (hw _ (List.mem_of_getElem? (i := 2) rfl)) (by decide) (by decide)) q152a q152c (g := (mkF m 239 #[.val (.int p0), .val (.int p1), .val (.int p2), .val (.int p3), .val (.int p4), .val (.int p5), .val (.ref b101), .val (.int z113), .val (.int z115), .val (.int z117), .val (.int z119), .val (.ref b121), .val .null, .val (.ref r_133), .val (.int (0 : Int32)), .val (.int zab), .val (.int zba)] [.null, (.ref b101)])) rfl (by rw [hml]; rfl) (Steps.refl _) (argsL := [.null]) (rest := []) (lenOf pd_6 rfl) rfl (by show 2 * 0 + _ ≤ _; exact Nat.le_of_eq rfl) (hb hby at_239) (fun _ _ => ⟨rfl, e150, (by decide : 3 + 0 ≤ _), (by decide : 9 + 0 ≤ _)⟩)
            dsimp only [Pt.U, Pt.locs, Pt.cells, Pt.slots] at X152 l152 y152 z152 st152 hQ152
            subst l152 y152 z152
            obtain ⟨rfl, N152q, e152⟩ := hQ152
            have N152 := Fr.app N150 N152q
            refine own_via (T152.setTop (mkF m 242 #[.val (.int p0), .val (.int p1), .val (.int p2), .val (.int p3), .val (.int p4), .val (.int p5), .val (.ref b101), .val (.int z113), .val (.int z115), .val (.int z117), .val (.int z119), .val (.ref b121), .val .null, .val (.ref r_133), .val (.int (0 : Int32)), .val (.int zab), .val (.int zba)] [(.int (0 : Int32))])) (fun t k => st152.trans k) ?_
            refine own_via (T152.setTop (mkF m 245 #[.val (.int p0), .val (.int p1), .val (.int p2), .val (.int p3), .val (.int p4), .val (.int p5), .val (.ref b101), .val (.int z113), .val (.int z115), .val (.int z117), .val (.int z119), .val (.ref b121), .val .null, .val (.ref r_133), .val (.int (0 : Int32)), .val (.int zab), .val (.int zba)] [])) (fun t k => XS.ifNo X152.here hx rfl (hb hby at_242) rfl ((if0 _ _).trans (teq (by decide)).2) k) ?_
            refine own_via (T152.setTop (mkF m 247 #[.val (.int p0), .val (.int p1), .val (.int p2), .val (.int p3), .val (.int p4), .val (.int p5), .val (.ref b101), .val (.int z113), .val (.int z115), .val (.int z117), .val (.int z119), .val (.ref b121), .val .null, .val (.ref r_133), .val (.int (0 : Int32)), .val (.int zab), .val (.int zba)] [(.ref b101)])) (fun t k => XS.aload X152.here hx rfl (hb hby at_245) rfl rfl k) ?_
            refine own_via (T152.setTop (mkF m 249 #[.val (.int p0), .val (.int p1), .val (.int p2), .val (.int p3), .val (.int p4), .val (.int p5), .val (.ref b101), .val (.int z113), .val (.int z115), .val (.int z117), .val (.int z119), .val (.ref b121), .val .null, .val (.ref r_133), .val (.int (0 : Int32)), .val (.int zab), .val (.int zba)] [(.ref r_133), (.ref b101)])) (fun t k => XS.aload X152.here hx rfl (hb hby at_247) rfl rfl k) ?_
            obtain ⟨cq153, kq153, q153a, q153b, q153c⟩ := isOf hZ e152 F144
            obtain ⟨_, _, ⟨T153, L153, k153, n153⟩, -, X153, ⟨Lc153, hQ153, l153, y153, z153⟩, st153⟩ := X152.virtualBack hx (y := (⟨"com/example/rondo/rondo/Rect", "equals", "(Ljava/lang/Object;)Z"⟩ : MethodName)) (z := (⟨"com/example/rondo/rondo/Rect", "equals", "(Ljava/lang/Object;)Z"⟩ : MethodName)) hown (mvT hZ (hw _ (List.mem_of_getElem? (i := 36) rfl))) (mvT hZ (hw _ (List.mem_of_getElem? (i := 37) rfl))) (notFace_of_selects (args := #[]) (mvT hZ (hw _ (List.mem_of_getElem? (i := 39) rfl)))) (mvT hZ (hw _ (List.mem_of_getElem? (i := 39) rfl))) (mvT hZ (hw _ (List.mem_of_getElem? (i := 38) rfl))) (by decide) (backOf (W := 0) (rm7i l Z a0 hw [] b101 r_133 h133 n0 (Nat.le_trans Z0 K134.1) G133_0 (own_noRect hw)) hZ (hw _ (List.mem_of_getElem? (i := 40) rfl)) (hw _ (List.mem_of_getElem? (i := 2) rfl)) (by decide) (by decide)) q153a q153c (g := (mkF m 249 #[.val (.int p0), .val (.int p1), .val (.int p2), .val (.int p3), .val (.int p4), .val (.int p5), .val (.ref b101), .val (.int z113), .val (.int z115), .val (.int z117), .val (.int z119), .val (.ref b121), .val .null, .val (.ref r_133), .val (.int (0 : Int32)), .val (.int zab), .val (.int zba)] [(.ref r_133), (.ref b101)])) rfl (by rw [hml]; rfl) (Steps.refl _) (argsL := [(.ref r_133)]) (rest := []) (lenOf pd_6 rfl) rfl (by show 2 * 0 + _ ≤ _; exact Nat.le_of_eq rfl) (hb hby at_249) (fun _ _ => ⟨rfl, e152, (by decide : 3 + 0 ≤ _), (by decide : 9 + 0 ≤ _)⟩)
            dsimp only [Pt.U, Pt.locs, Pt.cells, Pt.slots] at X153 l153 y153 z153 st153 hQ153
            subst l153 y153 z153
            obtain ⟨rfl, N153q, e153⟩ := hQ153
            have N153 := Fr.app N152 N153q
            refine own_via (T153.setTop (mkF m 252 #[.val (.int p0), .val (.int p1), .val (.int p2), .val (.int p3), .val (.int p4), .val (.int p5), .val (.ref b101), .val (.int z113), .val (.int z115), .val (.int z117), .val (.int z119), .val (.ref b121), .val .null, .val (.ref r_133), .val (.int (0 : Int32)), .val (.int zab), .val (.int zba)] [(.int (0 : Int32))])) (fun t k => st153.trans k) ?_
            refine own_via (T153.setTop (mkF m 255 #[.val (.int p0), .val (.int p1), .val (.int p2), .val (.int p3), .val (.int p4), .val (.int p5), .val (.ref b101), .val (.int z113), .val (.int z115), .val (.int z117), .val (.int z119), .val (.ref b121), .val .null, .val (.ref r_133), .val (.int (0 : Int32)), .val (.int zab), .val (.int zba)] [])) (fun t k => XS.ifNo X153.here hx rfl (hb hby at_252) rfl ((if0 _ _).trans (teq (by decide)).2) k) ?_
            refine own_via (T153.setTop (mkF m 256 #[.val (.int p0), .val (.int p1), .val (.int p2), .val (.int p3), .val (.int p4), .val (.int p5), .val (.ref b101), .val (.int z113), .val (.int z115), .val (.int z117), .val (.int z119), .val (.ref b121), .val .null, .val (.ref r_133), .val (.int (0 : Int32)), .val (.int zab), .val (.int zba)] [(.int (1 : Int32))])) (fun t k => XS.iconst X153.here hx rfl (hb hby at_255) k) ?_
            refine own_via (T153.setTop (mkF m 260 #[.val (.int p0), .val (.int p1), .val (.int p2), .val (.int p3), .val (.int p4), .val (.int p5), .val (.ref b101), .val (.int z113), .val (.int z115), .val (.int z117), .val (.int z119), .val (.ref b121), .val .null, .val (.ref r_133), .val (.int (0 : Int32)), .val (.int zab), .val (.int zba)] [(.int (1 : Int32))])) (fun t k => XS.goto X153.here hx rfl (pc0 := 256) (pc' := 260) rfl (hb hby at_256) (by decide) (by decide) k) ?_
            refine own_leave X153 Bd.notSynchronized (v := some (.int (1 : Int32))) (fun h => by rw [Bd.returns] at h; cases h) (fun fs hr => retN X153 hx (t := .boolean) Bd.returns (by simp) (hb hby at_260) hr) ?_ (by decide) (by decide)
            exact ⟨rfl, N153⟩
        · refine own_via (T147.setTop (mkF m 210 #[.val (.int p0), .val (.int p1), .val (.int p2), .val (.int p3), .val (.int p4), .val (.int p5), .val (.ref b101), .val (.int z113), .val (.int z115), .val (.int z117), .val (.int z119), .val (.ref b121), .val .null, .val (.ref r_133), .val (.int (0 : Int32)), .val (.int zab), .val (.int zba)] [])) (fun t k => XS.ifNo X147.here hx rfl (hb hby at_207) rfl ((if0 _ _).trans (feq hab).1) k) ?_
          refine own_via (T147.setTop (mkF m 212 #[.val (.int p0), .val (.int p1), .val (.int p2), .val (.int p3), .val (.int p4), .val (.int p5), .val (.ref b101), .val (.int z113), .val (.int z115), .val (.int z117), .val (.int z119), .val (.ref b121), .val .null, .val (.ref r_133), .val (.int (0 : Int32)), .val (.int zab), .val (.int zba)] [(.ref b101)])) (fun t k => XS.aload X147.here hx rfl (hb hby at_210) rfl rfl k) ?_
          obtain ⟨cq154, kq154, q154a, q154b, q154c⟩ := isOf hZ e147 F144
          obtain ⟨_, _, ⟨T154, L154, k154, n154⟩, -, X154, ⟨Lc154, hQ154, l154, y154, z154⟩, st154⟩ := X147.virtualBack hx (y := (⟨"com/example/rondo/rondo/Rect", "hashCode", "()I"⟩ : MethodName)) (z := (⟨"com/example/rondo/rondo/Rect", "hashCode", "()I"⟩ : MethodName)) hown (mvT hZ (hw _ (List.mem_of_getElem? (i := 43) rfl))) (mvT hZ (hw _ (List.mem_of_getElem? (i := 44) rfl))) (notFace_of_selects (args := #[]) (mvT hZ (hw _ (List.mem_of_getElem? (i := 46) rfl)))) (mvT hZ (hw _ (List.mem_of_getElem? (i := 46) rfl))) (mvT hZ (hw _ (List.mem_of_getElem? (i := 45) rfl))) (by decide) (backOf (W := 0) (rm8 l Z a0 hw [] b101 h133 n0 (Nat.le_trans Z0 K134.1) z109 z110 z111 z112 F136 F137 F138 F139) hZ (hw _ (List.mem_of_getElem? (i := 47) rfl)) (hw _ (List.mem_of_getElem? (i := 2) rfl)) (by decide) (by decide)) q154a q154c (g := (mkF m 212 #[.val (.int p0), .val (.int p1), .val (.int p2), .val (.int p3), .val (.int p4), .val (.int p5), .val (.ref b101), .val (.int z113), .val (.int z115), .val (.int z117), .val (.int z119), .val (.ref b121), .val .null, .val (.ref r_133), .val (.int (0 : Int32)), .val (.int zab), .val (.int zba)] [(.ref b101)])) rfl (by rw [hml]; rfl) (Steps.refl _) (argsL := []) (rest := []) (lenOf pd_7 rfl) rfl (by show 2 * 0 + _ ≤ _; exact Nat.le_of_eq rfl) (hb hby at_212) (fun _ _ => ⟨rfl, e147, (by decide : 3 + 0 ≤ _), (by decide : 9 + 0 ≤ _)⟩)
          dsimp only [Pt.U, Pt.locs, Pt.cells, Pt.slots] at X154 l154 y154 z154 st154 hQ154
          subst l154 y154 z154
          obtain ⟨rfl, N154q, e154⟩ := hQ154
          have N154 := Fr.app N147 N154q
          refine own_via (T154.setTop (mkF m 215 #[.val (.int p0), .val (.int p1), .val (.int p2), .val (.int p3), .val (.int p4), .val (.int p5), .val (.ref b101), .val (.int z113), .val (.int z115), .val (.int z117), .val (.int z119), .val (.ref b121), .val .null, .val (.ref r_133), .val (.int (0 : Int32)), .val (.int zab), .val (.int zba)] [(.int (own_f8 z109 z110 z111 z112))])) (fun t k => st154.trans k) ?_
          refine own_via (T154.setTop (mkF m 217 #[.val (.int p0), .val (.int p1), .val (.int p2), .val (.int p3), .val (.int p4), .val (.int p5), .val (.ref b101), .val (.int z113), .val (.int z115), .val (.int z117), .val (.int z119), .val (.ref b121), .val .null, .val (.ref r_133), .val (.int (0 : Int32)), .val (.int zab), .val (.int zba)] [(.ref b121), (.int (own_f8 z109 z110 z111 z112))])) (fun t k => XS.aload X154.here hx rfl (hb hby at_215) rfl rfl k) ?_
          obtain ⟨cq155, kq155, q155a, q155b, q155c⟩ := isOf hZ e154 F146
          obtain ⟨_, _, ⟨T155, L155, k155, n155⟩, -, X155, ⟨Lc155, hQ155, l155, y155, z155⟩, st155⟩ := X154.virtualBack hx (y := (⟨"com/example/rondo/rondo/Rect", "hashCode", "()I"⟩ : MethodName)) (z := (⟨"com/example/rondo/rondo/Rect", "hashCode", "()I"⟩ : MethodName)) hown (mvT hZ (hw _ (List.mem_of_getElem? (i := 43) rfl))) (mvT hZ (hw _ (List.mem_of_getElem? (i := 44) rfl))) (notFace_of_selects (args := #[]) (mvT hZ (hw _ (List.mem_of_getElem? (i := 46) rfl)))) (mvT hZ (hw _ (List.mem_of_getElem? (i := 46) rfl))) (mvT hZ (hw _ (List.mem_of_getElem? (i := 45) rfl))) (by decide) (backOf (W := 1) (rm8 l Z a0 hw [] b121 h133 n0 (Nat.le_trans Z0 K134.1) z129 z130 z131 z132 F140 F141 F142 F143) hZ (hw _ (List.mem_of_getElem? (i := 47) rfl)) (hw _ (List.mem_of_getElem? (i := 2) rfl)) (by decide) (by decide)) q155a q155c (g := (mkF m 217 #[.val (.int p0), .val (.int p1), .val (.int p2), .val (.int p3), .val (.int p4), .val (.int p5), .val (.ref b101), .val (.int z113), .val (.int z115), .val (.int z117), .val (.int z119), .val (.ref b121), .val .null, .val (.ref r_133), .val (.int (0 : Int32)), .val (.int zab), .val (.int zba)] [(.ref b121), (.int (own_f8 z109 z110 z111 z112))])) rfl (by rw [hml]; rfl) (Steps.refl _) (argsL := []) (rest := [(.int (own_f8 z109 z110 z111 z112))]) (lenOf pd_7 rfl) rfl (by show 2 * 0 + _ ≤ _; exact Nat.le_of_eq rfl) (hb hby at_217) (fun _ _ => ⟨rfl, e154, (by decide : 3 + 0 ≤ _), (by decide : 9 + 0 ≤ _)⟩)
          dsimp only [Pt.U, Pt.locs, Pt.cells, Pt.slots] at X155 l155 y155 z155 st155 hQ155
          subst l155 y155 z155
          obtain ⟨rfl, N155q, e155⟩ := hQ155
          have N155 := Fr.app N154 N155q
          refine own_via (T155.setTop (mkF m 220 #[.val (.int p0), .val (.int p1), .val (.int p2), .val (.int p3), .val (.int p4), .val (.int p5), .val (.ref b101), .val (.int z113), .val (.int z115), .val (.int z117), .val (.int z119), .val (.ref b121), .val .null, .val (.ref r_133), .val (.int (0 : Int32)), .val (.int zab), .val (.int zba)] [(.int (own_f8 z129 z130 z131 z132)), (.int (own_f8 z109 z110 z111 z112))])) (fun t k => st155.trans k) ?_
          by_cases hc220_156 : (own_f8 z109 z110 z111 z112) = (own_f8 z129 z130 z131 z132)
          · refine own_via (T155.setTop (mkF m 225 #[.val (.int p0), .val (.int p1), .val (.int p2), .val (.int p3), .val (.int p4), .val (.int p5), .val (.ref b101), .val (.int z113), .val (.int z115), .val (.int z117), .val (.int z119), .val (.ref b121), .val .null, .val (.ref r_133), .val (.int (0 : Int32)), .val (.int zab), .val (.int zba)] [])) (fun t k => XS.icmpYes X155.here hx rfl (pc0 := 220) (pc' := 225) rfl (hb hby at_220) rfl (teq hc220_156).1 (by decide) (by decide) k) ?_
            refine own_via (T155.setTop (mkF m 227 #[.val (.int p0), .val (.int p1), .val (.int p2), .val (.int p3), .val (.int p4), .val (.int p5), .val (.ref b101), .val (.int z113), .val (.int z115), .val (.int z117), .val (.int z119), .val (.ref b121), .val .null, .val (.ref r_133), .val (.int (0 : Int32)), .val (.int zab), .val (.int zba)] [(.ref b101)])) (fun t k => XS.aload X155.here hx rfl (hb hby at_225) rfl rfl k) ?_
            refine own_via (T155.setTop (mkF m 229 #[.val (.int p0), .val (.int p1), .val (.int p2), .val (.int p3), .val (.int p4), .val (.int p5), .val (.ref b101), .val (.int z113), .val (.int z115), .val (.int z117), .val (.int z119), .val (.ref b121), .val .null, .val (.ref r_133), .val (.int (0 : Int32)), .val (.int zab), .val (.int zba)] [(.ref b101), (.ref b101)])) (fun t k => XS.aload X155.here hx rfl (hb hby at_227) rfl rfl k) ?_
            obtain ⟨cq157, kq157, q157a, q157b, q157c⟩ := isOf hZ e155 F144
            obtain ⟨_, _, ⟨T157, L157, k157, n157⟩, -, X157, ⟨Lc157, hQ157, l157, y157, z157⟩, st157⟩ := X155.virtualBack hx (y := (⟨"com/example/rondo/rondo/Rect", "equals", "(Ljava/lang/Object;)Z"⟩ : MethodName)) (z := (⟨"com/example/rondo/rondo/Rect", "equals", "(Ljava/lang/Object;)Z"⟩ : MethodName)) hown (mvT hZ (hw _ (List.mem_of_getElem? (i := 36) rfl))) (mvT hZ (hw _ (List.mem_of_getElem? (i := 37) rfl))) (notFace_of_selects (args := #[]) (mvT hZ (hw _ (List.mem_of_getElem? (i := 39) rfl)))) (mvT hZ (hw _ (List.mem_of_getElem? (i := 39) rfl))) (mvT hZ (hw _ (List.mem_of_getElem? (i := 38) rfl))) (by decide) (backOf (W := 0) (rm7 l Z a0 hw [] b101 b101 h133 n0 (Nat.le_trans Z0 K134.1) z109 z110 z111 z112 z109 z110 z111 z112 F136 F137 F138 F139 F136 F137 F138 F139 F144) hZ (hw _ (List.mem_of_getElem? (i := 40) rfl)) (hw _ (List.mem_of_getElem? (i := 2) rfl)) (by decide) (by decide)) q157a q157c (g := (mkF m 229 #[.val (.int p0), .val (.int p1), .val (.int p2), .val (.int p3), .val (.int p4), .val (.int p5), .val (.ref b101), .val (.int z113), .val (.int z115), .val (.int z117), .val (.int z119), .val (.ref b121), .val .null, .val (.ref r_133), .val (.int (0 : Int32)), .val (.int zab), .val (.int zba)] [(.ref b101), (.ref b101)])) rfl (by rw [hml]; rfl) (Steps.refl _) (argsL := [(.ref b101)]) (rest := []) (lenOf pd_6 rfl) rfl (by show 2 * 0 + _ ≤ _; exact Nat.le_of_eq rfl) (hb hby at_229) (fun _ _ => ⟨rfl, e155, (by decide : 3 + 0 ≤ _), (by decide : 9 + 0 ≤ _)⟩)
            dsimp only [Pt.U, Pt.locs, Pt.cells, Pt.slots] at X157 l157 y157 z157 st157 hQ157
            subst l157 y157 z157
            obtain ⟨rfl, N157q, e157⟩ := hQ157
            have N157 := Fr.app N155 N157q
            refine own_via (T157.setTop (mkF m 232 #[.val (.int p0), .val (.int p1), .val (.int p2), .val (.int p3), .val (.int p4), .val (.int p5), .val (.ref b101), .val (.int z113), .val (.int z115), .val (.int z117), .val (.int z119), .val (.ref b121), .val .null, .val (.ref r_133), .val (.int (0 : Int32)), .val (.int zab), .val (.int zba)] [(.int (own_f7 z109 z110 z111 z112 z109 z110 z111 z112))])) (fun t k => st157.trans k) ?_
            by_cases hc232_158 : (own_f7 z109 z110 z111 z112 z109 z110 z111 z112) = (0 : Int32)
            · exact absurd hc232_158 (own_self7 _ _ _ _)
            · refine own_via (T157.setTop (mkF m 235 #[.val (.int p0), .val (.int p1), .val (.int p2), .val (.int p3), .val (.int p4), .val (.int p5), .val (.ref b101), .val (.int z113), .val (.int z115), .val (.int z117), .val (.int z119), .val (.ref b121), .val .null, .val (.ref r_133), .val (.int (0 : Int32)), .val (.int zab), .val (.int zba)] [])) (fun t k => XS.ifNo X157.here hx rfl (hb hby at_232) rfl ((if0 _ _).trans (feq hc232_158).1) k) ?_
              refine own_via (T157.setTop (mkF m 237 #[.val (.int p0), .val (.int p1), .val (.int p2), .val (.int p3), .val (.int p4), .val (.int p5), .val (.ref b101), .val (.int z113), .val (.int z115), .val (.int z117), .val (.int z119), .val (.ref b121), .val .null, .val (.ref r_133), .val (.int (0 : Int32)), .val (.int zab), .val (.int zba)] [(.ref b101)])) (fun t k => XS.aload X157.here hx rfl (hb hby at_235) rfl rfl k) ?_
              refine own_via (T157.setTop (mkF m 239 #[.val (.int p0), .val (.int p1), .val (.int p2), .val (.int p3), .val (.int p4), .val (.int p5), .val (.ref b101), .val (.int z113), .val (.int z115), .val (.int z117), .val (.int z119), .val (.ref b121), .val .null, .val (.ref r_133), .val (.int (0 : Int32)), .val (.int zab), .val (.int zba)] [.null, (.ref b101)])) (fun t k => XS.aload X157.here hx rfl (hb hby at_237) rfl rfl k) ?_
              obtain ⟨cq159, kq159, q159a, q159b, q159c⟩ := isOf hZ e157 F144
              obtain ⟨_, _, ⟨T159, L159, k159, n159⟩, -, X159, ⟨Lc159, hQ159, l159, y159, z159⟩, st159⟩ := X157.virtualBack hx (y := (⟨"com/example/rondo/rondo/Rect", "equals", "(Ljava/lang/Object;)Z"⟩ : MethodName)) (z := (⟨"com/example/rondo/rondo/Rect", "equals", "(Ljava/lang/Object;)Z"⟩ : MethodName)) hown (mvT hZ (hw _ (List.mem_of_getElem? (i := 36) rfl))) (mvT hZ (hw _ (List.mem_of_getElem? (i := 37) rfl))) (notFace_of_selects (args := #[]) (mvT hZ (hw _ (List.mem_of_getElem? (i := 39) rfl)))) (mvT hZ (hw _ (List.mem_of_getElem? (i := 39) rfl))) (mvT hZ (hw _ (List.mem_of_getElem? (i := 38) rfl))) (by decide) (backOf (W := 0) (rm7n l Z a0 hw [] b101 h133 n0 (Nat.le_trans Z0 K134.1) ) hZ (hw _ (List.mem_of_getElem? (i := 40) rfl)) (hw _ (List.mem_of_getElem? (i := 2) rfl)) (by decide) (by decide)) q159a q159c (g := (mkF m 239 #[.val (.int p0), .val (.int p1), .val (.int p2), .val (.int p3), .val (.int p4), .val (.int p5), .val (.ref b101), .val (.int z113), .val (.int z115), .val (.int z117), .val (.int z119), .val (.ref b121), .val .null, .val (.ref r_133), .val (.int (0 : Int32)), .val (.int zab), .val (.int zba)] [.null, (.ref b101)])) rfl (by rw [hml]; rfl) (Steps.refl _) (argsL := [.null]) (rest := []) (lenOf pd_6 rfl) rfl (by show 2 * 0 + _ ≤ _; exact Nat.le_of_eq rfl) (hb hby at_239) (fun _ _ => ⟨rfl, e157, (by decide : 3 + 0 ≤ _), (by decide : 9 + 0 ≤ _)⟩)
              dsimp only [Pt.U, Pt.locs, Pt.cells, Pt.slots] at X159 l159 y159 z159 st159 hQ159
              subst l159 y159 z159
              obtain ⟨rfl, N159q, e159⟩ := hQ159
              have N159 := Fr.app N157 N159q
              refine own_via (T159.setTop (mkF m 242 #[.val (.int p0), .val (.int p1), .val (.int p2), .val (.int p3), .val (.int p4), .val (.int p5), .val (.ref b101), .val (.int z113), .val (.int z115), .val (.int z117), .val (.int z119), .val (.ref b121), .val .null, .val (.ref r_133), .val (.int (0 : Int32)), .val (.int zab), .val (.int zba)] [(.int (0 : Int32))])) (fun t k => st159.trans k) ?_
              refine own_via (T159.setTop (mkF m 245 #[.val (.int p0), .val (.int p1), .val (.int p2), .val (.int p3), .val (.int p4), .val (.int p5), .val (.ref b101), .val (.int z113), .val (.int z115), .val (.int z117), .val (.int z119), .val (.ref b121), .val .null, .val (.ref r_133), .val (.int (0 : Int32)), .val (.int zab), .val (.int zba)] [])) (fun t k => XS.ifNo X159.here hx rfl (hb hby at_242) rfl ((if0 _ _).trans (teq (by decide)).2) k) ?_
              refine own_via (T159.setTop (mkF m 247 #[.val (.int p0), .val (.int p1), .val (.int p2), .val (.int p3), .val (.int p4), .val (.int p5), .val (.ref b101), .val (.int z113), .val (.int z115), .val (.int z117), .val (.int z119), .val (.ref b121), .val .null, .val (.ref r_133), .val (.int (0 : Int32)), .val (.int zab), .val (.int zba)] [(.ref b101)])) (fun t k => XS.aload X159.here hx rfl (hb hby at_245) rfl rfl k) ?_
              refine own_via (T159.setTop (mkF m 249 #[.val (.int p0), .val (.int p1), .val (.int p2), .val (.int p3), .val (.int p4), .val (.int p5), .val (.ref b101), .val (.int z113), .val (.int z115), .val (.int z117), .val (.int z119), .val (.ref b121), .val .null, .val (.ref r_133), .val (.int (0 : Int32)), .val (.int zab), .val (.int zba)] [(.ref r_133), (.ref b101)])) (fun t k => XS.aload X159.here hx rfl (hb hby at_247) rfl rfl k) ?_
              obtain ⟨cq160, kq160, q160a, q160b, q160c⟩ := isOf hZ e159 F144
              obtain ⟨_, _, ⟨T160, L160, k160, n160⟩, -, X160, ⟨Lc160, hQ160, l160, y160, z160⟩, st160⟩ := X159.virtualBack hx (y := (⟨"com/example/rondo/rondo/Rect", "equals", "(Ljava/lang/Object;)Z"⟩ : MethodName)) (z := (⟨"com/example/rondo/rondo/Rect", "equals", "(Ljava/lang/Object;)Z"⟩ : MethodName)) hown (mvT hZ (hw _ (List.mem_of_getElem? (i := 36) rfl))) (mvT hZ (hw _ (List.mem_of_getElem? (i := 37) rfl))) (notFace_of_selects (args := #[]) (mvT hZ (hw _ (List.mem_of_getElem? (i := 39) rfl)))) (mvT hZ (hw _ (List.mem_of_getElem? (i := 39) rfl))) (mvT hZ (hw _ (List.mem_of_getElem? (i := 38) rfl))) (by decide) (backOf (W := 0) (rm7i l Z a0 hw [] b101 r_133 h133 n0 (Nat.le_trans Z0 K134.1) G133_0 (own_noRect hw)) hZ (hw _ (List.mem_of_getElem? (i := 40) rfl)) (hw _ (List.mem_of_getElem? (i := 2) rfl)) (by decide) (by decide)) q160a q160c (g := (mkF m 249 #[.val (.int p0), .val (.int p1), .val (.int p2), .val (.int p3), .val (.int p4), .val (.int p5), .val (.ref b101), .val (.int z113), .val (.int z115), .val (.int z117), .val (.int z119), .val (.ref b121), .val .null, .val (.ref r_133), .val (.int (0 : Int32)), .val (.int zab), .val (.int zba)] [(.ref r_133), (.ref b101)])) rfl (by rw [hml]; rfl) (Steps.refl _) (argsL := [(.ref r_133)]) (rest := []) (lenOf pd_6 rfl) rfl (by show 2 * 0 + _ ≤ _; exact Nat.le_of_eq rfl) (hb hby at_249) (fun _ _ => ⟨rfl, e159, (by decide : 3 + 0 ≤ _), (by decide : 9 + 0 ≤ _)⟩)
              dsimp only [Pt.U, Pt.locs, Pt.cells, Pt.slots] at X160 l160 y160 z160 st160 hQ160
              subst l160 y160 z160
              obtain ⟨rfl, N160q, e160⟩ := hQ160
              have N160 := Fr.app N159 N160q
              refine own_via (T160.setTop (mkF m 252 #[.val (.int p0), .val (.int p1), .val (.int p2), .val (.int p3), .val (.int p4), .val (.int p5), .val (.ref b101), .val (.int z113), .val (.int z115), .val (.int z117), .val (.int z119), .val (.ref b121), .val .null, .val (.ref r_133), .val (.int (0 : Int32)), .val (.int zab), .val (.int zba)] [(.int (0 : Int32))])) (fun t k => st160.trans k) ?_
              refine own_via (T160.setTop (mkF m 255 #[.val (.int p0), .val (.int p1), .val (.int p2), .val (.int p3), .val (.int p4), .val (.int p5), .val (.ref b101), .val (.int z113), .val (.int z115), .val (.int z117), .val (.int z119), .val (.ref b121), .val .null, .val (.ref r_133), .val (.int (0 : Int32)), .val (.int zab), .val (.int zba)] [])) (fun t k => XS.ifNo X160.here hx rfl (hb hby at_252) rfl ((if0 _ _).trans (teq (by decide)).2) k) ?_
              refine own_via (T160.setTop (mkF m 256 #[.val (.int p0), .val (.int p1), .val (.int p2), .val (.int p3), .val (.int p4), .val (.int p5), .val (.ref b101), .val (.int z113), .val (.int z115), .val (.int z117), .val (.int z119), .val (.ref b121), .val .null, .val (.ref r_133), .val (.int (0 : Int32)), .val (.int zab), .val (.int zba)] [(.int (1 : Int32))])) (fun t k => XS.iconst X160.here hx rfl (hb hby at_255) k) ?_
              refine own_via (T160.setTop (mkF m 260 #[.val (.int p0), .val (.int p1), .val (.int p2), .val (.int p3), .val (.int p4), .val (.int p5), .val (.ref b101), .val (.int z113), .val (.int z115), .val (.int z117), .val (.int z119), .val (.ref b121), .val .null, .val (.ref r_133), .val (.int (0 : Int32)), .val (.int zab), .val (.int zba)] [(.int (1 : Int32))])) (fun t k => XS.goto X160.here hx rfl (pc0 := 256) (pc' := 260) rfl (hb hby at_256) (by decide) (by decide) k) ?_
              refine own_leave X160 Bd.notSynchronized (v := some (.int (1 : Int32))) (fun h => by rw [Bd.returns] at h; cases h) (fun fs hr => retN X160 hx (t := .boolean) Bd.returns (by simp) (hb hby at_260) hr) ?_ (by decide) (by decide)
              exact ⟨rfl, N160⟩
          · exact absurd (own_hash hzab hab) hc220_156
      · exact absurd (by first | exact own_ba0 hzba hct | exact own_ba1 hzba hct hzex) hc200_149
    · exact absurd (by first | exact own_ab0 hzab hct | exact own_ab1 hzab hct hzex) hc193_148
  · refine own_via (T135.setTop (mkF m 154 #[.val (.int p0), .val (.int p1), .val (.int p2), .val (.int p3), .val (.int p4), .val (.int p5), .val (.ref b101), .val (.int z113), .val (.int z115), .val (.int z117), .val (.int z119), .val (.ref b121), .val .null, .val (.ref r_133), .unset, .unset, .unset] [])) (fun t k => XS.ifNo X135.here hx rfl (hb hby at_151) rfl ((if0 _ _).trans (feq hct).1) k) ?_
    refine own_via (T135.setTop (mkF m 156 #[.val (.int p0), .val (.int p1), .val (.int p2), .val (.int p3), .val (.int p4), .val (.int p5), .val (.ref b101), .val (.int z113), .val (.int z115), .val (.int z117), .val (.int z119), .val (.ref b121), .val .null, .val (.ref r_133), .unset, .unset, .unset] [(.ref b121)])) (fun t k => XS.aload X135.here hx rfl (hb hby at_154) rfl rfl k) ?_
    refine own_via (T135.setTop (mkF m 158 #[.val (.int p0), .val (.int p1), .val (.int p2), .val (.int p3), .val (.int p4), .val (.int p5), .val (.ref b101), .val (.int z113), .val (.int z115), .val (.int z117), .val (.int z119), .val (.ref b121), .val .null, .val (.ref r_133), .unset, .unset, .unset] [(.ref b101), (.ref b121)])) (fun t k => XS.aload X135.here hx rfl (hb hby at_156) rfl rfl k) ?_
    have F162 := (G127_0.keep K133q)
    obtain ⟨cq161, kq161, q161a, q161b, q161c⟩ := isOf hZ e135 F162
    obtain ⟨_, _, ⟨T161, L161, k161, n161⟩, -, X161, ⟨Lc161, hQ161, l161, y161, z161⟩, st161⟩ := X135.virtualBack hx (y := (⟨"com/example/rondo/rondo/Rect", "contains", "(Lcom/example/rondo/rondo/Rect;)Z"⟩ : MethodName)) (z := (⟨"com/example/rondo/rondo/Rect", "contains", "(Lcom/example/rondo/rondo/Rect;)Z"⟩ : MethodName)) hown (mvT hZ (hw _ (List.mem_of_getElem? (i := 31) rfl))) (mvT hZ (hw _ (List.mem_of_getElem? (i := 32) rfl))) (notFace_of_selects (args := #[]) (mvT hZ (hw _ (List.mem_of_getElem? (i := 34) rfl)))) (mvT hZ (hw _ (List.mem_of_getElem? (i := 34) rfl))) (mvT hZ (hw _ (List.mem_of_getElem? (i := 33) rfl))) (by decide) (backOf (W := 0) (rm6 l Z a0 hw [] b121 b101 h133 n0 (Nat.le_trans Z0 K134.1) z129 z130 z131 z132 z109 z110 z111 z112 F140 F141 F142 F143 F136 F137 F138 F139) hZ (hw _ (List.mem_of_getElem? (i := 35) rfl)) (hw _ (List.mem_of_getElem? (i := 2) rfl)) (by decide) (by decide)) q161a q161c (g := (mkF m 158 #[.val (.int p0), .val (.int p1), .val (.int p2), .val (.int p3), .val (.int p4), .val (.int p5), .val (.ref b101), .val (.int z113), .val (.int z115), .val (.int z117), .val (.int z119), .val (.ref b121), .val .null, .val (.ref r_133), .unset, .unset, .unset] [(.ref b101), (.ref b121)])) rfl (by rw [hml]; rfl) (Steps.refl _) (argsL := [(.ref b101)]) (rest := []) (lenOf pd_5 rfl) rfl (by show 2 * 0 + _ ≤ _; exact Nat.le_of_eq rfl) (hb hby at_158) (fun _ _ => ⟨rfl, e135, (by decide : 3 + 0 ≤ _), (by decide : 9 + 0 ≤ _)⟩)
    dsimp only [Pt.U, Pt.locs, Pt.cells, Pt.slots] at X161 l161 y161 z161 st161 hQ161
    subst l161 y161 z161
    obtain ⟨rfl, N161q, e161⟩ := hQ161
    have N161 := Fr.app N135 N161q
    refine own_via (T161.setTop (mkF m 161 #[.val (.int p0), .val (.int p1), .val (.int p2), .val (.int p3), .val (.int p4), .val (.int p5), .val (.ref b101), .val (.int z113), .val (.int z115), .val (.int z117), .val (.int z119), .val (.ref b121), .val .null, .val (.ref r_133), .unset, .unset, .unset] [(.int (own_f6 z129 z130 z131 z132 z109 z110 z111 z112))])) (fun t k => st161.trans k) ?_
    obtain ⟨zex, hzex⟩ : ∃ z : Int32, z = (if (own_f6 z129 z130 z131 z132 z109 z110 z111 z112) = (0 : Int32) then (0 : Int32) else (1 : Int32)) := ⟨_, rfl⟩
    refine own_via (T161.setTop (mkF m 169 #[.val (.int p0), .val (.int p1), .val (.int p2), .val (.int p3), .val (.int p4), .val (.int p5), .val (.ref b101), .val (.int z113), .val (.int z115), .val (.int z117), .val (.int z119), .val (.ref b121), .val .null, .val (.ref r_133), .unset, .unset, .unset] [(.int zex)])) (fun t k => ?_) ?_
    · skip
      by_cases hj161_163 : (own_f6 z129 z130 z131 z132 z109 z110 z111 z112) = (0 : Int32)
      · refine XS.ifYes X161.here hx rfl (pc0 := 161) (pc' := 168) rfl (hb hby at_161) rfl ((if0 _ _).trans (teq hj161_163).1) (by decide) (by decide) (?_ : Steps p.tables e below (T161.setTop (mkF m 168 #[.val (.int p0), .val (.int p1), .val (.int p2), .val (.int p3), .val (.int p4), .val (.int p5), .val (.ref b101), .val (.int z113), .val (.int z115), .val (.int z117), .val (.int z119), .val (.ref b121), .val .null, .val (.ref r_133), .unset, .unset, .unset] [])) t)
        refine XS.iconst X161.here hx rfl (hb hby at_168) (?_ : Steps p.tables e below (T161.setTop (mkF m 169 #[.val (.int p0), .val (.int p1), .val (.int p2), .val (.int p3), .val (.int p4), .val (.int p5), .val (.ref b101), .val (.int z113), .val (.int z115), .val (.int z117), .val (.int z119), .val (.ref b121), .val .null, .val (.ref r_133), .unset, .unset, .unset] [(.int (0 : Int32))])) t)
        have q_zex := (hzex.trans (if_pos hj161_163))
        subst q_zex
        exact k
      · refine XS.ifNo X161.here hx rfl (hb hby at_161) rfl ((if0 _ _).trans (feq hj161_163).1) (?_ : Steps p.tables e below (T161.setTop (mkF m 164 #[.val (.int p0), .val (.int p1), .val (.int p2), .val (.int p3), .val (.int p4), .val (.int p5), .val (.ref b101), .val (.int z113), .val (.int z115), .val (.int z117), .val (.int z119), .val (.ref b121), .val .null, .val (.ref r_133), .unset, .unset, .unset] [])) t)
        refine XS.iconst X161.here hx rfl (hb hby at_164) (?_ : Steps p.tables e below (T161.setTop (mkF m 165 #[.val (.int p0), .val (.int p1), .val (.int p2), .val (.int p3), .val (.int p4), .val (.int p5), .val (.ref b101), .val (.int z113), .val (.int z115), .val (.int z117), .val (.int z119), .val (.ref b121), .val .null, .val (.ref r_133), .unset, .unset, .unset] [(.int (1 : Int32))])) t)
        refine XS.goto X161.here hx rfl (pc0 := 165) (pc' := 169) rfl (hb hby at_165) (by decide) (by decide) (?_ : Steps p.tables e below (T161.setTop (mkF m 169 #[.val (.int p0), .val (.int p1), .val (.int p2), .val (.int p3), .val (.int p4), .val (.int p5), .val (.ref b101), .val (.int z113), .val (.int z115), .val (.int z117), .val (.int z119), .val (.ref b121), .val .null, .val (.ref r_133), .unset, .unset, .unset] [(.int (1 : Int32))])) t)
        have q_zex := (hzex.trans (if_neg hj161_163))
        subst q_zex
        exact k
    refine own_via (T161.setTop (mkF m 171 #[.val (.int p0), .val (.int p1), .val (.int p2), .val (.int p3), .val (.int p4), .val (.int p5), .val (.ref b101), .val (.int z113), .val (.int z115), .val (.int z117), .val (.int z119), .val (.ref b121), .val .null, .val (.ref r_133), .val (.int zex), .unset, .unset] [])) (fun t k => XS.istore X161.here hx rfl (hb hby at_169) rfl (l' := #[.val (.int p0), .val (.int p1), .val (.int p2), .val (.int p3), .val (.int p4), .val (.int p5), .val (.ref b101), .val (.int z113), .val (.int z115), .val (.int z117), .val (.int z119), .val (.ref b121), .val .null, .val (.ref r_133), .val (.int zex), .unset, .unset]) rfl k) ?_
    refine own_via (T161.setTop (mkF m 173 #[.val (.int p0), .val (.int p1), .val (.int p2), .val (.int p3), .val (.int p4), .val (.int p5), .val (.ref b101), .val (.int z113), .val (.int z115), .val (.int z117), .val (.int z119), .val (.ref b121), .val .null, .val (.ref r_133), .val (.int zex), .unset, .unset] [(.ref b101)])) (fun t k => XS.aload X161.here hx rfl (hb hby at_171) rfl rfl k) ?_
    refine own_via (T161.setTop (mkF m 175 #[.val (.int p0), .val (.int p1), .val (.int p2), .val (.int p3), .val (.int p4), .val (.int p5), .val (.ref b101), .val (.int z113), .val (.int z115), .val (.int z117), .val (.int z119), .val (.ref b121), .val .null, .val (.ref r_133), .val (.int zex), .unset, .unset] [(.ref b121), (.ref b101)])) (fun t k => XS.aload X161.here hx rfl (hb hby at_173) rfl rfl k) ?_
    obtain ⟨cq164, kq164, q164a, q164b, q164c⟩ := isOf hZ e161 F144
    obtain ⟨_, _, ⟨T164, L164, k164, n164⟩, -, X164, ⟨Lc164, hQ164, l164, y164, z164⟩, st164⟩ := X161.virtualBack hx (y := (⟨"com/example/rondo/rondo/Rect", "equals", "(Ljava/lang/Object;)Z"⟩ : MethodName)) (z := (⟨"com/example/rondo/rondo/Rect", "equals", "(Ljava/lang/Object;)Z"⟩ : MethodName)) hown (mvT hZ (hw _ (List.mem_of_getElem? (i := 36) rfl))) (mvT hZ (hw _ (List.mem_of_getElem? (i := 37) rfl))) (notFace_of_selects (args := #[]) (mvT hZ (hw _ (List.mem_of_getElem? (i := 39) rfl)))) (mvT hZ (hw _ (List.mem_of_getElem? (i := 39) rfl))) (mvT hZ (hw _ (List.mem_of_getElem? (i := 38) rfl))) (by decide) (backOf (W := 0) (rm7 l Z a0 hw [] b101 b121 h133 n0 (Nat.le_trans Z0 K134.1) z109 z110 z111 z112 z129 z130 z131 z132 F136 F137 F138 F139 F140 F141 F142 F143 F162) hZ (hw _ (List.mem_of_getElem? (i := 40) rfl)) (hw _ (List.mem_of_getElem? (i := 2) rfl)) (by decide) (by decide)) q164a q164c (g := (mkF m 175 #[.val (.int p0), .val (.int p1), .val (.int p2), .val (.int p3), .val (.int p4), .val (.int p5), .val (.ref b101), .val (.int z113), .val (.int z115), .val (.int z117), .val (.int z119), .val (.ref b121), .val .null, .val (.ref r_133), .val (.int zex), .unset, .unset] [(.ref b121), (.ref b101)])) rfl (by rw [hml]; rfl) (Steps.refl _) (argsL := [(.ref b121)]) (rest := []) (lenOf pd_6 rfl) rfl (by show 2 * 0 + _ ≤ _; exact Nat.le_of_eq rfl) (hb hby at_175) (fun _ _ => ⟨rfl, e161, (by decide : 3 + 0 ≤ _), (by decide : 9 + 0 ≤ _)⟩)
    dsimp only [Pt.U, Pt.locs, Pt.cells, Pt.slots] at X164 l164 y164 z164 st164 hQ164
    subst l164 y164 z164
    obtain ⟨rfl, N164q, e164⟩ := hQ164
    have N164 := Fr.app N161 N164q
    refine own_via (T164.setTop (mkF m 178 #[.val (.int p0), .val (.int p1), .val (.int p2), .val (.int p3), .val (.int p4), .val (.int p5), .val (.ref b101), .val (.int z113), .val (.int z115), .val (.int z117), .val (.int z119), .val (.ref b121), .val .null, .val (.ref r_133), .val (.int zex), .unset, .unset] [(.int (own_f7 z109 z110 z111 z112 z129 z130 z131 z132))])) (fun t k => st164.trans k) ?_
    obtain ⟨zab, hzab⟩ : ∃ z : Int32, z = (own_f7 z109 z110 z111 z112 z129 z130 z131 z132) := ⟨_, rfl⟩
    refine own_via (T164.setTop (mkF m 180 #[.val (.int p0), .val (.int p1), .val (.int p2), .val (.int p3), .val (.int p4), .val (.int p5), .val (.ref b101), .val (.int z113), .val (.int z115), .val (.int z117), .val (.int z119), .val (.ref b121), .val .null, .val (.ref r_133), .val (.int zex), .val (.int zab), .unset] [])) (fun t k => XS.istore X164.here hx rfl (hb hby at_178) rfl (l' := #[.val (.int p0), .val (.int p1), .val (.int p2), .val (.int p3), .val (.int p4), .val (.int p5), .val (.ref b101), .val (.int z113), .val (.int z115), .val (.int z117), .val (.int z119), .val (.ref b121), .val .null, .val (.ref r_133), .val (.int zex), .val (.int zab), .unset]) (by rw [hzab]; rfl) k) ?_
    refine own_via (T164.setTop (mkF m 182 #[.val (.int p0), .val (.int p1), .val (.int p2), .val (.int p3), .val (.int p4), .val (.int p5), .val (.ref b101), .val (.int z113), .val (.int z115), .val (.int z117), .val (.int z119), .val (.ref b121), .val .null, .val (.ref r_133), .val (.int zex), .val (.int zab), .unset] [(.ref b121)])) (fun t k => XS.aload X164.here hx rfl (hb hby at_180) rfl rfl k) ?_
    refine own_via (T164.setTop (mkF m 184 #[.val (.int p0), .val (.int p1), .val (.int p2), .val (.int p3), .val (.int p4), .val (.int p5), .val (.ref b101), .val (.int z113), .val (.int z115), .val (.int z117), .val (.int z119), .val (.ref b121), .val .null, .val (.ref r_133), .val (.int zex), .val (.int zab), .unset] [(.ref b101), (.ref b121)])) (fun t k => XS.aload X164.here hx rfl (hb hby at_182) rfl rfl k) ?_
    obtain ⟨cq165, kq165, q165a, q165b, q165c⟩ := isOf hZ e164 F162
    obtain ⟨_, _, ⟨T165, L165, k165, n165⟩, -, X165, ⟨Lc165, hQ165, l165, y165, z165⟩, st165⟩ := X164.virtualBack hx (y := (⟨"com/example/rondo/rondo/Rect", "equals", "(Ljava/lang/Object;)Z"⟩ : MethodName)) (z := (⟨"com/example/rondo/rondo/Rect", "equals", "(Ljava/lang/Object;)Z"⟩ : MethodName)) hown (mvT hZ (hw _ (List.mem_of_getElem? (i := 36) rfl))) (mvT hZ (hw _ (List.mem_of_getElem? (i := 37) rfl))) (notFace_of_selects (args := #[]) (mvT hZ (hw _ (List.mem_of_getElem? (i := 39) rfl)))) (mvT hZ (hw _ (List.mem_of_getElem? (i := 39) rfl))) (mvT hZ (hw _ (List.mem_of_getElem? (i := 38) rfl))) (by decide) (backOf (W := 0) (rm7 l Z a0 hw [] b121 b101 h133 n0 (Nat.le_trans Z0 K134.1) z129 z130 z131 z132 z109 z110 z111 z112 F140 F141 F142 F143 F136 F137 F138 F139 F144) hZ (hw _ (List.mem_of_getElem? (i := 40) rfl)) (hw _ (List.mem_of_getElem? (i := 2) rfl)) (by decide) (by decide)) q165a q165c (g := (mkF m 184 #[.val (.int p0), .val (.int p1), .val (.int p2), .val (.int p3), .val (.int p4), .val (.int p5), .val (.ref b101), .val (.int z113), .val (.int z115), .val (.int z117), .val (.int z119), .val (.ref b121), .val .null, .val (.ref r_133), .val (.int zex), .val (.int zab), .unset] [(.ref b101), (.ref b121)])) rfl (by rw [hml]; rfl) (Steps.refl _) (argsL := [(.ref b101)]) (rest := []) (lenOf pd_6 rfl) rfl (by show 2 * 0 + _ ≤ _; exact Nat.le_of_eq rfl) (hb hby at_184) (fun _ _ => ⟨rfl, e164, (by decide : 3 + 0 ≤ _), (by decide : 9 + 0 ≤ _)⟩)
    dsimp only [Pt.U, Pt.locs, Pt.cells, Pt.slots] at X165 l165 y165 z165 st165 hQ165
    subst l165 y165 z165
    obtain ⟨rfl, N165q, e165⟩ := hQ165
    have N165 := Fr.app N164 N165q
    refine own_via (T165.setTop (mkF m 187 #[.val (.int p0), .val (.int p1), .val (.int p2), .val (.int p3), .val (.int p4), .val (.int p5), .val (.ref b101), .val (.int z113), .val (.int z115), .val (.int z117), .val (.int z119), .val (.ref b121), .val .null, .val (.ref r_133), .val (.int zex), .val (.int zab), .unset] [(.int (own_f7 z129 z130 z131 z132 z109 z110 z111 z112))])) (fun t k => st165.trans k) ?_
    obtain ⟨zba, hzba⟩ : ∃ z : Int32, z = (own_f7 z129 z130 z131 z132 z109 z110 z111 z112) := ⟨_, rfl⟩
    refine own_via (T165.setTop (mkF m 189 #[.val (.int p0), .val (.int p1), .val (.int p2), .val (.int p3), .val (.int p4), .val (.int p5), .val (.ref b101), .val (.int z113), .val (.int z115), .val (.int z117), .val (.int z119), .val (.ref b121), .val .null, .val (.ref r_133), .val (.int zex), .val (.int zab), .val (.int zba)] [])) (fun t k => XS.istore X165.here hx rfl (hb hby at_187) rfl (l' := #[.val (.int p0), .val (.int p1), .val (.int p2), .val (.int p3), .val (.int p4), .val (.int p5), .val (.ref b101), .val (.int z113), .val (.int z115), .val (.int z117), .val (.int z119), .val (.ref b121), .val .null, .val (.ref r_133), .val (.int zex), .val (.int zab), .val (.int zba)]) (by rw [hzba]; rfl) k) ?_
    refine own_via (T165.setTop (mkF m 191 #[.val (.int p0), .val (.int p1), .val (.int p2), .val (.int p3), .val (.int p4), .val (.int p5), .val (.ref b101), .val (.int z113), .val (.int z115), .val (.int z117), .val (.int z119), .val (.ref b121), .val .null, .val (.ref r_133), .val (.int zex), .val (.int zab), .val (.int zba)] [(.int zab)])) (fun t k => XS.iload X165.here hx rfl (hb hby at_189) rfl  k) ?_
    refine own_via (T165.setTop (mkF m 193 #[.val (.int p0), .val (.int p1), .val (.int p2), .val (.int p3), .val (.int p4), .val (.int p5), .val (.ref b101), .val (.int z113), .val (.int z115), .val (.int z117), .val (.int z119), .val (.ref b121), .val .null, .val (.ref r_133), .val (.int zex), .val (.int zab), .val (.int zba)] [(.int zex), (.int zab)])) (fun t k => XS.iload X165.here hx rfl (hb hby at_191) rfl  k) ?_
    by_cases hc193_166 : zab = zex
    · refine own_via (T165.setTop (mkF m 196 #[.val (.int p0), .val (.int p1), .val (.int p2), .val (.int p3), .val (.int p4), .val (.int p5), .val (.ref b101), .val (.int z113), .val (.int z115), .val (.int z117), .val (.int z119), .val (.ref b121), .val .null, .val (.ref r_133), .val (.int zex), .val (.int zab), .val (.int zba)] [])) (fun t k => XS.icmpNo X165.here hx rfl (hb hby at_193) rfl (teq hc193_166).2 k) ?_
      refine own_via (T165.setTop (mkF m 198 #[.val (.int p0), .val (.int p1), .val (.int p2), .val (.int p3), .val (.int p4), .val (.int p5), .val (.ref b101), .val (.int z113), .val (.int z115), .val (.int z117), .val (.int z119), .val (.ref b121), .val .null, .val (.ref r_133), .val (.int zex), .val (.int zab), .val (.int zba)] [(.int zba)])) (fun t k => XS.iload X165.here hx rfl (hb hby at_196) rfl  k) ?_
      refine own_via (T165.setTop (mkF m 200 #[.val (.int p0), .val (.int p1), .val (.int p2), .val (.int p3), .val (.int p4), .val (.int p5), .val (.ref b101), .val (.int z113), .val (.int z115), .val (.int z117), .val (.int z119), .val (.ref b121), .val .null, .val (.ref r_133), .val (.int zex), .val (.int zab), .val (.int zba)] [(.int zex), (.int zba)])) (fun t k => XS.iload X165.here hx rfl (hb hby at_198) rfl  k) ?_
      by_cases hc200_167 : zba = zex
      · refine own_via (T165.setTop (mkF m 205 #[.val (.int p0), .val (.int p1), .val (.int p2), .val (.int p3), .val (.int p4), .val (.int p5), .val (.ref b101), .val (.int z113), .val (.int z115), .val (.int z117), .val (.int z119), .val (.ref b121), .val .null, .val (.ref r_133), .val (.int zex), .val (.int zab), .val (.int zba)] [])) (fun t k => XS.icmpYes X165.here hx rfl (pc0 := 200) (pc' := 205) rfl (hb hby at_200) rfl (teq hc200_167).1 (by decide) (by decide) k) ?_
        refine own_via (T165.setTop (mkF m 207 #[.val (.int p0), .val (.int p1), .val (.int p2), .val (.int p3), .val (.int p4), .val (.int p5), .val (.ref b101), .val (.int z113), .val (.int z115), .val (.int z117), .val (.int z119), .val (.ref b121), .val .null, .val (.ref r_133), .val (.int zex), .val (.int zab), .val (.int zba)] [(.int zab)])) (fun t k => XS.iload X165.here hx rfl (hb hby at_205) rfl  k) ?_
        by_cases hab : zab = (0 : Int32)
        · refine own_via (T165.setTop (mkF m 225 #[.val (.int p0), .val (.int p1), .val (.int p2), .val (.int p3), .val (.int p4), .val (.int p5), .val (.ref b101), .val (.int z113), .val (.int z115), .val (.int z117), .val (.int z119), .val (.ref b121), .val .null, .val (.ref r_133), .val (.int zex), .val (.int zab), .val (.int zba)] [])) (fun t k => XS.ifYes X165.here hx rfl (pc0 := 207) (pc' := 225) rfl (hb hby at_207) rfl ((if0 _ _).trans (teq hab).1) (by decide) (by decide) k) ?_
          refine own_via (T165.setTop (mkF m 227 #[.val (.int p0), .val (.int p1), .val (.int p2), .val (.int p3), .val (.int p4), .val (.int p5), .val (.ref b101), .val (.int z113), .val (.int z115), .val (.int z117), .val (.int z119), .val (.ref b121), .val .null, .val (.ref r_133), .val (.int zex), .val (.int zab), .val (.int zba)] [(.ref b101)])) (fun t k => XS.aload X165.here hx rfl (hb hby at_225) rfl rfl k) ?_
          refine own_via (T165.setTop (mkF m 229 #[.val (.int p0), .val (.int p1), .val (.int p2), .val (.int p3), .val (.int p4), .val (.int p5), .val (.ref b101), .val (.int z113), .val (.int z115), .val (.int z117), .val (.int z119), .val (.ref b121), .val .null, .val (.ref r_133), .val (.int zex), .val (.int zab), .val (.int zba)] [(.ref b101), (.ref b101)])) (fun t k => XS.aload X165.here hx rfl (hb hby at_227) rfl rfl k) ?_
          obtain ⟨cq168, kq168, q168a, q168b, q168c⟩ := isOf hZ e165 F144
          obtain ⟨_, _, ⟨T168, L168, k168, n168⟩, -, X168, ⟨Lc168, hQ168, l168, y168, z168⟩, st168⟩ := X165.virtualBack hx (y := (⟨"com/example/rondo/rondo/Rect", "equals", "(Ljava/lang/Object;)Z"⟩ : MethodName)) (z := (⟨"com/example/rondo/rondo/Rect", "equals", "(Ljava/lang/Object;)Z"⟩ : MethodName)) hown (mvT hZ (hw _ (List.mem_of_getElem? (i := 36) rfl))) (mvT hZ (hw _ (List.mem_of_getElem? (i := 37) rfl))) (notFace_of_selects (args := #[]) (mvT hZ (hw _ (List.mem_of_getElem? (i := 39) rfl)))) (mvT hZ (hw _ (List.mem_of_getElem? (i := 39) rfl))) (mvT hZ (hw _ (List.mem_of_getElem? (i := 38) rfl))) (by decide) (backOf (W := 0) (rm7 l Z a0 hw [] b101 b101 h133 n0 (Nat.le_trans Z0 K134.1) z109 z110 z111 z112 z109 z110 z111 z112 F136 F137 F138 F139 F136 F137 F138 F139 F144) hZ (hw _ (List.mem_of_getElem? (i := 40) rfl)) (hw _ (List.mem_of_getElem? (i := 2) rfl)) (by decide) (by decide)) q168a q168c (g := (mkF m 229 #[.val (.int p0), .val (.int p1), .val (.int p2), .val (.int p3), .val (.int p4), .val (.int p5), .val (.ref b101), .val (.int z113), .val (.int z115), .val (.int z117), .val (.int z119), .val (.ref b121), .val .null, .val (.ref r_133), .val (.int zex), .val (.int zab), .val (.int zba)] [(.ref b101), (.ref b101)])) rfl (by rw [hml]; rfl) (Steps.refl _) (argsL := [(.ref b101)]) (rest := []) (lenOf pd_6 rfl) rfl (by show 2 * 0 + _ ≤ _; exact Nat.le_of_eq rfl) (hb hby at_229) (fun _ _ => ⟨rfl, e165, (by decide : 3 + 0 ≤ _), (by decide : 9 + 0 ≤ _)⟩)
          dsimp only [Pt.U, Pt.locs, Pt.cells, Pt.slots] at X168 l168 y168 z168 st168 hQ168
          subst l168 y168 z168
          obtain ⟨rfl, N168q, e168⟩ := hQ168
          have N168 := Fr.app N165 N168q
          refine own_via (T168.setTop (mkF m 232 #[.val (.int p0), .val (.int p1), .val (.int p2), .val (.int p3), .val (.int p4), .val (.int p5), .val (.ref b101), .val (.int z113), .val (.int z115), .val (.int z117), .val (.int z119), .val (.ref b121), .val .null, .val (.ref r_133), .val (.int zex), .val (.int zab), .val (.int zba)] [(.int (own_f7 z109 z110 z111 z112 z109 z110 z111 z112))])) (fun t k => st168.trans k) ?_
          by_cases hc232_169 : (own_f7 z109 z110 z111 z112 z109 z110 z111 z112) = (0 : Int32)
          · exact absurd hc232_169 (own_self7 _ _ _ _)
          · refine own_via (T168.setTop (mkF m 235 #[.val (.int p0), .val (.int p1), .val (.int p2), .val (.int p3), .val (.int p4), .val (.int p5), .val (.ref b101), .val (.int z113), .val (.int z115), .val (.int z117), .val (.int z119), .val (.ref b121), .val .null, .val (.ref r_133), .val (.int zex), .val (.int zab), .val (.int zba)] [])) (fun t k => XS.ifNo X168.here hx rfl (hb hby at_232) rfl ((if0 _ _).trans (feq hc232_169).1) k) ?_
            refine own_via (T168.setTop (mkF m 237 #[.val (.int p0), .val (.int p1), .val (.int p2), .val (.int p3), .val (.int p4), .val (.int p5), .val (.ref b101), .val (.int z113), .val (.int z115), .val (.int z117), .val (.int z119), .val (.ref b121), .val .null, .val (.ref r_133), .val (.int zex), .val (.int zab), .val (.int zba)] [(.ref b101)])) (fun t k => XS.aload X168.here hx rfl (hb hby at_235) rfl rfl k) ?_
            refine own_via (T168.setTop (mkF m 239 #[.val (.int p0), .val (.int p1), .val (.int p2), .val (.int p3), .val (.int p4), .val (.int p5), .val (.ref b101), .val (.int z113), .val (.int z115), .val (.int z117), .val (.int z119), .val (.ref b121), .val .null, .val (.ref r_133), .val (.int zex), .val (.int zab), .val (.int zba)] [.null, (.ref b101)])) (fun t k => XS.aload X168.here hx rfl (hb hby at_237) rfl rfl k) ?_
            obtain ⟨cq170, kq170, q170a, q170b, q170c⟩ := isOf hZ e168 F144
            obtain ⟨_, _, ⟨T170, L170, k170, n170⟩, -, X170, ⟨Lc170, hQ170, l170, y170, z170⟩, st170⟩ := X168.virtualBack hx (y := (⟨"com/example/rondo/rondo/Rect", "equals", "(Ljava/lang/Object;)Z"⟩ : MethodName)) (z := (⟨"com/example/rondo/rondo/Rect", "equals", "(Ljava/lang/Object;)Z"⟩ : MethodName)) hown (mvT hZ (hw _ (List.mem_of_getElem? (i := 36) rfl))) (mvT hZ (hw _ (List.mem_of_getElem? (i := 37) rfl))) (notFace_of_selects (args := #[]) (mvT hZ (hw _ (List.mem_of_getElem? (i := 39) rfl)))) (mvT hZ (hw _ (List.mem_of_getElem? (i := 39) rfl))) (mvT hZ (hw _ (List.mem_of_getElem? (i := 38) rfl))) (by decide) (backOf (W := 0) (rm7n l Z a0 hw [] b101 h133 n0 (Nat.le_trans Z0 K134.1) ) hZ (hw _ (List.mem_of_getElem? (i := 40) rfl)) (hw _ (List.mem_of_getElem? (i := 2) rfl)) (by decide) (by decide)) q170a q170c (g := (mkF m 239 #[.val (.int p0), .val (.int p1), .val (.int p2), .val (.int p3), .val (.int p4), .val (.int p5), .val (.ref b101), .val (.int z113), .val (.int z115), .val (.int z117), .val (.int z119), .val (.ref b121), .val .null, .val (.ref r_133), .val (.int zex), .val (.int zab), .val (.int zba)] [.null, (.ref b101)])) rfl (by rw [hml]; rfl) (Steps.refl _) (argsL := [.null]) (rest := []) (lenOf pd_6 rfl) rfl (by show 2 * 0 + _ ≤ _; exact Nat.le_of_eq rfl) (hb hby at_239) (fun _ _ => ⟨rfl, e168, (by decide : 3 + 0 ≤ _), (by decide : 9 + 0 ≤ _)⟩)
            dsimp only [Pt.U, Pt.locs, Pt.cells, Pt.slots] at X170 l170 y170 z170 st170 hQ170
            subst l170 y170 z170
            obtain ⟨rfl, N170q, e170⟩ := hQ170
            have N170 := Fr.app N168 N170q
            refine own_via (T170.setTop (mkF m 242 #[.val (.int p0), .val (.int p1), .val (.int p2), .val (.int p3), .val (.int p4), .val (.int p5), .val (.ref b101), .val (.int z113), .val (.int z115), .val (.int z117), .val (.int z119), .val (.ref b121), .val .null, .val (.ref r_133), .val (.int zex), .val (.int zab), .val (.int zba)] [(.int (0 : Int32))])) (fun t k => st170.trans k) ?_
            refine own_via (T170.setTop (mkF m 245 #[.val (.int p0), .val (.int p1), .val (.int p2), .val (.int p3), .val (.int p4), .val (.int p5), .val (.ref b101), .val (.int z113), .val (.int z115), .val (.int z117), .val (.int z119), .val (.ref b121), .val .null, .val (.ref r_133), .val (.int zex), .val (.int zab), .val (.int zba)] [])) (fun t k => XS.ifNo X170.here hx rfl (hb hby at_242) rfl ((if0 _ _).trans (teq (by decide)).2) k) ?_
            refine own_via (T170.setTop (mkF m 247 #[.val (.int p0), .val (.int p1), .val (.int p2), .val (.int p3), .val (.int p4), .val (.int p5), .val (.ref b101), .val (.int z113), .val (.int z115), .val (.int z117), .val (.int z119), .val (.ref b121), .val .null, .val (.ref r_133), .val (.int zex), .val (.int zab), .val (.int zba)] [(.ref b101)])) (fun t k => XS.aload X170.here hx rfl (hb hby at_245) rfl rfl k) ?_
            refine own_via (T170.setTop (mkF m 249 #[.val (.int p0), .val (.int p1), .val (.int p2), .val (.int p3), .val (.int p4), .val (.int p5), .val (.ref b101), .val (.int z113), .val (.int z115), .val (.int z117), .val (.int z119), .val (.ref b121), .val .null, .val (.ref r_133), .val (.int zex), .val (.int zab), .val (.int zba)] [(.ref r_133), (.ref b101)])) (fun t k => XS.aload X170.here hx rfl (hb hby at_247) rfl rfl k) ?_
            obtain ⟨cq171, kq171, q171a, q171b, q171c⟩ := isOf hZ e170 F144
            obtain ⟨_, _, ⟨T171, L171, k171, n171⟩, -, X171, ⟨Lc171, hQ171, l171, y171, z171⟩, st171⟩ := X170.virtualBack hx (y := (⟨"com/example/rondo/rondo/Rect", "equals", "(Ljava/lang/Object;)Z"⟩ : MethodName)) (z := (⟨"com/example/rondo/rondo/Rect", "equals", "(Ljava/lang/Object;)Z"⟩ : MethodName)) hown (mvT hZ (hw _ (List.mem_of_getElem? (i := 36) rfl))) (mvT hZ (hw _ (List.mem_of_getElem? (i := 37) rfl))) (notFace_of_selects (args := #[]) (mvT hZ (hw _ (List.mem_of_getElem? (i := 39) rfl)))) (mvT hZ (hw _ (List.mem_of_getElem? (i := 39) rfl))) (mvT hZ (hw _ (List.mem_of_getElem? (i := 38) rfl))) (by decide) (backOf (W := 0) (rm7i l Z a0 hw [] b101 r_133 h133 n0 (Nat.le_trans Z0 K134.1) G133_0 (own_noRect hw)) hZ (hw _ (List.mem_of_getElem? (i := 40) rfl)) (hw _ (List.mem_of_getElem? (i := 2) rfl)) (by decide) (by decide)) q171a q171c (g := (mkF m 249 #[.val (.int p0), .val (.int p1), .val (.int p2), .val (.int p3), .val (.int p4), .val (.int p5), .val (.ref b101), .val (.int z113), .val (.int z115), .val (.int z117), .val (.int z119), .val (.ref b121), .val .null, .val (.ref r_133), .val (.int zex), .val (.int zab), .val (.int zba)] [(.ref r_133), (.ref b101)])) rfl (by rw [hml]; rfl) (Steps.refl _) (argsL := [(.ref r_133)]) (rest := []) (lenOf pd_6 rfl) rfl (by show 2 * 0 + _ ≤ _; exact Nat.le_of_eq rfl) (hb hby at_249) (fun _ _ => ⟨rfl, e170, (by decide : 3 + 0 ≤ _), (by decide : 9 + 0 ≤ _)⟩)
            dsimp only [Pt.U, Pt.locs, Pt.cells, Pt.slots] at X171 l171 y171 z171 st171 hQ171
            subst l171 y171 z171
            obtain ⟨rfl, N171q, e171⟩ := hQ171
            have N171 := Fr.app N170 N171q
            refine own_via (T171.setTop (mkF m 252 #[.val (.int p0), .val (.int p1), .val (.int p2), .val (.int p3), .val (.int p4), .val (.int p5), .val (.ref b101), .val (.int z113), .val (.int z115), .val (.int z117), .val (.int z119), .val (.ref b121), .val .null, .val (.ref r_133), .val (.int zex), .val (.int zab), .val (.int zba)] [(.int (0 : Int32))])) (fun t k => st171.trans k) ?_
            refine own_via (T171.setTop (mkF m 255 #[.val (.int p0), .val (.int p1), .val (.int p2), .val (.int p3), .val (.int p4), .val (.int p5), .val (.ref b101), .val (.int z113), .val (.int z115), .val (.int z117), .val (.int z119), .val (.ref b121), .val .null, .val (.ref r_133), .val (.int zex), .val (.int zab), .val (.int zba)] [])) (fun t k => XS.ifNo X171.here hx rfl (hb hby at_252) rfl ((if0 _ _).trans (teq (by decide)).2) k) ?_
            refine own_via (T171.setTop (mkF m 256 #[.val (.int p0), .val (.int p1), .val (.int p2), .val (.int p3), .val (.int p4), .val (.int p5), .val (.ref b101), .val (.int z113), .val (.int z115), .val (.int z117), .val (.int z119), .val (.ref b121), .val .null, .val (.ref r_133), .val (.int zex), .val (.int zab), .val (.int zba)] [(.int (1 : Int32))])) (fun t k => XS.iconst X171.here hx rfl (hb hby at_255) k) ?_
            refine own_via (T171.setTop (mkF m 260 #[.val (.int p0), .val (.int p1), .val (.int p2), .val (.int p3), .val (.int p4), .val (.int p5), .val (.ref b101), .val (.int z113), .val (.int z115), .val (.int z117), .val (.int z119), .val (.ref b121), .val .null, .val (.ref r_133), .val (.int zex), .val (.int zab), .val (.int zba)] [(.int (1 : Int32))])) (fun t k => XS.goto X171.here hx rfl (pc0 := 256) (pc' := 260) rfl (hb hby at_256) (by decide) (by decide) k) ?_
            refine own_leave X171 Bd.notSynchronized (v := some (.int (1 : Int32))) (fun h => by rw [Bd.returns] at h; cases h) (fun fs hr => retN X171 hx (t := .boolean) Bd.returns (by simp) (hb hby at_260) hr) ?_ (by decide) (by decide)
            exact ⟨rfl, N171⟩
        · refine own_via (T165.setTop (mkF m 210 #[.val (.int p0), .val (.int p1), .val (.int p2), .val (.int p3), .val (.int p4), .val (.int p5), .val (.ref b101), .val (.int z113), .val (.int z115), .val (.int z117), .val (.int z119), .val (.ref b121), .val .null, .val (.ref r_133), .val (.int zex), .val (.int zab), .val (.int zba)] [])) (fun t k => XS.ifNo X165.here hx rfl (hb hby at_207) rfl ((if0 _ _).trans (feq hab).1) k) ?_
          refine own_via (T165.setTop (mkF m 212 #[.val (.int p0), .val (.int p1), .val (.int p2), .val (.int p3), .val (.int p4), .val (.int p5), .val (.ref b101), .val (.int z113), .val (.int z115), .val (.int z117), .val (.int z119), .val (.ref b121), .val .null, .val (.ref r_133), .val (.int zex), .val (.int zab), .val (.int zba)] [(.ref b101)])) (fun t k => XS.aload X165.here hx rfl (hb hby at_210) rfl rfl k) ?_
          obtain ⟨cq172, kq172, q172a, q172b, q172c⟩ := isOf hZ e165 F144
          obtain ⟨_, _, ⟨T172, L172, k172, n172⟩, -, X172, ⟨Lc172, hQ172, l172, y172, z172⟩, st172⟩ := X165.virtualBack hx (y := (⟨"com/example/rondo/rondo/Rect", "hashCode", "()I"⟩ : MethodName)) (z := (⟨"com/example/rondo/rondo/Rect", "hashCode", "()I"⟩ : MethodName)) hown (mvT hZ (hw _ (List.mem_of_getElem? (i := 43) rfl))) (mvT hZ (hw _ (List.mem_of_getElem? (i := 44) rfl))) (notFace_of_selects (args := #[]) (mvT hZ (hw _ (List.mem_of_getElem? (i := 46) rfl)))) (mvT hZ (hw _ (List.mem_of_getElem? (i := 46) rfl))) (mvT hZ (hw _ (List.mem_of_getElem? (i := 45) rfl))) (by decide) (backOf (W := 0) (rm8 l Z a0 hw [] b101 h133 n0 (Nat.le_trans Z0 K134.1) z109 z110 z111 z112 F136 F137 F138 F139) hZ (hw _ (List.mem_of_getElem? (i := 47) rfl)) (hw _ (List.mem_of_getElem? (i := 2) rfl)) (by decide) (by decide)) q172a q172c (g := (mkF m 212 #[.val (.int p0), .val (.int p1), .val (.int p2), .val (.int p3), .val (.int p4), .val (.int p5), .val (.ref b101), .val (.int z113), .val (.int z115), .val (.int z117), .val (.int z119), .val (.ref b121), .val .null, .val (.ref r_133), .val (.int zex), .val (.int zab), .val (.int zba)] [(.ref b101)])) rfl (by rw [hml]; rfl) (Steps.refl _) (argsL := []) (rest := []) (lenOf pd_7 rfl) rfl (by show 2 * 0 + _ ≤ _; exact Nat.le_of_eq rfl) (hb hby at_212) (fun _ _ => ⟨rfl, e165, (by decide : 3 + 0 ≤ _), (by decide : 9 + 0 ≤ _)⟩)
          dsimp only [Pt.U, Pt.locs, Pt.cells, Pt.slots] at X172 l172 y172 z172 st172 hQ172
          subst l172 y172 z172
          obtain ⟨rfl, N172q, e172⟩ := hQ172
          have N172 := Fr.app N165 N172q
          refine own_via (T172.setTop (mkF m 215 #[.val (.int p0), .val (.int p1), .val (.int p2), .val (.int p3), .val (.int p4), .val (.int p5), .val (.ref b101), .val (.int z113), .val (.int z115), .val (.int z117), .val (.int z119), .val (.ref b121), .val .null, .val (.ref r_133), .val (.int zex), .val (.int zab), .val (.int zba)] [(.int (own_f8 z109 z110 z111 z112))])) (fun t k => st172.trans k) ?_
          refine own_via (T172.setTop (mkF m 217 #[.val (.int p0), .val (.int p1), .val (.int p2), .val (.int p3), .val (.int p4), .val (.int p5), .val (.ref b101), .val (.int z113), .val (.int z115), .val (.int z117), .val (.int z119), .val (.ref b121), .val .null, .val (.ref r_133), .val (.int zex), .val (.int zab), .val (.int zba)] [(.ref b121), (.int (own_f8 z109 z110 z111 z112))])) (fun t k => XS.aload X172.here hx rfl (hb hby at_215) rfl rfl k) ?_
          obtain ⟨cq173, kq173, q173a, q173b, q173c⟩ := isOf hZ e172 F162
          obtain ⟨_, _, ⟨T173, L173, k173, n173⟩, -, X173, ⟨Lc173, hQ173, l173, y173, z173⟩, st173⟩ := X172.virtualBack hx (y := (⟨"com/example/rondo/rondo/Rect", "hashCode", "()I"⟩ : MethodName)) (z := (⟨"com/example/rondo/rondo/Rect", "hashCode", "()I"⟩ : MethodName)) hown (mvT hZ (hw _ (List.mem_of_getElem? (i := 43) rfl))) (mvT hZ (hw _ (List.mem_of_getElem? (i := 44) rfl))) (notFace_of_selects (args := #[]) (mvT hZ (hw _ (List.mem_of_getElem? (i := 46) rfl)))) (mvT hZ (hw _ (List.mem_of_getElem? (i := 46) rfl))) (mvT hZ (hw _ (List.mem_of_getElem? (i := 45) rfl))) (by decide) (backOf (W := 1) (rm8 l Z a0 hw [] b121 h133 n0 (Nat.le_trans Z0 K134.1) z129 z130 z131 z132 F140 F141 F142 F143) hZ (hw _ (List.mem_of_getElem? (i := 47) rfl)) (hw _ (List.mem_of_getElem? (i := 2) rfl)) (by decide) (by decide)) q173a q173c (g := (mkF m 217 #[.val (.int p0), .val (.int p1), .val (.int p2), .val (.int p3), .val (.int p4), .val (.int p5), .val (.ref b101), .val (.int z113), .val (.int z115), .val (.int z117), .val (.int z119), .val (.ref b121), .val .null, .val (.ref r_133), .val (.int zex), .val (.int zab), .val (.int zba)] [(.ref b121), (.int (own_f8 z109 z110 z111 z112))])) rfl (by rw [hml]; rfl) (Steps.refl _) (argsL := []) (rest := [(.int (own_f8 z109 z110 z111 z112))]) (lenOf pd_7 rfl) rfl (by show 2 * 0 + _ ≤ _; exact Nat.le_of_eq rfl) (hb hby at_217) (fun _ _ => ⟨rfl, e172, (by decide : 3 + 0 ≤ _), (by decide : 9 + 0 ≤ _)⟩)
          dsimp only [Pt.U, Pt.locs, Pt.cells, Pt.slots] at X173 l173 y173 z173 st173 hQ173
          subst l173 y173 z173
          obtain ⟨rfl, N173q, e173⟩ := hQ173
          have N173 := Fr.app N172 N173q
          refine own_via (T173.setTop (mkF m 220 #[.val (.int p0), .val (.int p1), .val (.int p2), .val (.int p3), .val (.int p4), .val (.int p5), .val (.ref b101), .val (.int z113), .val (.int z115), .val (.int z117), .val (.int z119), .val (.ref b121), .val .null, .val (.ref r_133), .val (.int zex), .val (.int zab), .val (.int zba)] [(.int (own_f8 z129 z130 z131 z132)), (.int (own_f8 z109 z110 z111 z112))])) (fun t k => st173.trans k) ?_
          by_cases hc220_174 : (own_f8 z109 z110 z111 z112) = (own_f8 z129 z130 z131 z132)
          · refine own_via (T173.setTop (mkF m 225 #[.val (.int p0), .val (.int p1), .val (.int p2), .val (.int p3), .val (.int p4), .val (.int p5), .val (.ref b101), .val (.int z113), .val (.int z115), .val (.int z117), .val (.int z119), .val (.ref b121), .val .null, .val (.ref r_133), .val (.int zex), .val (.int zab), .val (.int zba)] [])) (fun t k => XS.icmpYes X173.here hx rfl (pc0 := 220) (pc' := 225) rfl (hb hby at_220) rfl (teq hc220_174).1 (by decide) (by decide) k) ?_
            refine own_via (T173.setTop (mkF m 227 #[.val (.int p0), .val (.int p1), .val (.int p2), .val (.int p3), .val (.int p4), .val (.int p5), .val (.ref b101), .val (.int z113), .val (.int z115), .val (.int z117), .val (.int z119), .val (.ref b121), .val .null, .val (.ref r_133), .val (.int zex), .val (.int zab), .val (.int zba)] [(.ref b101)])) (fun t k => XS.aload X173.here hx rfl (hb hby at_225) rfl rfl k) ?_
            refine own_via (T173.setTop (mkF m 229 #[.val (.int p0), .val (.int p1), .val (.int p2), .val (.int p3), .val (.int p4), .val (.int p5), .val (.ref b101), .val (.int z113), .val (.int z115), .val (.int z117), .val (.int z119), .val (.ref b121), .val .null, .val (.ref r_133), .val (.int zex), .val (.int zab), .val (.int zba)] [(.ref b101), (.ref b101)])) (fun t k => XS.aload X173.here hx rfl (hb hby at_227) rfl rfl k) ?_
            obtain ⟨cq175, kq175, q175a, q175b, q175c⟩ := isOf hZ e173 F144
            obtain ⟨_, _, ⟨T175, L175, k175, n175⟩, -, X175, ⟨Lc175, hQ175, l175, y175, z175⟩, st175⟩ := X173.virtualBack hx (y := (⟨"com/example/rondo/rondo/Rect", "equals", "(Ljava/lang/Object;)Z"⟩ : MethodName)) (z := (⟨"com/example/rondo/rondo/Rect", "equals", "(Ljava/lang/Object;)Z"⟩ : MethodName)) hown (mvT hZ (hw _ (List.mem_of_getElem? (i := 36) rfl))) (mvT hZ (hw _ (List.mem_of_getElem? (i := 37) rfl))) (notFace_of_selects (args := #[]) (mvT hZ (hw _ (List.mem_of_getElem? (i := 39) rfl)))) (mvT hZ (hw _ (List.mem_of_getElem? (i := 39) rfl))) (mvT hZ (hw _ (List.mem_of_getElem? (i := 38) rfl))) (by decide) (backOf (W := 0) (rm7 l Z a0 hw [] b101 b101 h133 n0 (Nat.le_trans Z0 K134.1) z109 z110 z111 z112 z109 z110 z111 z112 F136 F137 F138 F139 F136 F137 F138 F139 F144) hZ (hw _ (List.mem_of_getElem? (i := 40) rfl)) (hw _ (List.mem_of_getElem? (i := 2) rfl)) (by decide) (by decide)) q175a q175c (g := (mkF m 229 #[.val (.int p0), .val (.int p1), .val (.int p2), .val (.int p3), .val (.int p4), .val (.int p5), .val (.ref b101), .val (.int z113), .val (.int z115), .val (.int z117), .val (.int z119), .val (.ref b121), .val .null, .val (.ref r_133), .val (.int zex), .val (.int zab), .val (.int zba)] [(.ref b101), (.ref b101)])) rfl (by rw [hml]; rfl) (Steps.refl _) (argsL := [(.ref b101)]) (rest := []) (lenOf pd_6 rfl) rfl (by show 2 * 0 + _ ≤ _; exact Nat.le_of_eq rfl) (hb hby at_229) (fun _ _ => ⟨rfl, e173, (by decide : 3 + 0 ≤ _), (by decide : 9 + 0 ≤ _)⟩)
            dsimp only [Pt.U, Pt.locs, Pt.cells, Pt.slots] at X175 l175 y175 z175 st175 hQ175
            subst l175 y175 z175
            obtain ⟨rfl, N175q, e175⟩ := hQ175
            have N175 := Fr.app N173 N175q
            refine own_via (T175.setTop (mkF m 232 #[.val (.int p0), .val (.int p1), .val (.int p2), .val (.int p3), .val (.int p4), .val (.int p5), .val (.ref b101), .val (.int z113), .val (.int z115), .val (.int z117), .val (.int z119), .val (.ref b121), .val .null, .val (.ref r_133), .val (.int zex), .val (.int zab), .val (.int zba)] [(.int (own_f7 z109 z110 z111 z112 z109 z110 z111 z112))])) (fun t k => st175.trans k) ?_
            by_cases hc232_176 : (own_f7 z109 z110 z111 z112 z109 z110 z111 z112) = (0 : Int32)
            · exact absurd hc232_176 (own_self7 _ _ _ _)
            · refine own_via (T175.setTop (mkF m 235 #[.val (.int p0), .val (.int p1), .val (.int p2), .val (.int p3), .val (.int p4), .val (.int p5), .val (.ref b101), .val (.int z113), .val (.int z115), .val (.int z117), .val (.int z119), .val (.ref b121), .val .null, .val (.ref r_133), .val (.int zex), .val (.int zab), .val (.int zba)] [])) (fun t k => XS.ifNo X175.here hx rfl (hb hby at_232) rfl ((if0 _ _).trans (feq hc232_176).1) k) ?_
              refine own_via (T175.setTop (mkF m 237 #[.val (.int p0), .val (.int p1), .val (.int p2), .val (.int p3), .val (.int p4), .val (.int p5), .val (.ref b101), .val (.int z113), .val (.int z115), .val (.int z117), .val (.int z119), .val (.ref b121), .val .null, .val (.ref r_133), .val (.int zex), .val (.int zab), .val (.int zba)] [(.ref b101)])) (fun t k => XS.aload X175.here hx rfl (hb hby at_235) rfl rfl k) ?_
              refine own_via (T175.setTop (mkF m 239 #[.val (.int p0), .val (.int p1), .val (.int p2), .val (.int p3), .val (.int p4), .val (.int p5), .val (.ref b101), .val (.int z113), .val (.int z115), .val (.int z117), .val (.int z119), .val (.ref b121), .val .null, .val (.ref r_133), .val (.int zex), .val (.int zab), .val (.int zba)] [.null, (.ref b101)])) (fun t k => XS.aload X175.here hx rfl (hb hby at_237) rfl rfl k) ?_
              obtain ⟨cq177, kq177, q177a, q177b, q177c⟩ := isOf hZ e175 F144
              obtain ⟨_, _, ⟨T177, L177, k177, n177⟩, -, X177, ⟨Lc177, hQ177, l177, y177, z177⟩, st177⟩ := X175.virtualBack hx (y := (⟨"com/example/rondo/rondo/Rect", "equals", "(Ljava/lang/Object;)Z"⟩ : MethodName)) (z := (⟨"com/example/rondo/rondo/Rect", "equals", "(Ljava/lang/Object;)Z"⟩ : MethodName)) hown (mvT hZ (hw _ (List.mem_of_getElem? (i := 36) rfl))) (mvT hZ (hw _ (List.mem_of_getElem? (i := 37) rfl))) (notFace_of_selects (args := #[]) (mvT hZ (hw _ (List.mem_of_getElem? (i := 39) rfl)))) (mvT hZ (hw _ (List.mem_of_getElem? (i := 39) rfl))) (mvT hZ (hw _ (List.mem_of_getElem? (i := 38) rfl))) (by decide) (backOf (W := 0) (rm7n l Z a0 hw [] b101 h133 n0 (Nat.le_trans Z0 K134.1) ) hZ (hw _ (List.mem_of_getElem? (i := 40) rfl)) (hw _ (List.mem_of_getElem? (i := 2) rfl)) (by decide) (by decide)) q177a q177c (g := (mkF m 239 #[.val (.int p0), .val (.int p1), .val (.int p2), .val (.int p3), .val (.int p4), .val (.int p5), .val (.ref b101), .val (.int z113), .val (.int z115), .val (.int z117), .val (.int z119), .val (.ref b121), .val .null, .val (.ref r_133), .val (.int zex), .val (.int zab), .val (.int zba)] [.null, (.ref b101)])) rfl (by rw [hml]; rfl) (Steps.refl _) (argsL := [.null]) (rest := []) (lenOf pd_6 rfl) rfl (by show 2 * 0 + _ ≤ _; exact Nat.le_of_eq rfl) (hb hby at_239) (fun _ _ => ⟨rfl, e175, (by decide : 3 + 0 ≤ _), (by decide : 9 + 0 ≤ _)⟩)
              dsimp only [Pt.U, Pt.locs, Pt.cells, Pt.slots] at X177 l177 y177 z177 st177 hQ177
              subst l177 y177 z177
              obtain ⟨rfl, N177q, e177⟩ := hQ177
              have N177 := Fr.app N175 N177q
              refine own_via (T177.setTop (mkF m 242 #[.val (.int p0), .val (.int p1), .val (.int p2), .val (.int p3), .val (.int p4), .val (.int p5), .val (.ref b101), .val (.int z113), .val (.int z115), .val (.int z117), .val (.int z119), .val (.ref b121), .val .null, .val (.ref r_133), .val (.int zex), .val (.int zab), .val (.int zba)] [(.int (0 : Int32))])) (fun t k => st177.trans k) ?_
              refine own_via (T177.setTop (mkF m 245 #[.val (.int p0), .val (.int p1), .val (.int p2), .val (.int p3), .val (.int p4), .val (.int p5), .val (.ref b101), .val (.int z113), .val (.int z115), .val (.int z117), .val (.int z119), .val (.ref b121), .val .null, .val (.ref r_133), .val (.int zex), .val (.int zab), .val (.int zba)] [])) (fun t k => XS.ifNo X177.here hx rfl (hb hby at_242) rfl ((if0 _ _).trans (teq (by decide)).2) k) ?_
              refine own_via (T177.setTop (mkF m 247 #[.val (.int p0), .val (.int p1), .val (.int p2), .val (.int p3), .val (.int p4), .val (.int p5), .val (.ref b101), .val (.int z113), .val (.int z115), .val (.int z117), .val (.int z119), .val (.ref b121), .val .null, .val (.ref r_133), .val (.int zex), .val (.int zab), .val (.int zba)] [(.ref b101)])) (fun t k => XS.aload X177.here hx rfl (hb hby at_245) rfl rfl k) ?_
              refine own_via (T177.setTop (mkF m 249 #[.val (.int p0), .val (.int p1), .val (.int p2), .val (.int p3), .val (.int p4), .val (.int p5), .val (.ref b101), .val (.int z113), .val (.int z115), .val (.int z117), .val (.int z119), .val (.ref b121), .val .null, .val (.ref r_133), .val (.int zex), .val (.int zab), .val (.int zba)] [(.ref r_133), (.ref b101)])) (fun t k => XS.aload X177.here hx rfl (hb hby at_247) rfl rfl k) ?_
              obtain ⟨cq178, kq178, q178a, q178b, q178c⟩ := isOf hZ e177 F144
              obtain ⟨_, _, ⟨T178, L178, k178, n178⟩, -, X178, ⟨Lc178, hQ178, l178, y178, z178⟩, st178⟩ := X177.virtualBack hx (y := (⟨"com/example/rondo/rondo/Rect", "equals", "(Ljava/lang/Object;)Z"⟩ : MethodName)) (z := (⟨"com/example/rondo/rondo/Rect", "equals", "(Ljava/lang/Object;)Z"⟩ : MethodName)) hown (mvT hZ (hw _ (List.mem_of_getElem? (i := 36) rfl))) (mvT hZ (hw _ (List.mem_of_getElem? (i := 37) rfl))) (notFace_of_selects (args := #[]) (mvT hZ (hw _ (List.mem_of_getElem? (i := 39) rfl)))) (mvT hZ (hw _ (List.mem_of_getElem? (i := 39) rfl))) (mvT hZ (hw _ (List.mem_of_getElem? (i := 38) rfl))) (by decide) (backOf (W := 0) (rm7i l Z a0 hw [] b101 r_133 h133 n0 (Nat.le_trans Z0 K134.1) G133_0 (own_noRect hw)) hZ (hw _ (List.mem_of_getElem? (i := 40) rfl)) (hw _ (List.mem_of_getElem? (i := 2) rfl)) (by decide) (by decide)) q178a q178c (g := (mkF m 249 #[.val (.int p0), .val (.int p1), .val (.int p2), .val (.int p3), .val (.int p4), .val (.int p5), .val (.ref b101), .val (.int z113), .val (.int z115), .val (.int z117), .val (.int z119), .val (.ref b121), .val .null, .val (.ref r_133), .val (.int zex), .val (.int zab), .val (.int zba)] [(.ref r_133), (.ref b101)])) rfl (by rw [hml]; rfl) (Steps.refl _) (argsL := [(.ref r_133)]) (rest := []) (lenOf pd_6 rfl) rfl (by show 2 * 0 + _ ≤ _; exact Nat.le_of_eq rfl) (hb hby at_249) (fun _ _ => ⟨rfl, e177, (by decide : 3 + 0 ≤ _), (by decide : 9 + 0 ≤ _)⟩)
              dsimp only [Pt.U, Pt.locs, Pt.cells, Pt.slots] at X178 l178 y178 z178 st178 hQ178
              subst l178 y178 z178
              obtain ⟨rfl, N178q, e178⟩ := hQ178
              have N178 := Fr.app N177 N178q
              refine own_via (T178.setTop (mkF m 252 #[.val (.int p0), .val (.int p1), .val (.int p2), .val (.int p3), .val (.int p4), .val (.int p5), .val (.ref b101), .val (.int z113), .val (.int z115), .val (.int z117), .val (.int z119), .val (.ref b121), .val .null, .val (.ref r_133), .val (.int zex), .val (.int zab), .val (.int zba)] [(.int (0 : Int32))])) (fun t k => st178.trans k) ?_
              refine own_via (T178.setTop (mkF m 255 #[.val (.int p0), .val (.int p1), .val (.int p2), .val (.int p3), .val (.int p4), .val (.int p5), .val (.ref b101), .val (.int z113), .val (.int z115), .val (.int z117), .val (.int z119), .val (.ref b121), .val .null, .val (.ref r_133), .val (.int zex), .val (.int zab), .val (.int zba)] [])) (fun t k => XS.ifNo X178.here hx rfl (hb hby at_252) rfl ((if0 _ _).trans (teq (by decide)).2) k) ?_
              refine own_via (T178.setTop (mkF m 256 #[.val (.int p0), .val (.int p1), .val (.int p2), .val (.int p3), .val (.int p4), .val (.int p5), .val (.ref b101), .val (.int z113), .val (.int z115), .val (.int z117), .val (.int z119), .val (.ref b121), .val .null, .val (.ref r_133), .val (.int zex), .val (.int zab), .val (.int zba)] [(.int (1 : Int32))])) (fun t k => XS.iconst X178.here hx rfl (hb hby at_255) k) ?_
              refine own_via (T178.setTop (mkF m 260 #[.val (.int p0), .val (.int p1), .val (.int p2), .val (.int p3), .val (.int p4), .val (.int p5), .val (.ref b101), .val (.int z113), .val (.int z115), .val (.int z117), .val (.int z119), .val (.ref b121), .val .null, .val (.ref r_133), .val (.int zex), .val (.int zab), .val (.int zba)] [(.int (1 : Int32))])) (fun t k => XS.goto X178.here hx rfl (pc0 := 256) (pc' := 260) rfl (hb hby at_256) (by decide) (by decide) k) ?_
              refine own_leave X178 Bd.notSynchronized (v := some (.int (1 : Int32))) (fun h => by rw [Bd.returns] at h; cases h) (fun fs hr => retN X178 hx (t := .boolean) Bd.returns (by simp) (hb hby at_260) hr) ?_ (by decide) (by decide)
              exact ⟨rfl, N178⟩
          · exact absurd (own_hash hzab hab) hc220_174
      · exact absurd (by first | exact own_ba0 hzba hct | exact own_ba1 hzba hct hzex) hc200_167
    · exact absurd (by first | exact own_ab0 hzab hct | exact own_ab1 hzab hct hzex) hc193_166
set_option maxRecDepth 65536 in
set_option maxHeartbeats 40000000 in
theorem comes_1 {Post : Tables → Env → Array Value → State → Outcome → State → Prop} (hpost : ∀ tb e args s v u, (limb_1_1.after args s (.returned v) u = true ∧ limb_1_2.after args s (.returned v) u = true ∧ True) → FrameEnd s (.returned v) u (Jvm.fieldLocs frame_1_writes args s ++ Jvm.arrayLocs frame_1_arrays args s ++ Jvm.staticLocs frame_1_statics s) 16 128 → Post tb e args s (.returned v) u) :
    ArmFor flags0 classFile x code maxLocals ret World_1 tables_1 room_1 Calls_1 rest_1 Pre_1 Post := by
  intro l hfl _ _ p e ha hc hk s m args below hf hA hF happ hP
  obtain ⟨hcalls, hrest, hpre⟩ := hP
  obtain ⟨-, -, -, hnamed, -, -, -, hat⟩ := (Spec.applies_iff hf).mp happ
  obtain ⟨hg, hn⟩ := and_e (Cond.before_iff.mp (show (Jvm.Cond.and given_1 narrow_1).before args s = true from hpre))
  obtain ⟨g0, g⟩ := and_e hg
  obtain ⟨ga0, g⟩ := and_e g
  obtain ⟨ga1, g⟩ := and_e g
  obtain ⟨ga2, g⟩ := and_e g
  obtain ⟨ga3, g⟩ := and_e g
  obtain ⟨ga4, g⟩ := and_e g
  have ga5 := g
  obtain ⟨w0, w1, w2, w3, w4, w5, rfl⟩ : ∃ w0 w1 w2 w3 w4 w5 : Value, args = #[w0, w1, w2, w3, w4, w5] := by
    have hs : args.size = 6 := by simpa [Cond.value, given_1] using g0
    obtain ⟨L⟩ := args
    match L, hs with
    | [w0, w1, w2, w3, w4, w5], _ => exact ⟨w0, w1, w2, w3, w4, w5, rfl⟩
  have hw := fun d (hd : d ∈ tables_1) => atoms_spec (ws := Jvm.Cond.code x code maxLocals ret :: tables_1) hat d (List.mem_cons_of_mem _ hd)
  have hfit : Fit s := fun {y c} hc i hi => by
    obtain ⟨ha, rfl⟩ := Array.getElem?_eq_some_iff.mp hc
    have q := List.all_eq_true.mp ((Array.all_eq_true_iff_forall_mem.mp hF) _ (Array.getElem_mem ha)) i (List.mem_range.mpr hi)
    simpa [Array.getElem?_eq_getElem hi] using q
  obtain ⟨i0, ei0⟩ := is_v ga0
  obtain rfl : w0 = (.int i0) := Option.some.inj ei0
  obtain ⟨i1, ei1⟩ := is_v ga1
  obtain rfl : w1 = (.int i1) := Option.some.inj ei1
  obtain ⟨i2, ei2⟩ := is_v ga2
  obtain rfl : w2 = (.int i2) := Option.some.inj ei2
  obtain ⟨i3, ei3⟩ := is_v ga3
  obtain rfl : w3 = (.int i3) := Option.some.inj ei3
  obtain ⟨i4, ei4⟩ := is_v ga4
  obtain rfl : w4 = (.int i4) := Option.some.inj ei4
  obtain ⟨i5, ei5⟩ := is_v ga5
  obtain rfl : w5 = (.int i5) := Option.some.inj ei5
  obtain ⟨hsets, hown0⟩ := atoms_of _ (rest_1_c_eq ▸ (show rest_1_c.before _ s = true from hrest))
  have hcache : own_Cache s s.heap := own_cache0 hfit (hw _ (List.mem_of_getElem? (i := 29) rfl)) (hsets _ (List.mem_of_getElem? (i := 0) rfl)) (hsets _ (List.mem_of_getElem? (i := 2) rfl)) (hsets _ (List.mem_of_getElem? (i := 3) rfl)) (hsets _ (List.mem_of_getElem? (i := 4) rfl)) (hsets _ (List.mem_of_getElem? (i := 6) rfl)) (hsets _ (List.mem_of_getElem? (i := 7) rfl))
  obtain ⟨n, o, h1, h2, h3, _, L, rfl, ⟨rfl, N⟩, hq⟩ := rm0 l s _ hw tables_1 i0 i1 i2 i3 i4 i5 s.heap s.heap.size (Nat.le_refl _) hcache p e ha hc hk s m _ below hf ((Spec.applies_iff_loose hf).mp happ).1 ⟨rfl, State.Warmed39.refl s, rfl⟩ trivial
  refine ⟨n, _, h1, h2, h3, hpost _ _ _ _ _ _ ⟨Cond.after_iff.mpr rfl, Cond.after_iff.mpr (eq_i res_at (Term.int_eval (1)) rfl), trivial⟩ ⟨hq.1, hq.2.1, (hq.2.2.sift fun y hy => Or.inr (N y hy)).mono (by decide) (by decide)⟩⟩
theorem main_1_1 : Claimed_1_1 := comes_1 fun _ _ _ _ _ _ h hF => ⟨h.1, hF⟩
theorem main_1_2 : Claimed_1_2 := comes_1 fun _ _ _ _ _ _ h hF => ⟨h.2.1, hF⟩
end Jvm.Pilot.@@N@@
namespace Jvm.Pilot.@@N@@
open Jvm Jvm.ClassFile Sem Op Lib Jvm.Free Jvm.Stand Jvm.Pilot.@@N@@.Jvm.D
/-! MADE BY PROGRAM (witnessworld.py) out of the Statement's table words and the real class files: 17 classes; the members and pool entries that the words name. The judged class is class 1, her method 1. -/
namespace start1
open Jvm.ClassFile
def u (s : String) : CpInfo := .utf8 (stringToUtf16 s)
/-- a pool by its gaps: so many unusable entries, then the entry; so many at the end -/
def gap : Nat → List CpInfo → List CpInfo
  | 0, r => r
  | n + 1, r => .unusable :: gap n r
def poolList (es : List (Nat × CpInfo)) (last : Nat) : List CpInfo := es.foldr (fun e r => gap e.1 (e.2 :: r)) (gap last [])
def pool (es : List (Nat × CpInfo)) (last : Nat) : Array CpInfo := ⟨poolList es last⟩
def fileOf (pool : Array CpInfo) (this : Nat) (attrs : Array Attribute := #[]) (ms : Array MethodInfo := #[]) (fl : Nat := 33) (sup : Nat := 0) (ifs : Array Nat := #[]) (fds : Array FieldInfo := #[]) : ClassFile where
  minorVersion := 0
  majorVersion := 65
  constantPool := pool
  accessFlags := fl
  thisClass := this
  superClass := sup
  interfaces := ifs
  fields := fds
  methods := ms
  attributes := attrs
def plain (name : String) (sup : Option ClassId) : Class where
  name := name
  kind := .ordinary
  loader := none
  accessFlags := 33
  super := sup
  interfaces := #[]
  cf := none
  fields := #[]
  methods := #[]
  instanceTypes := #[]
  staticTypes := #[]
  resolved := #[]
  callSites := []
  init := .initialized
  statics := none
  mirror := none

def pool0 : Array CpInfo := pool [(5, u "<init>"), (0, u "()V"), (1, .class_ 10), (1, u "java/lang/Object")] 113

def k0c0 : Code := { maxStack := 0, maxLocals := 1, code := object_method_1_code, exceptionTable := #[], attributes := #[] }
def k0m0 : Method := { name := "<init>", desc := "()V", sig := { parameters := [], returnType := none }, accessFlags := 1, code := some k0c0 }
/-- java/lang/Object -/
def k0 : Class := { plain "java/lang/Object" none with
  accessFlags := 33
  interfaces := #[]
  cf := some (fileOf pool0 8 #[] #[{ accessFlags := 1, nameIndex := 5, descriptorIndex := 6, attributes := #[] }] 33 0 #[] #[])
  fields := #[]
  methods := #[k0m0]
  instanceTypes := #[]
  staticTypes := #[]
  resolved := Array.replicate 124 none
  statics := none }

def pool1 : Array CpInfo := pool [(2, .class_ 4), (1, u "java/lang/Object"), (0, u "<init>"), (0, u "()V"), (0, .class_ 8), (0, u "com/example/rondo/rondo/Rect"), (0, .methodref 10 11), (0, .class_ 12), (0, .nameAndType 13 14), (0, u "java/lang/Math"), (0, u "min"), (0, u "(II)I"), (0, .methodref 10 16), (0, .nameAndType 17 14), (0, u "max"), (0, .methodref 7 19), (0, .nameAndType 5 20), (0, u "(IIII)V"), (0, .methodref 22 23), (0, .class_ 24), (0, .nameAndType 25 26), (0, u "java/lang/Integer"), (0, u "valueOf"), (0, u "(I)Ljava/lang/Integer;"), (0, .methodref 7 28), (0, .nameAndType 29 30), (0, u "contains"), (0, u "(Lcom/example/rondo/rondo/Rect;)Z"), (0, .methodref 7 32), (0, .nameAndType 33 34), (0, u "equals"), (0, u "(Ljava/lang/Object;)Z"), (0, .methodref 7 36), (0, .nameAndType 37 38), (0, u "hashCode"), (0, u "()I"), (0, .class_ 40), (0, u "com/example/rondo/rondo/RectEqualsPinLaw"), (2, u "law"), (0, u "(IIIIII)Z")] 3

def k1m0 : Method := { name := "<init>", desc := "()V", sig := { parameters := [], returnType := none }, accessFlags := 1, code := none }
def k1c1 : Code := { maxStack := 7, maxLocals := 17, code := code, exceptionTable := #[], attributes := #[] }
def k1m1 : Method := { name := "law", desc := "(IIIIII)Z", sig := { parameters := [.int, .int, .int, .int, .int, .int], returnType := some .boolean }, accessFlags := 9, code := some k1c1 }
/-- com/example/rondo/rondo/RectEqualsPinLaw -/
def k1 : Class := { plain "com/example/rondo/rondo/RectEqualsPinLaw" (some 0) with
  accessFlags := 49
  interfaces := #[]
  cf := some (fileOf pool1 39 #[] #[{ accessFlags := 1, nameIndex := 5, descriptorIndex := 6, attributes := #[] }, { accessFlags := 9, nameIndex := 43, descriptorIndex := 44, attributes := #[] }] 49 2 #[] #[])
  fields := #[]
  methods := #[k1m0, k1m1]
  instanceTypes := #[]
  staticTypes := #[]
  resolved := Array.replicate 48 none
  statics := none }

def pool2 : Array CpInfo := pool [(1, .methodref 2 3), (0, .class_ 4), (0, .nameAndType 5 6), (0, u "java/lang/Object"), (0, u "<init>"), (0, u "()V"), (3, .class_ 12), (1, u "com/example/rondo/rondo/Rect"), (10, .fieldref 10 24), (0, .nameAndType 25 26), (0, u "left"), (0, u "I"), (0, .fieldref 10 28), (0, .nameAndType 29 26), (0, u "top"), (0, .fieldref 10 31), (0, .nameAndType 32 26), (0, u "right"), (0, .fieldref 10 34), (0, .nameAndType 35 26), (0, u "bottom"), (2, u "contains"), (0, u "(Lcom/example/rondo/rondo/Rect;)Z"), (11, u "(IIII)V"), (7, u "equals"), (0, u "(Ljava/lang/Object;)Z"), (0, u "hashCode"), (0, u "()I")] 23

def k2c0 : Code := { maxStack := 6, maxLocals := 5, code := prog_40_method_1_code, exceptionTable := #[], attributes := #[] }
def k2m0 : Method := { name := "<init>", desc := "(IIII)V", sig := { parameters := [.int, .int, .int, .int], returnType := none }, accessFlags := 1, code := some k2c0 }
def k2c1 : Code := { maxStack := 2, maxLocals := 2, code := prog_40_method_3_code, exceptionTable := #[], attributes := #[] }
def k2m1 : Method := { name := "contains", desc := "(Lcom/example/rondo/rondo/Rect;)Z", sig := { parameters := [(.object "com/example/rondo/rondo/Rect")], returnType := some .boolean }, accessFlags := 1, code := some k2c1 }
def k2c2 : Code := { maxStack := 2, maxLocals := 3, code := prog_40_method_4_code, exceptionTable := #[], attributes := #[] }
def k2m2 : Method := { name := "equals", desc := "(Ljava/lang/Object;)Z", sig := { parameters := [(.object "java/lang/Object")], returnType := some .boolean }, accessFlags := 1, code := some k2c2 }
def k2c3 : Code := { maxStack := 4, maxLocals := 1, code := prog_40_method_5_code, exceptionTable := #[], attributes := #[] }
def k2m3 : Method := { name := "hashCode", desc := "()I", sig := { parameters := [], returnType := some .int }, accessFlags := 1, code := some k2c3 }
/-- com/example/rondo/rondo/Rect -/
def k2 : Class := { plain "com/example/rondo/rondo/Rect" (some 0) with
  accessFlags := 49
  interfaces := #[]
  cf := some (fileOf pool2 10 #[] #[{ accessFlags := 1, nameIndex := 5, descriptorIndex := 51, attributes := #[] }, { accessFlags := 1, nameIndex := 38, descriptorIndex := 39, attributes := #[] }, { accessFlags := 1, nameIndex := 59, descriptorIndex := 60, attributes := #[] }, { accessFlags := 1, nameIndex := 61, descriptorIndex := 62, attributes := #[] }] 49 2 #[] #[{ accessFlags := 17, nameIndex := 25, descriptorIndex := 26, attributes := #[] }, { accessFlags := 17, nameIndex := 29, descriptorIndex := 26, attributes := #[] }, { accessFlags := 17, nameIndex := 32, descriptorIndex := 26, attributes := #[] }, { accessFlags := 17, nameIndex := 35, descriptorIndex := 26, attributes := #[] }])
  fields := #[{ name := "left", type := .int, accessFlags := 17, slot := 0, constantValue := 0 }, { name := "top", type := .int, accessFlags := 17, slot := 1, constantValue := 0 }, { name := "right", type := .int, accessFlags := 17, slot := 2, constantValue := 0 }, { name := "bottom", type := .int, accessFlags := 17, slot := 3, constantValue := 0 }]
  methods := #[k2m0, k2m1, k2m2, k2m3]
  instanceTypes := #[.int, .int, .int, .int]
  staticTypes := #[]
  resolved := Array.replicate 86 none
  statics := none }

def pool3 : Array CpInfo := pool [(1, .class_ 2), (0, u "java/lang/Math"), (1, .class_ 6), (1, u "java/lang/Object"), (0, u "<init>"), (0, u "()V"), (89, .class_ 100), (1, u "java/lang/Math$RandomNumberGeneratorHolder"), (71, u "negativeZeroFloatBits"), (0, u "J"), (2, u "negativeZeroDoubleBits"), (21, u "max"), (2, u "min"), (43, u "$assertionsDisabled"), (0, u "Z"), (88, u "(II)I"), (2, u "twoToTheDoubleScaleDown"), (0, u "D"), (4, u "twoToTheDoubleScaleUp"), (9, u "E"), (3, u "PI"), (2, u "TAU"), (2, u "DEGREES_TO_RADIANS"), (0, u "RADIANS_TO_DEGREES")] 94

def k3m0 : Method := { name := "<init>", desc := "()V", sig := { parameters := [], returnType := none }, accessFlags := 2, code := none }
def k3c1 : Code := { maxStack := 2, maxLocals := 2, code := jdk_29_method_65_code, exceptionTable := #[], attributes := #[] }
def k3m1 : Method := { name := "max", desc := "(II)I", sig := { parameters := [.int, .int], returnType := some .int }, accessFlags := 9, code := some k3c1 }
def k3c2 : Code := { maxStack := 2, maxLocals := 2, code := jdk_29_method_69_code, exceptionTable := #[], attributes := #[] }
def k3m2 : Method := { name := "min", desc := "(II)I", sig := { parameters := [.int, .int], returnType := some .int }, accessFlags := 9, code := some k3c2 }
/-- java/lang/Math -/
def k3 : Class := { plain "java/lang/Math" (some 0) with
  accessFlags := 49
  interfaces := #[]
  cf := some (fileOf pool3 1 #[.nestMembers #[98]] #[{ accessFlags := 2, nameIndex := 7, descriptorIndex := 8, attributes := #[] }, { accessFlags := 9, nameIndex := 198, descriptorIndex := 335, attributes := #[] }, { accessFlags := 9, nameIndex := 201, descriptorIndex := 335, attributes := #[] }] 49 4 #[] #[{ accessFlags := 25, nameIndex := 354, descriptorIndex := 339, attributes := #[] }, { accessFlags := 25, nameIndex := 358, descriptorIndex := 339, attributes := #[] }, { accessFlags := 25, nameIndex := 361, descriptorIndex := 339, attributes := #[] }, { accessFlags := 26, nameIndex := 364, descriptorIndex := 339, attributes := #[] }, { accessFlags := 26, nameIndex := 365, descriptorIndex := 339, attributes := #[] }, { accessFlags := 26, nameIndex := 172, descriptorIndex := 173, attributes := #[] }, { accessFlags := 26, nameIndex := 176, descriptorIndex := 173, attributes := #[] }, { accessFlags := 8, nameIndex := 344, descriptorIndex := 339, attributes := #[] }, { accessFlags := 8, nameIndex := 338, descriptorIndex := 339, attributes := #[] }, { accessFlags := 4120, nameIndex := 245, descriptorIndex := 246, attributes := #[] }])
  fields := #[{ name := "E", type := .double, accessFlags := 25, slot := 0, constantValue := 0 }, { name := "PI", type := .double, accessFlags := 25, slot := 1, constantValue := 0 }, { name := "TAU", type := .double, accessFlags := 25, slot := 2, constantValue := 0 }, { name := "DEGREES_TO_RADIANS", type := .double, accessFlags := 26, slot := 3, constantValue := 0 }, { name := "RADIANS_TO_DEGREES", type := .double, accessFlags := 26, slot := 4, constantValue := 0 }, { name := "negativeZeroFloatBits", type := .long, accessFlags := 26, slot := 5, constantValue := 0 }, { name := "negativeZeroDoubleBits", type := .long, accessFlags := 26, slot := 6, constantValue := 0 }, { name := "twoToTheDoubleScaleUp", type := .double, accessFlags := 8, slot := 7, constantValue := 0 }, { name := "twoToTheDoubleScaleDown", type := .double, accessFlags := 8, slot := 8, constantValue := 0 }, { name := "$assertionsDisabled", type := .boolean, accessFlags := 4120, slot := 9, constantValue := 0 }]
  methods := #[k3m0, k3m1, k3m2]
  instanceTypes := #[]
  staticTypes := #[.double, .double, .double, .double, .double, .long, .long, .double, .double, .boolean]
  resolved := Array.replicate 460 none
  statics := none }

def pool4 : Array CpInfo := pool [(1, .class_ 2), (0, u "java/io/Serializable"), (0, .class_ 4), (0, u "java/lang/Object")] 2

/-- java/io/Serializable -/
def k4 : Class := { plain "java/io/Serializable" (some 0) with
  accessFlags := 1537
  interfaces := #[]
  cf := some (fileOf pool4 1 #[] #[] 1537 3 #[] #[])
  fields := #[]
  methods := #[]
  instanceTypes := #[]
  staticTypes := #[]
  resolved := Array.replicate 7 none
  statics := none }

def pool5 : Array CpInfo := pool [(1, .methodref 2 3), (0, .class_ 4), (0, .nameAndType 5 6), (0, u "java/lang/Object"), (0, u "<init>"), (0, u "()V"), (1, .class_ 10), (1, u "java/lang/Number"), (2, .class_ 14), (0, u "java/io/Serializable"), (0, u "serialVersionUID"), (0, u "J")] 20

def k5c0 : Code := { maxStack := 1, maxLocals := 1, code := jdk_18_method_1_code, exceptionTable := #[], attributes := #[] }
def k5m0 : Method := { name := "<init>", desc := "()V", sig := { parameters := [], returnType := none }, accessFlags := 1, code := some k5c0 }
/-- java/lang/Number -/
def k5 : Class := { plain "java/lang/Number" (some 0) with
  accessFlags := 1057
  interfaces := #[4]
  cf := some (fileOf pool5 8 #[] #[{ accessFlags := 1, nameIndex := 5, descriptorIndex := 6, attributes := #[] }] 1057 2 #[13] #[{ accessFlags := 26, nameIndex := 15, descriptorIndex := 16, attributes := #[] }])
  fields := #[{ name := "serialVersionUID", type := .long, accessFlags := 26, slot := 0, constantValue := 0 }]
  methods := #[k5m0]
  instanceTypes := #[]
  staticTypes := #[.long]
  resolved := Array.replicate 37 none
  statics := none }

def pool6 : Array CpInfo := pool [(1, .class_ 2), (0, u "java/lang/Comparable"), (0, .class_ 4), (0, u "java/lang/Object")] 7

/-- java/lang/Comparable -/
def k6 : Class := { plain "java/lang/Comparable" (some 0) with
  accessFlags := 1537
  interfaces := #[]
  cf := some (fileOf pool6 1 #[] #[] 1537 3 #[] #[])
  fields := #[]
  methods := #[]
  instanceTypes := #[]
  staticTypes := #[]
  resolved := Array.replicate 12 none
  statics := none }

def pool7 : Array CpInfo := pool [(1, .class_ 2), (0, u "java/lang/constant/Constable"), (0, .class_ 4), (0, u "java/lang/Object")] 6

/-- java/lang/constant/Constable -/
def k7 : Class := { plain "java/lang/constant/Constable" (some 0) with
  accessFlags := 1537
  interfaces := #[]
  cf := some (fileOf pool7 1 #[] #[] 1537 3 #[] #[])
  fields := #[]
  methods := #[]
  instanceTypes := #[]
  staticTypes := #[]
  resolved := Array.replicate 11 none
  statics := none }

def pool8 : Array CpInfo := pool [(1, .class_ 2), (0, u "java/lang/constant/ConstantDesc"), (0, .class_ 4), (0, u "java/lang/Object")] 32

/-- java/lang/constant/ConstantDesc -/
def k8 : Class := { plain "java/lang/constant/ConstantDesc" (some 0) with
  accessFlags := 1537
  interfaces := #[]
  cf := some (fileOf pool8 1 #[] #[] 1537 3 #[] #[])
  fields := #[]
  methods := #[]
  instanceTypes := #[]
  staticTypes := #[]
  resolved := Array.replicate 37 none
  statics := none }

def pool9 : Array CpInfo := pool [(1, .class_ 2), (0, u "java/lang/Integer"), (16, u "digits"), (0, u "[C"), (46, u "<init>"), (17, u "DigitOnes"), (0, u "[B"), (2, u "DigitTens"), (10, .nameAndType 67 101), (0, u "()V"), (85, u "valueOf"), (0, u "(I)Ljava/lang/Integer;"), (0, .class_ 190), (0, u "java/lang/Integer$IntegerCache"), (0, .fieldref 189 192), (0, .nameAndType 193 194), (0, u "high"), (0, u "I"), (0, .fieldref 189 196), (0, .nameAndType 197 198), (0, u "cache"), (0, u "[Ljava/lang/Integer;"), (0, .methodref 1 200), (0, .nameAndType 67 201), (0, u "(I)V"), (0, .methodref 203 100), (0, .class_ 204), (0, u "java/lang/Number"), (0, .fieldref 1 206), (0, .nameAndType 207 194), (0, u "value"), (94, u "TYPE"), (0, u "Ljava/lang/Class;"), (0, .class_ 305), (0, u "java/lang/Comparable"), (0, .class_ 307), (0, u "java/lang/constant/Constable"), (0, .class_ 309), (0, u "java/lang/constant/ConstantDesc"), (0, u "MIN_VALUE"), (1, u "MAX_VALUE"), (3, u "SIZE"), (1, u "BYTES"), (1, u "serialVersionUID"), (0, u "J")] 131

def k9c0 : Code := { maxStack := 3, maxLocals := 1, code := jdk_33_method_22_code, exceptionTable := #[], attributes := #[] }
def k9m0 : Method := { name := "valueOf", desc := "(I)Ljava/lang/Integer;", sig := { parameters := [.int], returnType := some (.object "java/lang/Integer") }, accessFlags := 9, code := some k9c0 }
def k9c1 : Code := { maxStack := 2, maxLocals := 2, code := jdk_33_method_23_code, exceptionTable := #[], attributes := #[] }
def k9m1 : Method := { name := "<init>", desc := "(I)V", sig := { parameters := [.int], returnType := none }, accessFlags := 1, code := some k9c1 }
/-- java/lang/Integer -/
def k9 : Class := { plain "java/lang/Integer" (some 5) with
  accessFlags := 49
  interfaces := #[6, 7, 8]
  cf := some (fileOf pool9 1 #[.nestMembers #[189]] #[{ accessFlags := 9, nameIndex := 187, descriptorIndex := 188, attributes := #[] }, { accessFlags := 1, nameIndex := 67, descriptorIndex := 201, attributes := #[] }] 49 203 #[304, 306, 308] #[{ accessFlags := 25, nameIndex := 310, descriptorIndex := 194, attributes := #[] }, { accessFlags := 25, nameIndex := 312, descriptorIndex := 194, attributes := #[] }, { accessFlags := 25, nameIndex := 302, descriptorIndex := 303, attributes := #[] }, { accessFlags := 24, nameIndex := 19, descriptorIndex := 20, attributes := #[] }, { accessFlags := 24, nameIndex := 89, descriptorIndex := 86, attributes := #[] }, { accessFlags := 24, nameIndex := 85, descriptorIndex := 86, attributes := #[] }, { accessFlags := 18, nameIndex := 207, descriptorIndex := 194, attributes := #[] }, { accessFlags := 25, nameIndex := 316, descriptorIndex := 194, attributes := #[] }, { accessFlags := 25, nameIndex := 318, descriptorIndex := 194, attributes := #[] }, { accessFlags := 26, nameIndex := 320, descriptorIndex := 321, attributes := #[] }])
  fields := #[{ name := "MIN_VALUE", type := .int, accessFlags := 25, slot := 0, constantValue := 0 }, { name := "MAX_VALUE", type := .int, accessFlags := 25, slot := 1, constantValue := 0 }, { name := "TYPE", type := (.object "java/lang/Class"), accessFlags := 25, slot := 2, constantValue := 0 }, { name := "digits", type := (.array .char), accessFlags := 24, slot := 3, constantValue := 0 }, { name := "DigitTens", type := (.array .byte), accessFlags := 24, slot := 4, constantValue := 0 }, { name := "DigitOnes", type := (.array .byte), accessFlags := 24, slot := 5, constantValue := 0 }, { name := "value", type := .int, accessFlags := 18, slot := 0, constantValue := 0 }, { name := "SIZE", type := .int, accessFlags := 25, slot := 6, constantValue := 0 }, { name := "BYTES", type := .int, accessFlags := 25, slot := 7, constantValue := 0 }, { name := "serialVersionUID", type := .long, accessFlags := 26, slot := 8, constantValue := 0 }]
  methods := #[k9m0, k9m1]
  instanceTypes := #[.int]
  staticTypes := #[.int, .int, (.object "java/lang/Class"), (.array .char), (.array .byte), (.array .byte), .int, .int, .long]
  resolved := Array.replicate 453 none
  statics := none }

def pool10 : Array CpInfo := pool [(2, .class_ 4), (1, u "java/lang/Object"), (0, u "<init>"), (0, u "()V"), (0, .class_ 8), (0, u "java/lang/Integer"), (7, .class_ 18), (1, u "java/lang/Integer$IntegerCache"), (0, u "$assertionsDisabled"), (0, u "Z"), (26, u "high"), (0, u "I"), (8, u "archivedCache"), (0, u "[Ljava/lang/Integer;"), (12, u "cache"), (0, u "low")] 27

def k10m0 : Method := { name := "<init>", desc := "()V", sig := { parameters := [], returnType := none }, accessFlags := 2, code := none }
/-- java/lang/Integer$IntegerCache -/
def k10 : Class := { plain "java/lang/Integer$IntegerCache" (some 0) with
  accessFlags := 48
  interfaces := #[]
  cf := some (fileOf pool10 16 #[.nestHost 7] #[{ accessFlags := 2, nameIndex := 5, descriptorIndex := 6, attributes := #[] }] 48 2 #[] #[{ accessFlags := 24, nameIndex := 72, descriptorIndex := 48, attributes := #[] }, { accessFlags := 24, nameIndex := 47, descriptorIndex := 48, attributes := #[] }, { accessFlags := 24, nameIndex := 71, descriptorIndex := 58, attributes := #[] }, { accessFlags := 8, nameIndex := 57, descriptorIndex := 58, attributes := #[] }, { accessFlags := 4120, nameIndex := 19, descriptorIndex := 20, attributes := #[] }])
  fields := #[{ name := "low", type := .int, accessFlags := 24, slot := 0, constantValue := 0 }, { name := "high", type := .int, accessFlags := 24, slot := 1, constantValue := 0 }, { name := "cache", type := (.array (.object "java/lang/Integer")), accessFlags := 24, slot := 2, constantValue := 0 }, { name := "archivedCache", type := (.array (.object "java/lang/Integer")), accessFlags := 8, slot := 3, constantValue := 0 }, { name := "$assertionsDisabled", type := .boolean, accessFlags := 4120, slot := 4, constantValue := 0 }]
  methods := #[k10m0]
  instanceTypes := #[]
  staticTypes := #[.int, .int, (.array (.object "java/lang/Integer")), (.array (.object "java/lang/Integer")), .boolean]
  resolved := Array.replicate 100 none
  statics := some 0 }

def pool11 : Array CpInfo := pool [(1, u "java/lang/Cloneable"), (0, .class_ 1), (0, u "java/lang/Object"), (0, .class_ 3)] 3

/-- java/lang/Cloneable -/
def k11 : Class := { plain "java/lang/Cloneable" (some 0) with
  accessFlags := 1537
  interfaces := #[]
  cf := some (fileOf pool11 2 #[] #[] 1537 4 #[] #[])
  fields := #[]
  methods := #[]
  instanceTypes := #[]
  staticTypes := #[]
  resolved := Array.replicate 8 none
  statics := none }

/-- the primitive byte -/
def k12 : Class := { plain "byte" none with kind := .primitive 'B', accessFlags := 0x411 }
/-- [B -/
def k13 : Class := { plain "[B" (some 0) with kind := .array 12 .byte, interfaces := #[11, 4], accessFlags := 1041 }

/-- the primitive int -/
def k14 : Class := { plain "int" none with kind := .primitive 'I', accessFlags := 0x411 }
/-- [I -/
def k15 : Class := { plain "[I" (some 0) with kind := .array 14 .int, interfaces := #[11, 4], accessFlags := 1041 }

/-- [Ljava/lang/Integer; -/
def k16 : Class := { plain "[Ljava/lang/Integer;" (some 0) with kind := .array 9 (.object "java/lang/Integer"), interfaces := #[11, 4], accessFlags := 1041 }

def heap : Heap := #[{ cls := 10, slots := #[.int 0, .int 127, .ref 1, .null, .int 0], vm := .statics 10 },
  { cls := 16, slots := #[.ref 2, .ref 3, .ref 4, .ref 5, .ref 6, .ref 7, .ref 8, .ref 9, .ref 10, .ref 11, .ref 12, .ref 13, .ref 14, .ref 15, .ref 16, .ref 17, .ref 18, .ref 19, .ref 20, .ref 21, .ref 22, .ref 23, .ref 24, .ref 25, .ref 26, .ref 27, .ref 28, .ref 29, .ref 30, .ref 31, .ref 32, .ref 33, .ref 34, .ref 35, .ref 36, .ref 37, .ref 38, .ref 39, .ref 40, .ref 41, .ref 42, .ref 43, .ref 44, .ref 45, .ref 46, .ref 47, .ref 48, .ref 49, .ref 50, .ref 51, .ref 52, .ref 53, .ref 54, .ref 55, .ref 56, .ref 57, .ref 58, .ref 59, .ref 60, .ref 61, .ref 62, .ref 63, .ref 64, .ref 65, .ref 66, .ref 67, .ref 68, .ref 69, .ref 70, .ref 71, .ref 72, .ref 73, .ref 74, .ref 75, .ref 76, .ref 77, .ref 78, .ref 79, .ref 80, .ref 81, .ref 82, .ref 83, .ref 84, .ref 85, .ref 86, .ref 87, .ref 88, .ref 89, .ref 90, .ref 91, .ref 92, .ref 93, .ref 94, .ref 95, .ref 96, .ref 97, .ref 98, .ref 99, .ref 100, .ref 101, .ref 102, .ref 103, .ref 104, .ref 105, .ref 106, .ref 107, .ref 108, .ref 109, .ref 110, .ref 111, .ref 112, .ref 113, .ref 114, .ref 115, .ref 116, .ref 117, .ref 118, .ref 119, .ref 120, .ref 121, .ref 122, .ref 123, .ref 124, .ref 125, .ref 126, .ref 127, .ref 128, .ref 129, .ref 130, .ref 131, .ref 132, .ref 133, .ref 134, .ref 135, .ref 136, .ref 137, .ref 138, .ref 139, .ref 140, .ref 141, .ref 142, .ref 143, .ref 144, .ref 145, .ref 146, .ref 147, .ref 148, .ref 149, .ref 150, .ref 151, .ref 152, .ref 153, .ref 154, .ref 155, .ref 156, .ref 157, .ref 158, .ref 159, .ref 160, .ref 161, .ref 162, .ref 163, .ref 164, .ref 165, .ref 166, .ref 167, .ref 168, .ref 169, .ref 170, .ref 171, .ref 172, .ref 173, .ref 174, .ref 175, .ref 176, .ref 177, .ref 178, .ref 179, .ref 180, .ref 181, .ref 182, .ref 183, .ref 184, .ref 185, .ref 186, .ref 187, .ref 188, .ref 189, .ref 190, .ref 191, .ref 192, .ref 193, .ref 194, .ref 195, .ref 196, .ref 197, .ref 198, .ref 199, .ref 200, .ref 201, .ref 202, .ref 203, .ref 204, .ref 205, .ref 206, .ref 207, .ref 208, .ref 209, .ref 210, .ref 211, .ref 212, .ref 213, .ref 214, .ref 215, .ref 216, .ref 217, .ref 218, .ref 219, .ref 220, .ref 221, .ref 222, .ref 223, .ref 224, .ref 225, .ref 226, .ref 227, .ref 228, .ref 229, .ref 230, .ref 231, .ref 232, .ref 233, .ref 234, .ref 235, .ref 236, .ref 237, .ref 238, .ref 239, .ref 240, .ref 241, .ref 242, .ref 243, .ref 244, .ref 245, .ref 246, .ref 247, .ref 248, .ref 249, .ref 250, .ref 251, .ref 252, .ref 253, .ref 254, .ref 255, .ref 256, .ref 257], vm := .none },
  { cls := 9, slots := #[.int (-128)], vm := .none },
  { cls := 9, slots := #[.int (-127)], vm := .none },
  { cls := 9, slots := #[.int (-126)], vm := .none },
  { cls := 9, slots := #[.int (-125)], vm := .none },
  { cls := 9, slots := #[.int (-124)], vm := .none },
  { cls := 9, slots := #[.int (-123)], vm := .none },
  { cls := 9, slots := #[.int (-122)], vm := .none },
  { cls := 9, slots := #[.int (-121)], vm := .none },
  { cls := 9, slots := #[.int (-120)], vm := .none },
  { cls := 9, slots := #[.int (-119)], vm := .none },
  { cls := 9, slots := #[.int (-118)], vm := .none },
  { cls := 9, slots := #[.int (-117)], vm := .none },
  { cls := 9, slots := #[.int (-116)], vm := .none },
  { cls := 9, slots := #[.int (-115)], vm := .none },
  { cls := 9, slots := #[.int (-114)], vm := .none },
  { cls := 9, slots := #[.int (-113)], vm := .none },
  { cls := 9, slots := #[.int (-112)], vm := .none },
  { cls := 9, slots := #[.int (-111)], vm := .none },
  { cls := 9, slots := #[.int (-110)], vm := .none },
  { cls := 9, slots := #[.int (-109)], vm := .none },
  { cls := 9, slots := #[.int (-108)], vm := .none },
  { cls := 9, slots := #[.int (-107)], vm := .none },
  { cls := 9, slots := #[.int (-106)], vm := .none },
  { cls := 9, slots := #[.int (-105)], vm := .none },
  { cls := 9, slots := #[.int (-104)], vm := .none },
  { cls := 9, slots := #[.int (-103)], vm := .none },
  { cls := 9, slots := #[.int (-102)], vm := .none },
  { cls := 9, slots := #[.int (-101)], vm := .none },
  { cls := 9, slots := #[.int (-100)], vm := .none },
  { cls := 9, slots := #[.int (-99)], vm := .none },
  { cls := 9, slots := #[.int (-98)], vm := .none },
  { cls := 9, slots := #[.int (-97)], vm := .none },
  { cls := 9, slots := #[.int (-96)], vm := .none },
  { cls := 9, slots := #[.int (-95)], vm := .none },
  { cls := 9, slots := #[.int (-94)], vm := .none },
  { cls := 9, slots := #[.int (-93)], vm := .none },
  { cls := 9, slots := #[.int (-92)], vm := .none },
  { cls := 9, slots := #[.int (-91)], vm := .none },
  { cls := 9, slots := #[.int (-90)], vm := .none },
  { cls := 9, slots := #[.int (-89)], vm := .none },
  { cls := 9, slots := #[.int (-88)], vm := .none },
  { cls := 9, slots := #[.int (-87)], vm := .none },
  { cls := 9, slots := #[.int (-86)], vm := .none },
  { cls := 9, slots := #[.int (-85)], vm := .none },
  { cls := 9, slots := #[.int (-84)], vm := .none },
  { cls := 9, slots := #[.int (-83)], vm := .none },
  { cls := 9, slots := #[.int (-82)], vm := .none },
  { cls := 9, slots := #[.int (-81)], vm := .none },
  { cls := 9, slots := #[.int (-80)], vm := .none },
  { cls := 9, slots := #[.int (-79)], vm := .none },
  { cls := 9, slots := #[.int (-78)], vm := .none },
  { cls := 9, slots := #[.int (-77)], vm := .none },
  { cls := 9, slots := #[.int (-76)], vm := .none },
  { cls := 9, slots := #[.int (-75)], vm := .none },
  { cls := 9, slots := #[.int (-74)], vm := .none },
  { cls := 9, slots := #[.int (-73)], vm := .none },
  { cls := 9, slots := #[.int (-72)], vm := .none },
  { cls := 9, slots := #[.int (-71)], vm := .none },
  { cls := 9, slots := #[.int (-70)], vm := .none },
  { cls := 9, slots := #[.int (-69)], vm := .none },
  { cls := 9, slots := #[.int (-68)], vm := .none },
  { cls := 9, slots := #[.int (-67)], vm := .none },
  { cls := 9, slots := #[.int (-66)], vm := .none },
  { cls := 9, slots := #[.int (-65)], vm := .none },
  { cls := 9, slots := #[.int (-64)], vm := .none },
  { cls := 9, slots := #[.int (-63)], vm := .none },
  { cls := 9, slots := #[.int (-62)], vm := .none },
  { cls := 9, slots := #[.int (-61)], vm := .none },
  { cls := 9, slots := #[.int (-60)], vm := .none },
  { cls := 9, slots := #[.int (-59)], vm := .none },
  { cls := 9, slots := #[.int (-58)], vm := .none },
  { cls := 9, slots := #[.int (-57)], vm := .none },
  { cls := 9, slots := #[.int (-56)], vm := .none },
  { cls := 9, slots := #[.int (-55)], vm := .none },
  { cls := 9, slots := #[.int (-54)], vm := .none },
  { cls := 9, slots := #[.int (-53)], vm := .none },
  { cls := 9, slots := #[.int (-52)], vm := .none },
  { cls := 9, slots := #[.int (-51)], vm := .none },
  { cls := 9, slots := #[.int (-50)], vm := .none },
  { cls := 9, slots := #[.int (-49)], vm := .none },
  { cls := 9, slots := #[.int (-48)], vm := .none },
  { cls := 9, slots := #[.int (-47)], vm := .none },
  { cls := 9, slots := #[.int (-46)], vm := .none },
  { cls := 9, slots := #[.int (-45)], vm := .none },
  { cls := 9, slots := #[.int (-44)], vm := .none },
  { cls := 9, slots := #[.int (-43)], vm := .none },
  { cls := 9, slots := #[.int (-42)], vm := .none },
  { cls := 9, slots := #[.int (-41)], vm := .none },
  { cls := 9, slots := #[.int (-40)], vm := .none },
  { cls := 9, slots := #[.int (-39)], vm := .none },
  { cls := 9, slots := #[.int (-38)], vm := .none },
  { cls := 9, slots := #[.int (-37)], vm := .none },
  { cls := 9, slots := #[.int (-36)], vm := .none },
  { cls := 9, slots := #[.int (-35)], vm := .none },
  { cls := 9, slots := #[.int (-34)], vm := .none },
  { cls := 9, slots := #[.int (-33)], vm := .none },
  { cls := 9, slots := #[.int (-32)], vm := .none },
  { cls := 9, slots := #[.int (-31)], vm := .none },
  { cls := 9, slots := #[.int (-30)], vm := .none },
  { cls := 9, slots := #[.int (-29)], vm := .none },
  { cls := 9, slots := #[.int (-28)], vm := .none },
  { cls := 9, slots := #[.int (-27)], vm := .none },
  { cls := 9, slots := #[.int (-26)], vm := .none },
  { cls := 9, slots := #[.int (-25)], vm := .none },
  { cls := 9, slots := #[.int (-24)], vm := .none },
  { cls := 9, slots := #[.int (-23)], vm := .none },
  { cls := 9, slots := #[.int (-22)], vm := .none },
  { cls := 9, slots := #[.int (-21)], vm := .none },
  { cls := 9, slots := #[.int (-20)], vm := .none },
  { cls := 9, slots := #[.int (-19)], vm := .none },
  { cls := 9, slots := #[.int (-18)], vm := .none },
  { cls := 9, slots := #[.int (-17)], vm := .none },
  { cls := 9, slots := #[.int (-16)], vm := .none },
  { cls := 9, slots := #[.int (-15)], vm := .none },
  { cls := 9, slots := #[.int (-14)], vm := .none },
  { cls := 9, slots := #[.int (-13)], vm := .none },
  { cls := 9, slots := #[.int (-12)], vm := .none },
  { cls := 9, slots := #[.int (-11)], vm := .none },
  { cls := 9, slots := #[.int (-10)], vm := .none },
  { cls := 9, slots := #[.int (-9)], vm := .none },
  { cls := 9, slots := #[.int (-8)], vm := .none },
  { cls := 9, slots := #[.int (-7)], vm := .none },
  { cls := 9, slots := #[.int (-6)], vm := .none },
  { cls := 9, slots := #[.int (-5)], vm := .none },
  { cls := 9, slots := #[.int (-4)], vm := .none },
  { cls := 9, slots := #[.int (-3)], vm := .none },
  { cls := 9, slots := #[.int (-2)], vm := .none },
  { cls := 9, slots := #[.int (-1)], vm := .none },
  { cls := 9, slots := #[.int (0)], vm := .none },
  { cls := 9, slots := #[.int (1)], vm := .none },
  { cls := 9, slots := #[.int (2)], vm := .none },
  { cls := 9, slots := #[.int (3)], vm := .none },
  { cls := 9, slots := #[.int (4)], vm := .none },
  { cls := 9, slots := #[.int (5)], vm := .none },
  { cls := 9, slots := #[.int (6)], vm := .none },
  { cls := 9, slots := #[.int (7)], vm := .none },
  { cls := 9, slots := #[.int (8)], vm := .none },
  { cls := 9, slots := #[.int (9)], vm := .none },
  { cls := 9, slots := #[.int (10)], vm := .none },
  { cls := 9, slots := #[.int (11)], vm := .none },
  { cls := 9, slots := #[.int (12)], vm := .none },
  { cls := 9, slots := #[.int (13)], vm := .none },
  { cls := 9, slots := #[.int (14)], vm := .none },
  { cls := 9, slots := #[.int (15)], vm := .none },
  { cls := 9, slots := #[.int (16)], vm := .none },
  { cls := 9, slots := #[.int (17)], vm := .none },
  { cls := 9, slots := #[.int (18)], vm := .none },
  { cls := 9, slots := #[.int (19)], vm := .none },
  { cls := 9, slots := #[.int (20)], vm := .none },
  { cls := 9, slots := #[.int (21)], vm := .none },
  { cls := 9, slots := #[.int (22)], vm := .none },
  { cls := 9, slots := #[.int (23)], vm := .none },
  { cls := 9, slots := #[.int (24)], vm := .none },
  { cls := 9, slots := #[.int (25)], vm := .none },
  { cls := 9, slots := #[.int (26)], vm := .none },
  { cls := 9, slots := #[.int (27)], vm := .none },
  { cls := 9, slots := #[.int (28)], vm := .none },
  { cls := 9, slots := #[.int (29)], vm := .none },
  { cls := 9, slots := #[.int (30)], vm := .none },
  { cls := 9, slots := #[.int (31)], vm := .none },
  { cls := 9, slots := #[.int (32)], vm := .none },
  { cls := 9, slots := #[.int (33)], vm := .none },
  { cls := 9, slots := #[.int (34)], vm := .none },
  { cls := 9, slots := #[.int (35)], vm := .none },
  { cls := 9, slots := #[.int (36)], vm := .none },
  { cls := 9, slots := #[.int (37)], vm := .none },
  { cls := 9, slots := #[.int (38)], vm := .none },
  { cls := 9, slots := #[.int (39)], vm := .none },
  { cls := 9, slots := #[.int (40)], vm := .none },
  { cls := 9, slots := #[.int (41)], vm := .none },
  { cls := 9, slots := #[.int (42)], vm := .none },
  { cls := 9, slots := #[.int (43)], vm := .none },
  { cls := 9, slots := #[.int (44)], vm := .none },
  { cls := 9, slots := #[.int (45)], vm := .none },
  { cls := 9, slots := #[.int (46)], vm := .none },
  { cls := 9, slots := #[.int (47)], vm := .none },
  { cls := 9, slots := #[.int (48)], vm := .none },
  { cls := 9, slots := #[.int (49)], vm := .none },
  { cls := 9, slots := #[.int (50)], vm := .none },
  { cls := 9, slots := #[.int (51)], vm := .none },
  { cls := 9, slots := #[.int (52)], vm := .none },
  { cls := 9, slots := #[.int (53)], vm := .none },
  { cls := 9, slots := #[.int (54)], vm := .none },
  { cls := 9, slots := #[.int (55)], vm := .none },
  { cls := 9, slots := #[.int (56)], vm := .none },
  { cls := 9, slots := #[.int (57)], vm := .none },
  { cls := 9, slots := #[.int (58)], vm := .none },
  { cls := 9, slots := #[.int (59)], vm := .none },
  { cls := 9, slots := #[.int (60)], vm := .none },
  { cls := 9, slots := #[.int (61)], vm := .none },
  { cls := 9, slots := #[.int (62)], vm := .none },
  { cls := 9, slots := #[.int (63)], vm := .none },
  { cls := 9, slots := #[.int (64)], vm := .none },
  { cls := 9, slots := #[.int (65)], vm := .none },
  { cls := 9, slots := #[.int (66)], vm := .none },
  { cls := 9, slots := #[.int (67)], vm := .none },
  { cls := 9, slots := #[.int (68)], vm := .none },
  { cls := 9, slots := #[.int (69)], vm := .none },
  { cls := 9, slots := #[.int (70)], vm := .none },
  { cls := 9, slots := #[.int (71)], vm := .none },
  { cls := 9, slots := #[.int (72)], vm := .none },
  { cls := 9, slots := #[.int (73)], vm := .none },
  { cls := 9, slots := #[.int (74)], vm := .none },
  { cls := 9, slots := #[.int (75)], vm := .none },
  { cls := 9, slots := #[.int (76)], vm := .none },
  { cls := 9, slots := #[.int (77)], vm := .none },
  { cls := 9, slots := #[.int (78)], vm := .none },
  { cls := 9, slots := #[.int (79)], vm := .none },
  { cls := 9, slots := #[.int (80)], vm := .none },
  { cls := 9, slots := #[.int (81)], vm := .none },
  { cls := 9, slots := #[.int (82)], vm := .none },
  { cls := 9, slots := #[.int (83)], vm := .none },
  { cls := 9, slots := #[.int (84)], vm := .none },
  { cls := 9, slots := #[.int (85)], vm := .none },
  { cls := 9, slots := #[.int (86)], vm := .none },
  { cls := 9, slots := #[.int (87)], vm := .none },
  { cls := 9, slots := #[.int (88)], vm := .none },
  { cls := 9, slots := #[.int (89)], vm := .none },
  { cls := 9, slots := #[.int (90)], vm := .none },
  { cls := 9, slots := #[.int (91)], vm := .none },
  { cls := 9, slots := #[.int (92)], vm := .none },
  { cls := 9, slots := #[.int (93)], vm := .none },
  { cls := 9, slots := #[.int (94)], vm := .none },
  { cls := 9, slots := #[.int (95)], vm := .none },
  { cls := 9, slots := #[.int (96)], vm := .none },
  { cls := 9, slots := #[.int (97)], vm := .none },
  { cls := 9, slots := #[.int (98)], vm := .none },
  { cls := 9, slots := #[.int (99)], vm := .none },
  { cls := 9, slots := #[.int (100)], vm := .none },
  { cls := 9, slots := #[.int (101)], vm := .none },
  { cls := 9, slots := #[.int (102)], vm := .none },
  { cls := 9, slots := #[.int (103)], vm := .none },
  { cls := 9, slots := #[.int (104)], vm := .none },
  { cls := 9, slots := #[.int (105)], vm := .none },
  { cls := 9, slots := #[.int (106)], vm := .none },
  { cls := 9, slots := #[.int (107)], vm := .none },
  { cls := 9, slots := #[.int (108)], vm := .none },
  { cls := 9, slots := #[.int (109)], vm := .none },
  { cls := 9, slots := #[.int (110)], vm := .none },
  { cls := 9, slots := #[.int (111)], vm := .none },
  { cls := 9, slots := #[.int (112)], vm := .none },
  { cls := 9, slots := #[.int (113)], vm := .none },
  { cls := 9, slots := #[.int (114)], vm := .none },
  { cls := 9, slots := #[.int (115)], vm := .none },
  { cls := 9, slots := #[.int (116)], vm := .none },
  { cls := 9, slots := #[.int (117)], vm := .none },
  { cls := 9, slots := #[.int (118)], vm := .none },
  { cls := 9, slots := #[.int (119)], vm := .none },
  { cls := 9, slots := #[.int (120)], vm := .none },
  { cls := 9, slots := #[.int (121)], vm := .none },
  { cls := 9, slots := #[.int (122)], vm := .none },
  { cls := 9, slots := #[.int (123)], vm := .none },
  { cls := 9, slots := #[.int (124)], vm := .none },
  { cls := 9, slots := #[.int (125)], vm := .none },
  { cls := 9, slots := #[.int (126)], vm := .none },
  { cls := 9, slots := #[.int (127)], vm := .none }]
def classes : Array Class := #[k0, k1, k2, k3, k4, k5, k6, k7, k8, k9, k10, k11, k12, k13, k14, k15, k16]
def interned : List (Array UInt16 × Addr) := []
def slotsUsed : Nat := 517
def theMethod : MethodId := ⟨1, 1⟩
def args0 : Array Value := #[.int 5, .int 7, .int 3, .int 9, .int 2, .int 1]
def aboutOver (below : List Frame) : State where
  vm := { classes := classes, interned := interned.toArray }
  heap := heap
  slotsUsed := slotsUsed
  threads := #[{ frames := .invoking theMethod args0 :: below }]
def below0 : List Frame := [.native { method := ⟨0, 0⟩, args := #[] }]
def about1 : State := aboutOver below0
def p0 : Program := .bare "" "" ""
def e0 : Env := launch0.env 0 0 0
theorem w_frames : about1.frames = Frame.invoking theMethod args0 :: below0 := rfl
set_option maxRecDepth 65536 in
theorem w_args : argsFit about1.vm theMethod args0 = true := by decide +kernel
set_option maxRecDepth 65536 in
theorem w_heap : heapFits about1 = true := by decide +kernel
set_option maxRecDepth 65536 in
theorem w_runnable : about1.curStatus? = some .runnable := by decide +kernel
set_option maxRecDepth 65536 in
theorem w_alone : about1.alone = true := by decide +kernel
set_option maxRecDepth 65536 in
theorem w_named : about1.methodNamed? x = some theMethod := by decide +kernel
set_option maxRecDepth 65536 in
theorem w_hears : about1.hears theMethod below0 = true := by decide +kernel
set_option maxRecDepth 65536 in
theorem w_ripe : about1.ripe theMethod args0 below0 = true := by decide +kernel
theorem w_running : about1.status = .running := rfl
set_option maxRecDepth 65536 in
theorem w_room : about1.hasRoom e0.platform room_1 = true :=
  launch0.hasRoom_least _ room_1 (by decide +kernel) (by decide +kernel) (by decide +kernel) (by decide +kernel) (by decide +kernel) (by decide +kernel)
theorem allAtoms_all (ts : List Jvm.Cond) (a : Array Jvm.Value) (st : Jvm.State) : (allAtoms ts).before a st = ts.all (fun c => c.before a st) := by
  induction ts with
  | nil => rfl
  | cons c t ih =>
    show (Jvm.Cond.and c (allAtoms t)).before a st = _
    rw [Jvm.Cond.before_and, ih, List.all_cons]
def words1 : List Jvm.Cond := Jvm.Cond.code x code maxLocals ret :: tables_1
/-- a 'code' word, met by the world's own term for the bytes: nothing is compared byte by byte -/
theorem code_word {y : MethodName} {bytes : ByteArray} {mx : Nat} {rt : Option FieldType} {a : Array Value} {s : State} {m : MethodId} {meth : Method} {c : Code} (h1 : s.methodNamed? y = some m) (h2 : s.vm.method? m = some meth) (h3 : meth.code = some c) (h4 : c.code = bytes)
    (h5 : (c.maxLocals == mx && c.exceptionTable.isEmpty && decide (c.maxStack ≤ mostOperands) && decide (meth.sig.returnType = rt) && !meth.locks && decide (parseMethodDescriptor y.desc = some meth.sig)) = true) : (Jvm.Cond.code y bytes mx rt).before a s = true := by
  simp only [Bool.and_eq_true, beq_iff_eq, Bool.not_eq_true', decide_eq_true_eq] at h5
  obtain ⟨⟨⟨⟨⟨g1, g2⟩, g3⟩, g4⟩, g5⟩, g6⟩ := h5
  simp [Cond.before, Cond.holds, Cond.value, h1, h2, h3, h4, g1, g2, g3, g4, g5, g6]
def isCode : Jvm.Cond → Bool
  | .code _ _ _ _ => true
  | _ => false
theorem all_split {L : List Jvm.Cond} {P : Jvm.Cond → Bool} (h1 : L.all (fun c => isCode c || P c) = true) (h2 : ∀ c ∈ L.filter isCode, P c = true) : L.all P = true := by
  refine List.all_eq_true.mpr fun c hc => ?_
  have h := List.all_eq_true.mp h1 c hc
  rcases Bool.eq_false_or_eq_true (isCode c) with hi | hi
  · exact h2 c (List.mem_filter.mpr ⟨hc, hi⟩)
  · simpa [hi] using h
set_option maxRecDepth 65536 in
theorem w_c0 : (Jvm.Cond.code x code maxLocals ret).before args0 about1 = true := code_word (m := ⟨1, 1⟩) (meth := k1m1) (c := k1c1) (by decide +kernel) rfl rfl rfl (by decide +kernel)
set_option maxRecDepth 65536 in
theorem w_c1 : (Jvm.Cond.code ({ cls := "java/lang/Math", name := "min", desc := "(II)I" } : Jvm.MethodName) jdk_29_method_69_code (2 : Nat) (Option.some Jvm.ClassFile.FieldType.int)).before args0 about1 = true := code_word (m := ⟨3, 2⟩) (meth := k3m2) (c := k3c2) (by decide +kernel) rfl rfl rfl (by decide +kernel)
set_option maxRecDepth 65536 in
theorem w_c2 : (Jvm.Cond.code ({ cls := "java/lang/Math", name := "max", desc := "(II)I" } : Jvm.MethodName) jdk_29_method_65_code (2 : Nat) (Option.some Jvm.ClassFile.FieldType.int)).before args0 about1 = true := code_word (m := ⟨3, 1⟩) (meth := k3m1) (c := k3c1) (by decide +kernel) rfl rfl rfl (by decide +kernel)
set_option maxRecDepth 65536 in
theorem w_c3 : (Jvm.Cond.code ({ cls := "com/example/rondo/rondo/Rect", name := "<init>", desc := "(IIII)V" } : Jvm.MethodName) prog_40_method_1_code (5 : Nat) (Option.none : Option Jvm.ClassFile.FieldType)).before args0 about1 = true := code_word (m := ⟨2, 0⟩) (meth := k2m0) (c := k2c0) (by decide +kernel) rfl rfl rfl (by decide +kernel)
set_option maxRecDepth 65536 in
theorem w_c4 : (Jvm.Cond.code ({ cls := "java/lang/Object", name := "<init>", desc := "()V" } : Jvm.MethodName) object_method_1_code (1 : Nat) (Option.none : Option Jvm.ClassFile.FieldType)).before args0 about1 = true := code_word (m := ⟨0, 0⟩) (meth := k0m0) (c := k0c0) (by decide +kernel) rfl rfl rfl (by decide +kernel)
set_option maxRecDepth 65536 in
theorem w_c5 : (Jvm.Cond.code ({ cls := "java/lang/Integer", name := "valueOf", desc := "(I)Ljava/lang/Integer;" } : Jvm.MethodName) jdk_33_method_22_code (1 : Nat) (Option.some (Jvm.ClassFile.FieldType.object "java/lang/Integer"))).before args0 about1 = true := code_word (m := ⟨9, 0⟩) (meth := k9m0) (c := k9c0) (by decide +kernel) rfl rfl rfl (by decide +kernel)
set_option maxRecDepth 65536 in
theorem w_c6 : (Jvm.Cond.code ({ cls := "com/example/rondo/rondo/Rect", name := "contains", desc := "(Lcom/example/rondo/rondo/Rect;)Z" } : Jvm.MethodName) prog_40_method_3_code (2 : Nat) (Option.some Jvm.ClassFile.FieldType.boolean)).before args0 about1 = true := code_word (m := ⟨2, 1⟩) (meth := k2m1) (c := k2c1) (by decide +kernel) rfl rfl rfl (by decide +kernel)
set_option maxRecDepth 65536 in
theorem w_c7 : (Jvm.Cond.code ({ cls := "com/example/rondo/rondo/Rect", name := "equals", desc := "(Ljava/lang/Object;)Z" } : Jvm.MethodName) prog_40_method_4_code (3 : Nat) (Option.some Jvm.ClassFile.FieldType.boolean)).before args0 about1 = true := code_word (m := ⟨2, 2⟩) (meth := k2m2) (c := k2c2) (by decide +kernel) rfl rfl rfl (by decide +kernel)
set_option maxRecDepth 65536 in
theorem w_c8 : (Jvm.Cond.code ({ cls := "com/example/rondo/rondo/Rect", name := "hashCode", desc := "()I" } : Jvm.MethodName) prog_40_method_5_code (1 : Nat) (Option.some Jvm.ClassFile.FieldType.int)).before args0 about1 = true := code_word (m := ⟨2, 3⟩) (meth := k2m3) (c := k2c3) (by decide +kernel) rfl rfl rfl (by decide +kernel)
set_option maxRecDepth 65536 in
theorem w_c9 : (Jvm.Cond.code ({ cls := "java/lang/Integer", name := "<init>", desc := "(I)V" } : Jvm.MethodName) jdk_33_method_23_code (2 : Nat) (Option.none : Option Jvm.ClassFile.FieldType)).before args0 about1 = true := code_word (m := ⟨9, 1⟩) (meth := k9m1) (c := k9c1) (by decide +kernel) rfl rfl rfl (by decide +kernel)
set_option maxRecDepth 65536 in
theorem w_c10 : (Jvm.Cond.code ({ cls := "java/lang/Number", name := "<init>", desc := "()V" } : Jvm.MethodName) jdk_18_method_1_code (1 : Nat) (Option.none : Option Jvm.ClassFile.FieldType)).before args0 about1 = true := code_word (m := ⟨5, 0⟩) (meth := k5m0) (c := k5c0) (by decide +kernel) rfl rfl rfl (by decide +kernel)
def codes1 : List Jvm.Cond := [Jvm.Cond.code x code maxLocals ret, Jvm.Cond.code ({ cls := "java/lang/Math", name := "min", desc := "(II)I" } : Jvm.MethodName) jdk_29_method_69_code (2 : Nat) (Option.some Jvm.ClassFile.FieldType.int), Jvm.Cond.code ({ cls := "java/lang/Math", name := "max", desc := "(II)I" } : Jvm.MethodName) jdk_29_method_65_code (2 : Nat) (Option.some Jvm.ClassFile.FieldType.int), Jvm.Cond.code ({ cls := "com/example/rondo/rondo/Rect", name := "<init>", desc := "(IIII)V" } : Jvm.MethodName) prog_40_method_1_code (5 : Nat) (Option.none : Option Jvm.ClassFile.FieldType), Jvm.Cond.code ({ cls := "java/lang/Object", name := "<init>", desc := "()V" } : Jvm.MethodName) object_method_1_code (1 : Nat) (Option.none : Option Jvm.ClassFile.FieldType), Jvm.Cond.code ({ cls := "java/lang/Integer", name := "valueOf", desc := "(I)Ljava/lang/Integer;" } : Jvm.MethodName) jdk_33_method_22_code (1 : Nat) (Option.some (Jvm.ClassFile.FieldType.object "java/lang/Integer")), Jvm.Cond.code ({ cls := "com/example/rondo/rondo/Rect", name := "contains", desc := "(Lcom/example/rondo/rondo/Rect;)Z" } : Jvm.MethodName) prog_40_method_3_code (2 : Nat) (Option.some Jvm.ClassFile.FieldType.boolean), Jvm.Cond.code ({ cls := "com/example/rondo/rondo/Rect", name := "equals", desc := "(Ljava/lang/Object;)Z" } : Jvm.MethodName) prog_40_method_4_code (3 : Nat) (Option.some Jvm.ClassFile.FieldType.boolean), Jvm.Cond.code ({ cls := "com/example/rondo/rondo/Rect", name := "hashCode", desc := "()I" } : Jvm.MethodName) prog_40_method_5_code (1 : Nat) (Option.some Jvm.ClassFile.FieldType.int), Jvm.Cond.code ({ cls := "java/lang/Integer", name := "<init>", desc := "(I)V" } : Jvm.MethodName) jdk_33_method_23_code (2 : Nat) (Option.none : Option Jvm.ClassFile.FieldType), Jvm.Cond.code ({ cls := "java/lang/Number", name := "<init>", desc := "()V" } : Jvm.MethodName) jdk_18_method_1_code (1 : Nat) (Option.none : Option Jvm.ClassFile.FieldType)]
set_option maxRecDepth 65536 in
theorem codes_eq : words1.filter isCode = codes1 := rfl
theorem w_codes : ∀ c ∈ words1.filter isCode, c.before args0 about1 = true := by
  rw [codes_eq]
  intro c hc
  simp only [codes1, List.mem_cons, List.not_mem_nil, or_false] at hc
  rcases hc with rfl | rfl | rfl | rfl | rfl | rfl | rfl | rfl | rfl | rfl | rfl
  · exact w_c0
  · exact w_c1
  · exact w_c2
  · exact w_c3
  · exact w_c4
  · exact w_c5
  · exact w_c6
  · exact w_c7
  · exact w_c8
  · exact w_c9
  · exact w_c10
set_option maxRecDepth 65536 in
theorem w_t1 : (words1.take 24).all (fun c => isCode c || c.before args0 about1) = true := by decide +kernel
set_option maxRecDepth 65536 in
theorem w_t2 : ((words1.drop 24).take 24).all (fun c => isCode c || c.before args0 about1) = true := by decide +kernel
set_option maxRecDepth 65536 in
theorem w_t3 : ((words1.drop 24).drop 24).all (fun c => isCode c || c.before args0 about1) = true := by decide +kernel
theorem w_tables : (allAtoms (Jvm.Cond.code x code maxLocals ret :: tables_1)).before args0 about1 = true := by
  rw [allAtoms_all]
  show words1.all (fun c => c.before args0 about1) = true
  refine all_split ?_ w_codes
  rw [← List.take_append_drop 24 words1, List.all_append, w_t1, ← List.take_append_drop 24 (words1.drop 24), List.all_append, w_t2, w_t3]
  rfl
set_option maxRecDepth 65536 in
theorem w_rest : rest_1_c.before args0 about1 = true := by decide +kernel
set_option maxRecDepth 65536 in
theorem w_case : (Jvm.Cond.and given_1 narrow_1).before args0 about1 = true := by decide +kernel
theorem w_applies : (headSpec (Jvm.Cond.code x code maxLocals ret :: tables_1) room_1).applies x e0.platform about1 = true :=
  (Spec.applies_iff w_frames).mpr ⟨w_running, w_runnable, w_alone, w_named, w_hears, w_ripe, w_room, w_tables⟩
theorem atStart : AtStart classFile x code maxLocals ret World_1 tables_1 room_1 Calls_1 rest_1 Pre_1 launch0 p0 e0 about1 theMethod args0 below0 :=
  ⟨lists_1, trivial, launch0.admits_env _ _ _, launch0.least_env, fairChoices_fair.cas, fairChoices_fair.clock, w_frames, w_args, w_heap, w_applies, trivial, w_rest, w_case⟩
end start1
theorem witness_1 : WitnessClaimed_1 := ⟨start1.p0, start1.e0, start1.about1, start1.theMethod, start1.args0, start1.below0, start1.atStart⟩
end Jvm.Pilot.@@N@@
