/- What overlaps a whole overlaps one of its two parts, in order: for every proper script. -/
import Derived.Test.YtmnjkdbopafkfaaQFnOverlapsPartsx3
import Derived.IntWalk
namespace Go.Proofs.Ytmnjkdbopafkfaa.PureFnOverlapsParts
open Go.RowKit Go.IntWalk Go.Proofs.Ytmnjkdbopafkfaa.QFnOverlapsParts Go.Proofs.YtmnjkdbopafkfaaW.PrintWords Go.Proofs.YtmnjkdbopafkfaaW.PrintLast Go.Proofs.Ytmnjkdbopafkfaa.IntPure
theorem good_step {t : T} (h : T.Good t) (a : Int.Mk) : T.Good (Int.stepT t a) := by
  unfold Int.stepT
  split
  · exact (T.good_ins _ _ h).1
  · split
    · exact (T.good_ins _ _ h).1
    · split
      · exact (T.good_rem _ h).1
      · exact h

theorem rd_mark (l : List S25) (i : Nat) (h : i < l.length) : rd_T25 l i = l[i] := by simp [rd_T25, List.getD_eq_getElem?_getD, h]
def okM (x : S25) : Prop := (x.f0 = 0 ∨ x.f0 = 1 ∨ x.f0 = 4) → x.f1 < x.f2
theorem proper_ev (l : List S25) (hl : l.length ≤ 2147483647) (d : Nat) : ∀ i : Nat, i + d = l.length → ∃ b, Ev (fun k => spec_Proper.l0 k l i) b ∧ (b = true → ∀ j (h : j < l.length), i ≤ j → okM l[j]) := by
  induction d with
  | zero =>
    intro i hi
    refine ⟨true, Ev.step (f := fun _ => some true) (fun k => ?_) (Ev.now _), fun _ j h hj => by omega⟩
    simp only [spec_Proper.l0]
    rw [if_neg (by omega)]
  | succ d ih =>
    intro i hi
    have hlt : i < l.length := by omega
    obtain ⟨b, hb, hok⟩ := ih (i + 1) (by omega)
    have hr := rd_mark l i hlt
    by_cases bad : (l[i].f0 = 0 ∨ l[i].f0 = 1 ∨ l[i].f0 = 4) ∧ l[i].f1 ≥ l[i].f2
    · refine ⟨false, Ev.step (f := fun _ => some false) (fun k => ?_) (Ev.now _), fun h => by cases h⟩
      simp only [spec_Proper.l0]
      rw [if_pos (by omega), if_pos (by omega), hr]
      by_cases c0 : l[i].f0 = 0
      · rw [if_pos c0, if_pos bad.2]
      · by_cases c1 : l[i].f0 = 1
        · rw [if_neg c0, if_pos c1, if_pos bad.2]
        · rw [if_neg c0, if_neg c1, if_pos (by have := bad.1; omega), if_pos bad.2]
    · refine ⟨b, Ev.step (fun k => ?_) hb, fun hb' j h hj => ?_⟩
      · simp only [spec_Proper.l0]
        rw [if_pos (by omega), if_pos (by omega), hr, wrap64_in ((i : Int) + 1) (by omega)]
        by_cases c0 : l[i].f0 = 0
        · rw [if_pos c0, if_neg (fun c => bad ⟨.inl c0, c⟩)]; rfl
        · by_cases c1 : l[i].f0 = 1
          · rw [if_neg c0, if_pos c1, if_neg (fun c => bad ⟨.inr (.inl c1), c⟩)]; rfl
          · by_cases c4 : l[i].f0 = 4
            · rw [if_neg c0, if_neg c1, if_pos c4, if_neg (fun c => bad ⟨.inr (.inr c4), c⟩)]; rfl
            · rw [if_neg c0, if_neg c1, if_neg c4]; rfl
      · rcases Nat.eq_or_lt_of_le hj with e | e
        · subst e
          intro hd
          by_cases c : l[i].f1 < l[i].f2
          · exact c
          · exact absurd ⟨hd, by omega⟩ bad
        · exact hok hb' j h (by omega)
theorem fit_true {l : List Int.Mk} (h : ∀ a ∈ l, (a.1 = 0 ∨ a.1 = 1 ∨ a.1 = 4) → a.2.1 ≤ a.2.2.1) : fitB l = true := by
  refine List.all_eq_true.2 (fun a ha => ?_)
  by_cases c : a.1 = 0 ∨ a.1 = 1 ∨ a.1 = 4
  · have := h a ha c
    simp [this]
  · simp only [Bool.or_eq_true, Bool.not_eq_true', Bool.or_eq_false_iff, beq_eq_false_iff_ne]
    exact .inl ⟨⟨fun e => c (.inl e), fun e => c (.inr (.inl e))⟩, fun e => c (.inr (.inr e))⟩

/-! ### What a proper script leaves -/
structure Sound (t : T) : Prop where
  good : T.Good t
  up : T.Up t.list
  pos : ∀ x ∈ t.list, x.lo < x.hi
theorem sound_nil : Sound .nil := ⟨⟨trivial, trivial, trivial⟩, List.Pairwise.nil, fun x hx => by simp [T.list] at hx⟩
def okA (a : Int.Mk) : Prop := (a.1 = 0 ∨ a.1 = 1 ∨ a.1 = 4) → a.2.1 < a.2.2.1
theorem sound_step {t : T} (h : Sound t) {a : Int.Mk} (ha : okA a) : Sound (Int.stepT t a) := by
  have put : ∀ ov, (a.1 = 0 ∨ a.1 = 1) → Sound (T.ins ⟨a.2.1, a.2.2.1, a.2.2.2⟩ ov t).1 := fun ov hd => by
    have e := (T.list_ins (x := ⟨a.2.1, a.2.2.1, a.2.2.2⟩) (ov := ov) h.up).1
    refine ⟨(T.good_ins _ _ h.good).1, by rw [e]; exact T.up_insL h.up, fun x hx => ?_⟩
    rw [e] at hx
    rcases T.mem_insL hx with rfl | hx
    · exact ha (hd.imp id .inl)
    · exact h.pos x hx
  unfold Int.stepT
  split
  · exact put true (.inl (by assumption))
  · split
    · exact put false (.inr (by assumption))
    · split
      · have e := (T.list_rem (t := t) a.2.1 h.up).1
        refine ⟨(T.good_rem _ h.good).1, by rw [e]; exact T.up_remL h.up, fun x hx => ?_⟩
        rw [e] at hx
        exact h.pos x (T.mem_remL hx)
      · exact h
theorem sound_run : ∀ (l : List Int.Mk) {t : T}, Sound t → (∀ a ∈ l, okA a) → Sound (Int.runT t l)
  | [], _, h, _ => h
  | a :: l, t, h, hl => sound_run l (sound_step h (hl a (by simp))) (fun x hx => hl x (by simp [hx]))
theorem told_append : ∀ (a b : List Int.Mk) (t : T), Int.toldT t (a ++ b) = Int.toldT t a ++ Int.toldT (Int.runT t a) b
  | [], _, _ => rfl
  | x :: a, b, t => by simp [Int.toldT, Int.runT, told_append a b]
theorem run_append : ∀ (a b : List Int.Mk) (t : T), Int.runT t (a ++ b) = Int.runT (Int.runT t a) b
  | [], _, _ => rfl
  | x :: a, b, t => by simp [Int.runT, run_append a b]
theorem okA_of {l : List S25} (h : ∀ j (hj : j < l.length), okM l[j]) : ∀ a ∈ l.map mk_of, okA a := fun a ha => by
  obtain ⟨x, hx, rfl⟩ := List.mem_map.1 ha
  obtain ⟨j, hj, rfl⟩ := List.getElem_of_mem hx
  exact h j hj
theorem fit_ok {l : List Int.Mk} (h : ∀ a ∈ l, okA a) : fitB l = true := fit_true (fun a ha hd => Int.le_of_lt (h a ha hd))
theorem run_size : ∀ (l : List Int.Mk) (t : T), (Int.runT t l).size ≤ t.size + l.length
  | [], t => by simp [Int.runT]
  | a :: l, t => by
    have h1 := run_size l (Int.stepT t a)
    have h2 := Int.size_step t a
    show (Int.runT (Int.stepT t a) l).size ≤ _
    simp only [List.length_cons]
    omega
/-! ### What the last step tells -/
theorem last_some (l x : List S25) (hl : l.length ≤ 2147483647) (hx : x.length ≤ 2147483647) (hp : 0 < x.length) (hok : ∀ a ∈ (l ++ x).map mk_of, okA a) :
    laws_spanLast.f l x = some ((fun p : S32 => (p.f0.f0, p.f0.f1, p.f0.f2, p.f1, p.f2, p.f3, true)) (found_of ((Int.toldT (Int.runT .nil (l.map mk_of)) (x.map mk_of)).getD (x.length - 1) ((0, 0, 0), false, [], 0)))) := by
  have hrun : impl_IntervalRun.f (l ++ x) = some ((Int.toldT .nil ((l ++ x).map mk_of)).map found_of) := by
    unfold impl_IntervalRun.f
    rw [if_pos (by simp; omega), if_pos (fit_ok hok)]
  have hlen : ((Int.toldT .nil ((l ++ x).map mk_of)).map found_of).length = l.length + x.length := by
    rw [List.length_map, Int.toldT_length, List.length_map, List.length_append]
  have hlast : rd_T32 ((Int.toldT .nil ((l ++ x).map mk_of)).map found_of) (((l.length + x.length : Nat) : Int) - 1) = found_of ((Int.toldT (Int.runT .nil (l.map mk_of)) (x.map mk_of)).getD (x.length - 1) ((0, 0, 0), false, [], 0)) := by
    have e1 : (((l.length + x.length : Nat) : Int) - 1).toNat = l.length + (x.length - 1) := by omega
    have hl2 : (Int.toldT .nil (l.map mk_of)).length = l.length := by rw [Int.toldT_length, List.length_map]
    have hx2 : (Int.toldT (Int.runT .nil (l.map mk_of)) (x.map mk_of)).length = x.length := by rw [Int.toldT_length, List.length_map]
    unfold rd_T32
    rw [e1, List.map_append, told_append, List.map_append, List.getD_eq_getElem?_getD, List.getElem?_append_right (by rw [List.length_map]; omega), List.length_map, hl2, Nat.add_sub_cancel_left, List.getElem?_map, List.getD_eq_getElem?_getD]
    rw [List.getElem?_eq_getElem (by omega)]
    rfl
  generalize (Int.toldT .nil ((l ++ x).map mk_of)).map found_of = O at hrun hlen hlast
  unfold laws_spanLast.f
  have w : wrap64 ((O.length : Int) - 1) = ((l.length + x.length : Nat) : Int) - 1 := by rw [hlen, wrap64_in _ (by omega)]
  rw [Option.bind_some, if_pos (by simp; omega), List.nil_append, Option.bind_some, if_pos (by omega), Option.bind_some, hrun, Option.bind_some, if_pos (by rw [hlen]; simp), if_neg (by rw [hlen]; omega), w, if_pos (by omega), if_pos (by rw [hlen]; omega), hlast]
/-! ### The three rows -/
def sp (s : S) : S29 := ⟨s.lo, s.hi, s.v⟩
theorem span_tri (s : S) : span_of (Int.tri s) = sp s := rfl
def eqS (x y : S29) : Bool := x.f0 == y.f0 && (x.f1 == y.f1 && x.f2 == y.f2)
theorem rd_head (P R : List S29) (x : S29) : rd_T29 (P ++ x :: R) P.length = x := by
  unfold rd_T29
  rw [List.getD_eq_getElem?_getD, Int.toNat_natCast, List.getElem?_append_right (Nat.le_refl _)]
  simp
/-- Whether the row's next is this one. -/
def isNext (P R : List S29) (y : S29) : Bool := match R with
  | [] => false
  | x :: _ => eqS x y

section
variable (p0 p1 p2 p5 q0 q1 q2 q5 r0 r1 r2 r5 : Int) (p3 q3 r3 : Bool)
theorem l0_j3 (k : Nat) (A0 B0 C0 A' B' C' : List S29) (y : S29) :
    laws_FnOverlapsParts.l0 (k + 1) A0.length B0.length C0.length p0 p1 p2 p3 (A0 ++ A') p5 q0 q1 q2 q3 (B0 ++ B') q5 r0 r1 r2 r3 (C0 ++ y :: C') r5 =
    laws_FnOverlapsParts.j3 k A0.length B0.length C0.length (isNext A0 A' y) p0 p1 p2 p3 (A0 ++ A') p5 q0 q1 q2 q3 (B0 ++ B') q5 r0 r1 r2 r3 (C0 ++ y :: C') r5 := by
  simp only [laws_FnOverlapsParts.l0]
  rw [if_pos (by simp; omega)]
  cases A' with
  | nil => rw [if_neg (by simp)]; rfl
  | cons x A' => rw [if_pos (by simp; omega), if_pos (by omega), if_pos (by omega), rd_head, rd_head]; rfl
theorem j3_j4 (k : Nat) (u : Bool) (A0 B0 C0 A' B' C' : List S29) (y : S29) :
    laws_FnOverlapsParts.j3 (k + 1) A0.length B0.length C0.length u p0 p1 p2 p3 (A0 ++ A') p5 q0 q1 q2 q3 (B0 ++ B') q5 r0 r1 r2 r3 (C0 ++ y :: C') r5 =
    laws_FnOverlapsParts.j4 k A0.length B0.length C0.length u (isNext B0 B' y) p0 p1 p2 p3 (A0 ++ A') p5 q0 q1 q2 q3 (B0 ++ B') q5 r0 r1 r2 r3 (C0 ++ y :: C') r5 := by
  simp only [laws_FnOverlapsParts.j3]
  cases B' with
  | nil => rw [if_neg (by simp)]; rfl
  | cons x B' => rw [if_pos (by simp; omega), if_pos (by omega), if_pos (by omega), if_pos (by simp; omega), rd_head, rd_head]; rfl

theorem j4_j5 (k : Nat) (i j m : Int) (u v : Bool) (A B C : List S29) :
    laws_FnOverlapsParts.j4 (k + 1) i j m u v p0 p1 p2 p3 A p5 q0 q1 q2 q3 B q5 r0 r1 r2 r3 C r5 = laws_FnOverlapsParts.j5 k i j m u v (if u = true then false else !v) p0 p1 p2 p3 A p5 q0 q1 q2 q3 B q5 r0 r1 r2 r3 C r5 := by
  simp only [laws_FnOverlapsParts.j4]
  cases u <;> rfl
theorem j5_l0 (k : Nat) (i j m : Int) (u v : Bool) (A B C : List S29) :
    laws_FnOverlapsParts.j5 (k + 1) i j m u v false p0 p1 p2 p3 A p5 q0 q1 q2 q3 B q5 r0 r1 r2 r3 C r5 = laws_FnOverlapsParts.l0 k (if u = true then wrap64 (i + 1) else i) (if v = true then wrap64 (j + 1) else j) (wrap64 (m + 1)) p0 p1 p2 p3 A p5 q0 q1 q2 q3 B q5 r0 r1 r2 r3 C r5 := by
  simp only [laws_FnOverlapsParts.j5]
  cases u <;> cases v <;> rfl
/-- Whether x is told of at all. -/
def meets (a b : Int) (x : S) : Bool := decide (x.lo < b) && decide (a < x.hi)
theorem loop_ev (a b c : Int) (hab : a < b) (hbc : b < c) : ∀ (L : List S) (A0 B0 C0 : List S29), T.Up L → (∀ x ∈ L, x.lo < x.hi) → C0.length + L.length ≤ 1099511627776 → A0.length ≤ C0.length → B0.length ≤ C0.length →
    Ev (fun k => laws_FnOverlapsParts.l0 k A0.length B0.length C0.length p0 p1 p2 p3 (A0 ++ (L.filter (meets a b)).map sp) p5 q0 q1 q2 q3 (B0 ++ (L.filter (meets b c)).map sp) q5 r0 r1 r2 r3 (C0 ++ (L.filter (meets a c)).map sp) r5) true
  | [], A0, B0, C0, _, _, _, _, _ => by
    refine Ev.step (f := fun _ => some true) (fun k => ?_) (Ev.now _)
    simp only [laws_FnOverlapsParts.l0]
    rw [if_neg (by simp), if_pos (by simp)]
    simp
  | x :: L, A0, B0, C0, hu, hp, hsz, ha, hb => by
    have hx := hp x (by simp)
    have hul : T.Up L := (List.pairwise_cons.1 hu).2
    have hlow : ∀ y ∈ L, x.lo < y.lo := (List.pairwise_cons.1 hu).1
    have hpl : ∀ y ∈ L, y.lo < y.hi := fun y hy => hp y (by simp [hy])
    have nne : ∀ (p : S → Bool) (P : List S29), isNext P ((L.filter p).map sp) (sp x) = false := fun p P => by
      cases hf : L.filter p with
      | nil => rfl
      | cons y R =>
        have hy : y ∈ L := (List.mem_filter.1 (by rw [hf]; simp : y ∈ L.filter p)).1
        show eqS (sp y) (sp x) = false
        have := hlow y hy
        unfold eqS
        rw [show ((sp y).f0 == (sp x).f0) = false from beq_eq_false_iff_ne.2 (by show y.lo ≠ x.lo; omega)]
        rfl
    have self : ∀ (P R : List S29), isNext P (sp x :: R) (sp x) = true := fun P R => by simp [isNext, eqS]
    simp only [List.length_cons] at hsz
    by_cases hc : meets a c x = true
    · have hc' : x.lo < c ∧ a < x.hi := by simpa [meets] using hc
      have eC : ((x :: L).filter (meets a c)).map sp = sp x :: (L.filter (meets a c)).map sp := by rw [List.filter_cons, if_pos hc]; rfl
      rw [eC]
      have wC : wrap64 ((C0.length : Int) + 1) = ((C0 ++ [sp x]).length : Nat) := by rw [wrap64_in _ (by omega)]; simp
      have wA : wrap64 ((A0.length : Int) + 1) = ((A0 ++ [sp x]).length : Nat) := by rw [wrap64_in _ (by omega)]; simp
      have wB : wrap64 ((B0.length : Int) + 1) = ((B0 ++ [sp x]).length : Nat) := by rw [wrap64_in _ (by omega)]; simp
      have aC : ∀ R, C0 ++ sp x :: R = (C0 ++ [sp x]) ++ R := fun R => by simp
      have aA : ∀ R, A0 ++ sp x :: R = (A0 ++ [sp x]) ++ R := fun R => by simp
      have aB : ∀ R, B0 ++ sp x :: R = (B0 ++ [sp x]) ++ R := fun R => by simp
      refine Ev.step (fun k => l0_j3 p0 p1 p2 p5 q0 q1 q2 q5 r0 r1 r2 r5 p3 q3 r3 k A0 B0 C0 _ _ _ _) ?_
      refine Ev.step (fun k => j3_j4 p0 p1 p2 p5 q0 q1 q2 q5 r0 r1 r2 r5 p3 q3 r3 k _ A0 B0 C0 _ _ _ _) ?_
      by_cases h1 : x.lo < b
      · have eA : ((x :: L).filter (meets a b)).map sp = sp x :: (L.filter (meets a b)).map sp := by rw [List.filter_cons, if_pos (by simp [meets, h1, hc'.2])]; rfl
        rw [eA, self]
        by_cases h2 : b < x.hi
        · have eB : ((x :: L).filter (meets b c)).map sp = sp x :: (L.filter (meets b c)).map sp := by rw [List.filter_cons, if_pos (by simp [meets, h2, hc'.1])]; rfl
          rw [eB, self]
          have ih := loop_ev a b c hab hbc L (A0 ++ [sp x]) (B0 ++ [sp x]) (C0 ++ [sp x]) hul hpl (by simp; omega) (by simp; omega) (by simp; omega)
          refine Ev.step (fun k => j4_j5 p0 p1 p2 p5 q0 q1 q2 q5 r0 r1 r2 r5 p3 q3 r3 k _ _ _ _ _ _ _ _) ?_
          refine Ev.step (fun k => j5_l0 p0 p1 p2 p5 q0 q1 q2 q5 r0 r1 r2 r5 p3 q3 r3 k _ _ _ _ _ _ _ _) ?_
          simp only [if_true, Bool.false_eq_true, if_false, wA, wB, wC]
          rw [← aA, ← aB, ← aC] at ih
          exact ih
        · have eB : ((x :: L).filter (meets b c)).map sp = (L.filter (meets b c)).map sp := by rw [List.filter_cons, if_neg (by simp [meets]; omega)]
          rw [eB, nne]
          have ih := loop_ev a b c hab hbc L (A0 ++ [sp x]) B0 (C0 ++ [sp x]) hul hpl (by simp; omega) (by simp; omega) (by simp; omega)
          refine Ev.step (fun k => j4_j5 p0 p1 p2 p5 q0 q1 q2 q5 r0 r1 r2 r5 p3 q3 r3 k _ _ _ _ _ _ _ _) ?_
          refine Ev.step (fun k => j5_l0 p0 p1 p2 p5 q0 q1 q2 q5 r0 r1 r2 r5 p3 q3 r3 k _ _ _ _ _ _ _ _) ?_
          simp only [if_true, Bool.false_eq_true, if_false, wA, wB, wC]
          rw [← aA, ← aC] at ih
          exact ih
      · have h2 : b < x.hi := by omega
        have eA : ((x :: L).filter (meets a b)).map sp = (L.filter (meets a b)).map sp := by rw [List.filter_cons, if_neg (by simp [meets]; omega)]
        have eB : ((x :: L).filter (meets b c)).map sp = sp x :: (L.filter (meets b c)).map sp := by rw [List.filter_cons, if_pos (by simp [meets, h2, hc'.1])]; rfl
        rw [eA, eB, nne, self]
        have ih := loop_ev a b c hab hbc L A0 (B0 ++ [sp x]) (C0 ++ [sp x]) hul hpl (by simp; omega) (by simp; omega) (by simp; omega)
        refine Ev.step (fun k => j4_j5 p0 p1 p2 p5 q0 q1 q2 q5 r0 r1 r2 r5 p3 q3 r3 k _ _ _ _ _ _ _ _) ?_
        refine Ev.step (fun k => j5_l0 p0 p1 p2 p5 q0 q1 q2 q5 r0 r1 r2 r5 p3 q3 r3 k _ _ _ _ _ _ _ _) ?_
        simp only [if_true, Bool.false_eq_true, if_false, wA, wB, wC]
        rw [← aB, ← aC] at ih
        exact ih
    · have nc : ¬ (x.lo < c ∧ a < x.hi) := by simpa [meets] using hc
      have eC : (x :: L).filter (meets a c) = L.filter (meets a c) := by rw [List.filter_cons, if_neg hc]
      have eA : (x :: L).filter (meets a b) = L.filter (meets a b) := by rw [List.filter_cons, if_neg (by simp [meets]; omega)]
      have eB : (x :: L).filter (meets b c) = L.filter (meets b c) := by rw [List.filter_cons, if_neg (by simp [meets]; omega)]
      rw [eA, eB, eC]
      exact loop_ev a b c hab hbc L A0 B0 C0 hul hpl (by omega) ha hb
end
theorem over_some (l : List S25) (hl : l.length ≤ 2147483647) (hok : ∀ j (hj : j < l.length), okM l[j]) (a b : Int) (hab : a < b) :
    laws_spanLast.f l [⟨4, a, b, 0⟩] = some (0, 0, 0, false, ((Int.runT .nil (l.map mk_of)).list.filter (meets a b)).map sp, 0, true) := by
  have hs := sound_run (l.map mk_of) sound_nil (okA_of hok)
  rw [last_some l [⟨4, a, b, 0⟩] hl (by simp) (by simp) (fun x hx => by
    rw [List.map_append, List.mem_append] at hx
    rcases hx with hx | hx
    · exact okA_of hok x hx
    · simp only [List.map_cons, List.map_nil, List.mem_singleton] at hx
      subst hx; exact fun _ => hab)]
  have e : (Int.toldT (Int.runT .nil (l.map mk_of)) ([⟨4, a, b, 0⟩].map mk_of)).getD ([(⟨4, a, b, 0⟩ : S25)].length - 1) ((0, 0, 0), false, [], 0) = ((0, 0, 0), false, (T.over a b (Int.runT .nil (l.map mk_of))).map Int.tri, 0) := rfl
  rw [e, T.over_list a b hs.good.maxed hs.up]
  show some (0, 0, 0, false, List.map span_of (List.map Int.tri _), 0, true) = _
  rw [List.map_map]
  rfl
theorem FnOverlapsParts (l : List S25) (a b c : Int) : ∃ k, laws_FnOverlapsParts.f k l a b c = some true := by
  by_cases hl : (l.length : Int) > 2147483647
  · exact ⟨0, by unfold laws_FnOverlapsParts.f; rw [if_pos hl]⟩
  · obtain ⟨p, hb, hok⟩ := proper_ev l (by omega) l.length 0 (by omega)
    suffices h : Ev (fun k => laws_FnOverlapsParts.f k l a b c) true from h.rounds
    have triv : Ev (fun k => laws_FnOverlapsParts.j0 k l a b c true) true := by
      refine Ev.step (f := fun _ => some true) (fun k => ?_) (Ev.now _)
      simp only [laws_FnOverlapsParts.j0]; rw [if_pos trivial]
    refine Ev.congr (f := fun k => (spec_Proper.f k l).bind fun t132 => (if t132 = true then (if a ≥ b then (laws_FnOverlapsParts.j0 k l a b c true) else (laws_FnOverlapsParts.j0 k l a b c (decide (b ≥ c)))) else (laws_FnOverlapsParts.j0 k l a b c true))) (fun k => ?_) ?_
    · unfold laws_FnOverlapsParts.f
      rw [if_neg hl]
    · refine Ev.bind (f := fun k t132 => if t132 = true then (if a ≥ b then (laws_FnOverlapsParts.j0 k l a b c true) else (laws_FnOverlapsParts.j0 k l a b c (decide (b ≥ c)))) else (laws_FnOverlapsParts.j0 k l a b c true)) hb ?_
      cases p with
      | false => exact triv
      | true =>
        have hk := hok rfl
        by_cases h1 : a ≥ b
        · refine Ev.congr (fun k => ?_) triv
          rw [if_pos rfl, if_pos h1]
        · by_cases h2 : b ≥ c
          · refine Ev.congr (fun k => ?_) triv
            rw [if_pos rfl, if_neg h1, decide_eq_true h2]
          · have hs := sound_run (l.map mk_of) sound_nil (okA_of (fun j hj => hk j hj (Nat.zero_le _)))
            have hlen : (Int.runT .nil (l.map mk_of)).list.length ≤ 1099511627776 := by
              have h3 := run_size (l.map mk_of) .nil
              rw [T.size_list, List.length_map] at h3
              simp only [T.size] at h3
              omega
            have hloop := loop_ev 0 0 0 0 0 0 0 0 0 0 0 0 false false false a b c (by omega) (by omega) (Int.runT .nil (l.map mk_of)).list [] [] [] hs.up hs.pos (by simpa using hlen) (Nat.le_refl _) (Nat.le_refl _)
            simp only [List.nil_append, List.length_nil] at hloop
            have o1 := over_some l (by omega) (fun j hj => hk j hj (Nat.zero_le _)) a b (by omega)
            have o2 := over_some l (by omega) (fun j hj => hk j hj (Nat.zero_le _)) b c (by omega)
            have o3 := over_some l (by omega) (fun j hj => hk j hj (Nat.zero_le _)) a c (by omega)
            generalize ((Int.runT .nil (l.map mk_of)).list.filter (meets a b)).map sp = LA at hloop o1
            generalize ((Int.runT .nil (l.map mk_of)).list.filter (meets b c)).map sp = LB at hloop o2
            generalize ((Int.runT .nil (l.map mk_of)).list.filter (meets a c)).map sp = LC at hloop o3
            have h4 : Ev (fun k => laws_FnOverlapsParts.j1 k false 0 0 0 false LA 0 0 0 0 false LB 0 0 0 0 false LC 0) true := by
              refine Ev.step (fun k => ?_) hloop
              simp only [laws_FnOverlapsParts.j1]
              rw [if_neg (by simp)]
              rfl
            have h5 : Ev (fun k => laws_FnOverlapsParts.j0 k l a b c false) true := by
              refine Ev.step (fun k => ?_) h4
              simp only [laws_FnOverlapsParts.j0]
              rw [if_neg (by simp), o1, o2, o3, Option.bind_some, Option.bind_some, Option.bind_some]
              rfl
            refine Ev.congr (fun k => ?_) h5
            rw [if_pos rfl, if_neg h1, decide_eq_false h2]
end Go.Proofs.Ytmnjkdbopafkfaa.PureFnOverlapsParts
