/- In whichever order intervals are put that begin at unlike places: all are told in the same order, and so is what has a number in common with a range: for every row of intervals. -/
import Derived.Test.YtmnjkdbopafkfaaQFnIntervalOrderx4
import Derived.IntWalk
namespace Go.Proofs.Ytmnjkdbopafkfaa.PureFnIntervalOrder
open Go.RowKit Go.IntWalk Go.Proofs.Ytmnjkdbopafkfaa.QFnIntervalOrder Go.Proofs.YtmnjkdbopafkfaaW.PrintWords Go.Proofs.YtmnjkdbopafkfaaW.PrintLast Go.Proofs.Ytmnjkdbopafkfaa.IntPure
def okM (x : S25) : Prop := (x.f0 = 0 ∨ x.f0 = 1 ∨ x.f0 = 4) → x.f1 < x.f2
theorem fit_true {l : List Int.Mk} (h : ∀ a ∈ l, (a.1 = 0 ∨ a.1 = 1 ∨ a.1 = 4) → a.2.1 ≤ a.2.2.1) : fitB l = true := by
  refine List.all_eq_true.2 (fun a ha => ?_)
  by_cases c : a.1 = 0 ∨ a.1 = 1 ∨ a.1 = 4
  · have := h a ha c
    simp [this]
  · simp only [Bool.or_eq_true, Bool.not_eq_true', Bool.or_eq_false_iff, beq_eq_false_iff_ne]
    exact .inl ⟨⟨fun e => c (.inl e), fun e => c (.inr (.inl e))⟩, fun e => c (.inr (.inr e))⟩
/-! ### What a proper script leaves -/
structure Sound (t : T) : Prop where
  good : T.Good t
  up : T.Up t.list
  pos : ∀ x ∈ t.list, x.lo < x.hi
theorem sound_nil : Sound .nil := ⟨⟨trivial, trivial, trivial⟩, List.Pairwise.nil, fun x hx => by simp [T.list] at hx⟩
def okA (a : Int.Mk) : Prop := (a.1 = 0 ∨ a.1 = 1 ∨ a.1 = 4) → a.2.1 < a.2.2.1
theorem sound_step {t : T} (h : Sound t) {a : Int.Mk} (ha : okA a) : Sound (Int.stepT t a) := by
  have put : ∀ ov, (a.1 = 0 ∨ a.1 = 1) → Sound (T.ins ⟨a.2.1, a.2.2.1, a.2.2.2⟩ ov t).1 := fun ov hd => by
    have e := (T.list_ins (x := ⟨a.2.1, a.2.2.1, a.2.2.2⟩) (ov := ov) h.up).1
    refine ⟨(T.good_ins _ _ h.good).1, by rw [e]; exact T.up_insL h.up, fun x hx => ?_⟩
    rw [e] at hx
    rcases T.mem_insL hx with rfl | hx
    · exact ha (hd.imp id .inl)
    · exact h.pos x hx
  unfold Int.stepT
  split
  · exact put true (.inl (by assumption))
  · split
    · exact put false (.inr (by assumption))
    · split
      · have e := (T.list_rem (t := t) a.2.1 h.up).1
        refine ⟨(T.good_rem _ h.good).1, by rw [e]; exact T.up_remL h.up, fun x hx => ?_⟩
        rw [e] at hx
        exact h.pos x (T.mem_remL hx)
      · exact h
theorem sound_run : ∀ (l : List Int.Mk) {t : T}, Sound t → (∀ a ∈ l, okA a) → Sound (Int.runT t l)
  | [], _, h, _ => h
  | a :: l, t, h, hl => sound_run l (sound_step h (hl a (by simp))) (fun x hx => hl x (by simp [hx]))
theorem told_append : ∀ (a b : List Int.Mk) (t : T), Int.toldT t (a ++ b) = Int.toldT t a ++ Int.toldT (Int.runT t a) b
  | [], _, _ => rfl
  | x :: a, b, t => by simp [Int.toldT, Int.runT, told_append a b]
theorem run_append : ∀ (a b : List Int.Mk) (t : T), Int.runT t (a ++ b) = Int.runT (Int.runT t a) b
  | [], _, _ => rfl
  | x :: a, b, t => by simp [Int.runT, run_append a b]
theorem okA_of {l : List S25} (h : ∀ j (hj : j < l.length), okM l[j]) : ∀ a ∈ l.map mk_of, okA a := fun a ha => by
  obtain ⟨x, hx, rfl⟩ := List.mem_map.1 ha
  obtain ⟨j, hj, rfl⟩ := List.getElem_of_mem hx
  exact h j hj
theorem fit_ok {l : List Int.Mk} (h : ∀ a ∈ l, okA a) : fitB l = true := fit_true (fun a ha hd => Int.le_of_lt (h a ha hd))
theorem run_size : ∀ (l : List Int.Mk) (t : T), (Int.runT t l).size ≤ t.size + l.length
  | [], t => by simp [Int.runT]
  | a :: l, t => by
    have h1 := run_size l (Int.stepT t a)
    have h2 := Int.size_step t a
    show (Int.runT (Int.stepT t a) l).size ≤ _
    simp only [List.length_cons]
    omega
/-! ### What the last step tells -/
theorem last_some (l x : List S25) (hl : l.length ≤ 2147483647) (hx : x.length ≤ 2147483647) (hp : 0 < x.length) (hok : ∀ a ∈ (l ++ x).map mk_of, okA a) :
    laws_spanLast.f l x = some ((fun p : S32 => (p.f0.f0, p.f0.f1, p.f0.f2, p.f1, p.f2, p.f3, true)) (found_of ((Int.toldT (Int.runT .nil (l.map mk_of)) (x.map mk_of)).getD (x.length - 1) ((0, 0, 0), false, [], 0)))) := by
  have hrun : impl_IntervalRun.f (l ++ x) = some ((Int.toldT .nil ((l ++ x).map mk_of)).map found_of) := by
    unfold impl_IntervalRun.f
    rw [if_pos (by simp; omega), if_pos (fit_ok hok)]
  have hlen : ((Int.toldT .nil ((l ++ x).map mk_of)).map found_of).length = l.length + x.length := by
    rw [List.length_map, Int.toldT_length, List.length_map, List.length_append]
  have hlast : rd_T32 ((Int.toldT .nil ((l ++ x).map mk_of)).map found_of) (((l.length + x.length : Nat) : Int) - 1) = found_of ((Int.toldT (Int.runT .nil (l.map mk_of)) (x.map mk_of)).getD (x.length - 1) ((0, 0, 0), false, [], 0)) := by
    have e1 : (((l.length + x.length : Nat) : Int) - 1).toNat = l.length + (x.length - 1) := by omega
    have hl2 : (Int.toldT .nil (l.map mk_of)).length = l.length := by rw [Int.toldT_length, List.length_map]
    have hx2 : (Int.toldT (Int.runT .nil (l.map mk_of)) (x.map mk_of)).length = x.length := by rw [Int.toldT_length, List.length_map]
    unfold rd_T32
    rw [e1, List.map_append, told_append, List.map_append, List.getD_eq_getElem?_getD, List.getElem?_append_right (by rw [List.length_map]; omega), List.length_map, hl2, Nat.add_sub_cancel_left, List.getElem?_map, List.getD_eq_getElem?_getD]
    rw [List.getElem?_eq_getElem (by omega)]
    rfl
  generalize (Int.toldT .nil ((l ++ x).map mk_of)).map found_of = O at hrun hlen hlast
  unfold laws_spanLast.f
  have w : wrap64 ((O.length : Int) - 1) = ((l.length + x.length : Nat) : Int) - 1 := by rw [hlen, wrap64_in _ (by omega)]
  rw [Option.bind_some, if_pos (by simp; omega), List.nil_append, Option.bind_some, if_pos (by omega), Option.bind_some, hrun, Option.bind_some, if_pos (by rw [hlen]; simp), if_neg (by rw [hlen]; omega), w, if_pos (by omega), if_pos (by rw [hlen]; omega), hlast]
theorem w1 (q : Nat) (h : q ≤ 1099511627776) : wrap64 ((q : Int) + 1) = ((q + 1 : Nat) : Int) := by rw [wrap64_in _ (by omega)]; rfl
theorem same_row (xs : List S29) (hl : xs.length ≤ 1099511627776) (d : Nat) : ∀ j : Nat, j + d = xs.length → Ev (fun k => spec_SameSpans.l0 k xs xs j) true := by
  induction d with
  | zero =>
    intro j hj
    refine Ev.step (f := fun _ => some true) (fun k => ?_) (Ev.now _)
    simp only [spec_SameSpans.l0]
    rw [if_neg (by omega)]
  | succ d ih =>
    intro j hj
    refine Ev.step (fun k => ?_) (ih (j + 1) (by omega))
    simp only [spec_SameSpans.l0]
    rw [if_pos (by omega), if_pos (by omega), if_pos (by omega), if_neg (by simp), w1 j (by omega)]
theorem same_spans (l : List S29) (hl : l.length ≤ 1099511627776) : Ev (fun k => spec_SameSpans.f k l l) true := by
  refine Ev.congr (fun k => ?_) (same_row l hl l.length 0 (Nat.zero_add _))
  unfold spec_SameSpans.f
  rw [if_pos rfl]
  rfl
def sp (s : S) : S29 := ⟨s.lo, s.hi, s.v⟩
theorem span_tri (s : S) : span_of (Int.tri s) = sp s := rfl
theorem all_some (t : T) (a b c : Int) : Int.tellT t (5, a, b, c) = ((0, 0, 0), false, t.list.map Int.tri, 0) := rfl
theorem span_list (l : List S) : (l.map Int.tri).map span_of = l.map sp := by rw [List.map_map]; rfl
theorem last_eq (l x : List S25) (y : S25) : (Int.toldT (Int.runT .nil (l.map mk_of)) ((x ++ [y]).map mk_of)).getD ((x ++ [y]).length - 1) ((0, 0, 0), false, [], 0) = Int.tellT (Int.runT .nil ((l ++ x).map mk_of)) (mk_of y) := by
  have h1 : (Int.toldT (Int.runT .nil (l.map mk_of)) (x.map mk_of)).length = x.length := by rw [Int.toldT_length, List.length_map]
  have h2 : (x ++ [y]).length - 1 = x.length := by simp
  rw [h2, List.map_append, told_append, List.getD_eq_getElem?_getD, List.getElem?_append_right (by omega), h1, Nat.sub_self, List.map_append, run_append]
  rfl
abbrev out_of (p : S32) : Int × Int × Int × Bool × List S29 × Int × Bool := (p.f0.f0, p.f0.f1, p.f0.f2, p.f1, p.f2, p.f3, true)
theorem last_is (l x : List S25) (y : S25) (hl : l.length ≤ 2147483647) (hx : x.length ≤ 100) (hok : ∀ a ∈ (l ++ (x ++ [y])).map mk_of, okA a) :
    laws_spanLast.f l (x ++ [y]) = some (out_of (found_of (Int.tellT (Int.runT .nil ((l ++ x).map mk_of)) (mk_of y)))) := by
  rw [last_some l (x ++ [y]) hl (by simp; omega) (by simp) hok, last_eq]
/-! ### The intervals that are put -/
def okS (pre : List S29) (x : S29) : Bool := decide (x.f0 < x.f1) && pre.all (fun y => !(y.f0 == x.f0) || decide (y.f0 ≥ y.f1))
def kept : List S29 → List S29 → List S29
  | _, [] => []
  | pre, x :: l => if okS pre x = true then x :: kept (pre ++ [x]) l else kept (pre ++ [x]) l
def mkS (x : S29) : S25 := ⟨0, x.f0, x.f1, x.f2⟩
theorem kept_len : ∀ (l pre : List S29), (kept pre l).length ≤ l.length
  | [], _ => Nat.le_refl _
  | x :: l, pre => by
    have := kept_len l (pre ++ [x])
    simp only [kept]
    split <;> simp only [List.length_cons] <;> omega
theorem okS_pos {pre : List S29} {x : S29} (h : okS pre x = true) : x.f0 < x.f1 ∧ ∀ y ∈ pre, y.f0 < y.f1 → y.f0 ≠ x.f0 := by
  unfold okS at h
  simp only [Bool.and_eq_true, decide_eq_true_eq, List.all_eq_true] at h
  refine ⟨h.1, fun y hy hp e => ?_⟩
  have := h.2 y hy
  simp only [e, beq_self_eq_true, Bool.not_true, Bool.false_or, decide_eq_true_eq] at this
  omega
theorem kept_ok : ∀ (l pre : List S29), (∀ x ∈ kept pre l, x.f0 < x.f1 ∧ ∀ y ∈ pre, y.f0 < y.f1 → y.f0 ≠ x.f0) ∧ (kept pre l).Pairwise (fun a b => a.f0 ≠ b.f0)
  | [], _ => ⟨fun x hx => by simp [kept] at hx, List.Pairwise.nil⟩
  | x :: l, pre => by
    obtain ⟨h1, h2⟩ := kept_ok l (pre ++ [x])
    simp only [kept]
    split
    · rename_i h
      have hx := okS_pos h
      refine ⟨fun z hz => ?_, List.pairwise_cons.2 ⟨fun z hz => (h1 z hz).2 x (by simp) hx.1, h2⟩⟩
      rcases List.mem_cons.1 hz with rfl | hz
      · exact hx
      · exact ⟨(h1 z hz).1, fun y hy => (h1 z hz).2 y (by simp [hy])⟩
    · exact ⟨fun z hz => ⟨(h1 z hz).1, fun y hy => (h1 z hz).2 y (by simp [hy])⟩, h2⟩
theorem rd_span {l : List S29} {i : Nat} (h : i < l.length) : rd_T29 l (i : Int) = l[i] := by simp [rd_T29, List.getD_eq_getElem?_getD, h]
theorem take_all {α : Type} (p : α → Bool) (l : List α) (j : Nat) (hj : j < l.length) : (l.take (j + 1)).all p = ((l.take j).all p && p l[j]) := by
  rw [List.take_succ_eq_append_getElem hj, List.all_append]
  simp
theorem inner_ev (l : List S29) (o : List S25) (j : Nat) (hj : j < l.length) (hl : l.length ≤ 2147483647) (ho : o.length ≤ l.length) (r : List S25)
    (hk : Ev (fun k => laws_spanPuts.l0 k l (if okS (l.take j) l[j] = true then o ++ [mkS l[j]] else o) ((j + 1 : Nat) : Int)) r) (d : Nat) :
    ∀ (i : Nat), i + d = j → Ev (fun k => laws_spanPuts.l1 k l o (j : Int) (decide (l[j].f0 < l[j].f1) && (l.take i).all (fun y => !(y.f0 == l[j].f0) || decide (y.f0 ≥ y.f1))) (i : Int)) r := by
  induction d with
  | zero =>
    intro i hi
    obtain rfl : i = j := by omega
    refine Ev.step (fun k => ?_) hk
    simp only [laws_spanPuts.l1]
    rw [if_neg (by omega)]
    cases q : okS (l.take i) l[i] with
    | true =>
      unfold okS at q
      rw [q, if_pos rfl, if_pos (by omega), if_pos (by omega), if_pos (by omega), rd_span hj, w1 i (by omega), if_pos rfl]
      rfl
    | false =>
      unfold okS at q
      rw [q, if_neg (by simp), w1 i (by omega), if_neg (by simp)]
  | succ d ih =>
    intro i hi
    have hil : i < l.length := by omega
    refine Ev.step (fun k => ?_) (ih (i + 1) (by omega))
    simp only [laws_spanPuts.l1]
    rw [if_pos (by omega), rd_span hil, rd_span hj, w1 i (by omega), take_all _ _ _ hil]
    cases q : (decide (l[j].f0 < l[j].f1) && (l.take i).all (fun y => !(y.f0 == l[j].f0) || decide (y.f0 ≥ y.f1))) with
    | true =>
      rw [if_pos rfl, if_pos (by omega), if_pos (by omega), if_pos (by omega), if_pos (by omega), ← Bool.and_assoc, q, Bool.true_and]
      by_cases e : l[i].f0 = l[j].f0
      · rw [if_pos e]
        simp [e]
      · rw [if_neg e, show (l[i].f0 == l[j].f0) = false from beq_eq_false_iff_ne.2 e]
        simp
    | false =>
      rw [if_neg (by simp), ← Bool.and_assoc, q, Bool.false_and]
theorem puts_row (l : List S29) (hl : l.length ≤ 2147483647) (d : Nat) : ∀ (j : Nat) (o : List S25), j + d = l.length → o.length ≤ j → Ev (fun k => laws_spanPuts.l0 k l o (j : Int)) (o ++ (kept (l.take j) (l.drop j)).map mkS) := by
  induction d with
  | zero =>
    intro j o hj _
    refine Ev.step (f := fun _ => some (o ++ (kept (l.take j) (l.drop j)).map mkS)) (fun k => ?_) (Ev.now _)
    simp only [laws_spanPuts.l0]
    rw [if_neg (by omega), List.drop_eq_nil_of_le (by omega)]
    simp [kept]
  | succ d ih =>
    intro j o hj ho
    have hjl : j < l.length := by omega
    have hd : l.drop j = l[j] :: l.drop (j + 1) := List.drop_eq_getElem_cons hjl
    have ht : l.take (j + 1) = l.take j ++ [l[j]] := List.take_succ_eq_append_getElem hjl
    have hi := ih (j + 1) (if okS (l.take j) l[j] = true then o ++ [mkS l[j]] else o) (by omega) (by
      split
      · simp only [List.length_append, List.length_singleton]; omega
      · omega)
    have e : (if okS (l.take j) l[j] = true then o ++ [mkS l[j]] else o) ++ (kept (l.take (j + 1)) (l.drop (j + 1))).map mkS = o ++ (kept (l.take j) (l.drop j)).map mkS := by
      rw [hd, ht]
      simp only [kept]
      split <;> simp
    rw [e] at hi
    have hn := inner_ev l o j hjl hl (by omega) _ hi j 0 (Nat.zero_add _)
    refine Ev.step (fun k => ?_) hn
    simp only [laws_spanPuts.l0]
    rw [if_pos (by omega), if_pos (by omega), rd_span hjl]
    simp
theorem puts_ev (l : List S29) (hl : l.length ≤ 2147483647) : Ev (fun k => laws_spanPuts.f k l) ((kept [] l).map mkS) := puts_row l hl l.length 0 [] (Nat.zero_add _) (Nat.zero_le _)
/-! ### Another order -/
theorem tmod_bd (k n : Int) (h : 0 < n) : -n < k.tmod n ∧ k.tmod n < n ∧ (k.tmod n + n) % n = k % n := by
  have h2 := Int.emod_nonneg k (show n ≠ 0 by omega)
  have h3 := Int.emod_lt_of_pos k h
  rw [Int.tmod_eq_emod]
  split
  · exact ⟨by omega, by omega, by simp⟩
  · rename_i hc
    have h4 : k % n ≠ 0 := fun e => hc (.inr (Int.dvd_of_emod_eq_zero e))
    have h5 : (n.natAbs : Int) = n := by omega
    rw [h5]
    exact ⟨by omega, by omega, by rw [show k % n - n + n = k % n by omega, Int.emod_emod]⟩
theorem rd_at (l : List S25) (a : Int) (h : a.toNat < l.length) : rd_T25 l a = l[a.toNat] := by simp [rd_T25, List.getD_eq_getElem?_getD, h]
theorem turned_row (x1 : List Int) (h1 : x1.length ≤ 2147483647) (d : Nat) : ∀ (i : Nat) (x5 : List S25), i + d = x1.length → x5.length ≤ 2147483647 → ∃ r, Ev (fun k => impl_Mark.l0 k x1 x5 i) r ∧ r.Perm x5 := by
  induction d with
  | zero =>
    intro i x5 hi _
    refine ⟨x5, Ev.step (f := fun _ => some x5) (fun k => ?_) (Ev.now _), List.Perm.refl _⟩
    simp only [impl_Mark.l0]
    rw [if_neg (by omega)]
  | succ d ih =>
    intro i x5 hi hl
    by_cases hn : (x5.length : Int) > 0
    · have b := tmod_bd (rd x1 i) x5.length hn
      have ea : wrap64 ((rd x1 i).tmod x5.length + x5.length) = (rd x1 i).tmod x5.length + x5.length := wrap64_in _ (by omega)
      have et : ((rd x1 i).tmod x5.length + x5.length).tmod x5.length = rd x1 i % x5.length := by rw [Int.tmod_eq_emod_of_nonneg (by omega)]; exact b.2.2
      have eb : (i : Int).tmod x5.length = (i : Int) % x5.length := Int.tmod_eq_emod_of_nonneg (by omega)
      have a0 := Int.emod_nonneg (rd x1 i) (show (x5.length : Int) ≠ 0 by omega)
      have a1 := Int.emod_lt_of_pos (rd x1 i) hn
      have b0 := Int.emod_nonneg (i : Int) (show (x5.length : Int) ≠ 0 by omega)
      have b1 := Int.emod_lt_of_pos (i : Int) hn
      obtain ⟨r, hr, hp⟩ := ih (i + 1) ((x5.set ((i : Int) % x5.length).toNat (rd_T25 x5 (rd x1 i % x5.length))).set (rd x1 i % x5.length).toNat (rd_T25 x5 ((i : Int) % x5.length))) (by omega) (by simpa using hl)
      refine ⟨r, Ev.step (fun k => ?_) hr, hp.trans ?_⟩
      · simp only [impl_Mark.l0]
        rw [if_pos (by omega), if_pos hn, if_neg (by omega), if_pos (by omega), ea, et, eb, if_pos a0, if_pos a1, if_pos b0, if_pos b1, wrap64_in ((i : Int) + 1) (by omega)]
        rfl
      · have ha : (rd x1 i % x5.length).toNat < x5.length := by omega
        have hb : ((i : Int) % x5.length).toNat < x5.length := by omega
        rw [rd_at x5 _ ha, rd_at x5 _ hb]
        exact List.set_set_perm hb ha
    · refine ⟨x5, Ev.step (f := fun _ => some x5) (fun k => ?_) (Ev.now _), List.Perm.refl _⟩
      simp only [impl_Mark.l0]
      rw [if_pos (by omega), if_neg hn]
theorem turned_ev (l : List S25) (x1 : List Int) (h1 : x1.length ≤ 2147483647) (hl : l.length ≤ 2147483647) : ∃ r, Ev (fun k => impl_Mark.f k l x1) r ∧ r.Perm l := by
  obtain ⟨r, hr, hp⟩ := turned_row x1 h1 x1.length 0 l (Nat.zero_add _) hl
  refine ⟨r, Ev.congr (fun k => ?_) hr, hp⟩
  unfold impl_Mark.f
  rw [Option.bind_some, if_pos (by simp; omega), List.nil_append]
  rfl
/-! ### What they leave -/
def sOf (a : Int.Mk) : S := ⟨a.2.1, a.2.2.1, a.2.2.2⟩
theorem ins_perm (x : S) : ∀ (L : List S), (∀ y ∈ L, y.lo ≠ x.lo) → (T.insL x true L).Perm (x :: L)
  | [], _ => List.Perm.refl _
  | s :: L, h => by
    have hs := h s List.mem_cons_self
    simp only [T.insL]
    split
    · exact ((ins_perm x L (fun y hy => h y (List.mem_cons_of_mem _ hy))).cons s).trans (List.Perm.swap x s L)
    · split
      · exact List.Perm.refl _
      · exact absurd (show s.lo = x.lo by omega) hs
theorem run_perm : ∀ (ms : List Int.Mk) (t : T), T.Up t.list → (∀ a ∈ ms, a.1 = 0) → ms.Pairwise (fun a b => a.2.1 ≠ b.2.1) → (∀ a ∈ ms, ∀ y ∈ t.list, y.lo ≠ a.2.1) → (Int.runT t ms).list.Perm (ms.map sOf ++ t.list)
  | [], t, _, _, _, _ => List.Perm.refl _
  | a :: ms, t, hu, h0, hp, hn => by
    have ha := h0 a List.mem_cons_self
    obtain ⟨p1, p2⟩ := List.pairwise_cons.1 hp
    have e : (Int.stepT t a).list = T.insL (sOf a) true t.list := by
      unfold Int.stepT
      rw [if_pos ha]
      exact (T.list_ins (x := ⟨a.2.1, a.2.2.1, a.2.2.2⟩) (ov := true) hu).1
    have hq := ins_perm (sOf a) t.list (fun y hy => hn a List.mem_cons_self y hy)
    refine (run_perm ms (Int.stepT t a) (by rw [e]; exact T.up_insL hu) (fun b hb => h0 b (List.mem_cons_of_mem _ hb)) p2 (fun b hb y hy => ?_)).trans ?_
    · rw [e] at hy
      rcases List.mem_cons.1 (hq.mem_iff.1 hy) with rfl | hy
      · exact p1 b hb
      · exact hn b (List.mem_cons_of_mem _ hb) y hy
    · rw [e]
      refine (hq.append_left _).trans ?_
      exact List.perm_middle
theorem up_eq {a b : List S} (ha : T.Up a) (hb : T.Up b) (h : a.Perm b) : a = b := by
  induction a generalizing b with
  | nil => exact (List.nil_perm.1 h).symm
  | cons x a ih =>
    cases b with
    | nil => exact absurd (List.perm_nil.1 h) (by simp)
    | cons y b =>
      obtain ⟨a1, a2⟩ := List.pairwise_cons.1 ha
      obtain ⟨b1, b2⟩ := List.pairwise_cons.1 hb
      have hx : x ∈ y :: b := h.mem_iff.1 List.mem_cons_self
      have hy : y ∈ x :: a := h.mem_iff.2 List.mem_cons_self
      have e : x = y := by
        rcases List.mem_cons.1 hx with e | hx
        · exact e
        · rcases List.mem_cons.1 hy with e | hy
          · exact e.symm
          · have := b1 x hx; have := a1 y hy; omega
      subst e
      rw [ih a2 b2 (List.Perm.cons_inv h)]
theorem FnIntervalOrder (l : List S29) (turn : List Int) (a b : Int) : ∃ k, laws_FnIntervalOrder.f k l turn a b = some true := by
  suffices h : Ev (fun k => laws_FnIntervalOrder.f k l turn a b) true from h.rounds
  have triv : Ev (fun k => laws_FnIntervalOrder.j0 k l turn a b true) true := by
    refine Ev.step (f := fun _ => some true) (fun k => ?_) (Ev.now _)
    simp only [laws_FnIntervalOrder.j0]; rw [if_pos trivial]
  by_cases h0 : (l.length : Int) > 2147483647
  · exact Ev.congr (fun k => by unfold laws_FnIntervalOrder.f; rw [if_pos h0]) triv
  by_cases h1 : (turn.length : Int) > 2147483647
  · exact Ev.congr (fun k => by unfold laws_FnIntervalOrder.f; rw [if_neg h0, decide_eq_true h1]) triv
  refine Ev.congr (f := fun k => laws_FnIntervalOrder.j0 k l turn a b false) (fun k => by unfold laws_FnIntervalOrder.f; rw [if_neg h0, decide_eq_false h1]) ?_
  by_cases h2 : a ≥ b
  · refine Ev.step (f := fun _ => some true) (fun k => ?_) (Ev.now _)
    simp only [laws_FnIntervalOrder.j0]
    rw [if_neg (by simp), if_pos h2]
  obtain ⟨k1, k2⟩ := kept_ok l []
  have kl := kept_len l []
  generalize hA : (kept [] l).map mkS = A at *
  have hlA : A.length ≤ 2147483647 := by rw [← hA, List.length_map]; omega
  obtain ⟨B, hB, hP⟩ := turned_ev A turn (by omega) hlA
  have hlB : B.length = A.length := hP.length_eq
  -- what holds of the puts in either order
  have mA : ∀ x ∈ A, x.f0 = 0 ∧ x.f1 < x.f2 := fun x hx => by
    rw [← hA] at hx
    obtain ⟨y, hy, rfl⟩ := List.mem_map.1 hx
    exact ⟨rfl, (k1 y hy).1⟩
  have mB : ∀ x ∈ B, x.f0 = 0 ∧ x.f1 < x.f2 := fun x hx => mA x (hP.mem_iff.1 hx)
  have pA : A.Pairwise (fun x y => x.f1 ≠ y.f1) := by rw [← hA, List.pairwise_map]; exact k2
  have pB : B.Pairwise (fun x y => x.f1 ≠ y.f1) := hP.symm.pairwise pA (fun h => h.symm)
  have left : ∀ (M : List S25), (∀ x ∈ M, x.f0 = 0 ∧ x.f1 < x.f2) → M.Pairwise (fun x y => x.f1 ≠ y.f1) → Sound (Int.runT .nil (M.map mk_of)) ∧ (Int.runT .nil (M.map mk_of)).list.Perm ((M.map mk_of).map sOf) ∧ (∀ x ∈ M.map mk_of, okA x) := fun M h1 h2 => by
    have ok : ∀ x ∈ M.map mk_of, okA x := fun x hx => by
      obtain ⟨y, hy, rfl⟩ := List.mem_map.1 hx
      exact fun _ => (h1 y hy).2
    have hp := run_perm (M.map mk_of) .nil List.Pairwise.nil (fun x hx => by
      obtain ⟨y, hy, rfl⟩ := List.mem_map.1 hx
      exact (h1 y hy).1) (by rw [List.pairwise_map]; exact h2) (fun x _ y hy => by simp [T.list] at hy)
    rw [show T.list .nil = [] from rfl, List.append_nil] at hp
    exact ⟨sound_run _ sound_nil ok, hp, ok⟩
  obtain ⟨sA, qA, oA⟩ := left A mA pA
  obtain ⟨sB, qB, oB⟩ := left B mB pB
  have same : (Int.runT .nil (A.map mk_of)).list = (Int.runT .nil (B.map mk_of)).list := by
    refine up_eq sA.up sB.up (qA.trans (List.Perm.trans ?_ qB.symm))
    exact ((hP.map mk_of).map sOf).symm
  have lenA : (Int.runT .nil (A.map mk_of)).list.length = A.length := by rw [qA.length_eq, List.length_map, List.length_map]
  have tells : ∀ (M : List S25), M.length ≤ 2147483647 → Sound (Int.runT .nil (M.map mk_of)) → (∀ x ∈ M.map mk_of, okA x) → laws_spanLast.f M [⟨5, 0, 0, 0⟩] = some (0, 0, 0, false, (Int.runT .nil (M.map mk_of)).list.map sp, 0, true) ∧
      laws_spanLast.f M [⟨4, a, b, 0⟩] = some (0, 0, 0, false, ((Int.runT .nil (M.map mk_of)).list.filter fun s => decide (s.lo < b) && decide (a < s.hi)).map sp, 0, true) := fun M hM hs ho => by
    have more : ∀ (y : S25), okA (mk_of y) → ∀ x ∈ (M ++ ([] ++ [y])).map mk_of, okA x := fun y hy x hx => by
      rw [List.map_append, List.mem_append] at hx
      rcases hx with hx | hx
      · exact ho x hx
      · simp only [List.nil_append, List.map_cons, List.map_nil, List.mem_singleton] at hx
        subst hx; exact hy
    have e1 := last_is M [] ⟨5, 0, 0, 0⟩ hM (by simp) (more _ (fun h => by simp [mk_of] at h))
    have e2 := last_is M [] ⟨4, a, b, 0⟩ hM (by simp) (more _ (fun _ => by show a < b; omega))
    rw [List.append_nil, List.nil_append] at e1 e2
    refine ⟨e1.trans ?_, e2.trans ?_⟩
    · rw [← span_list]; rfl
    · have e : Int.tellT (Int.runT .nil (M.map mk_of)) (mk_of ⟨4, a, b, 0⟩) = ((0, 0, 0), false, (T.over a b (Int.runT .nil (M.map mk_of))).map Int.tri, 0) := rfl
      rw [e, T.over_list a b hs.good.maxed hs.up, ← span_list]
      rfl
  obtain ⟨tA1, tA2⟩ := tells A hlA sA oA
  obtain ⟨tB1, tB2⟩ := tells B (by omega) sB oB
  rw [← same] at tB1 tB2
  obtain ⟨K1, e1⟩ := puts_ev l (by omega)
  rw [hA] at e1
  obtain ⟨K2, e2⟩ := hB
  generalize hL : (Int.runT .nil (A.map mk_of)).list = L at *
  obtain ⟨K3, e3⟩ := same_spans (L.map sp) (by rw [List.length_map]; omega)
  obtain ⟨K4, e4⟩ := same_spans ((L.filter fun s => decide (s.lo < b) && decide (a < s.hi)).map sp) (by
    have := List.length_filter_le (fun s : S => decide (s.lo < b) && decide (a < s.hi)) L
    rw [List.length_map]; omega)
  refine ⟨K1 + K2 + K3 + K4 + 1, fun k hk => ?_⟩
  obtain ⟨m, rfl⟩ : ∃ m, k = m + 1 := ⟨k - 1, by omega⟩
  have e1' := e1 m (by omega)
  have e2' := e2 m (by omega)
  have e3' := e3 m (by omega)
  have e4' := e4 m (by omega)
  dsimp only at e1' e2' e3' e4'
  show laws_FnIntervalOrder.j0 (m + 1) _ _ _ _ _ = _
  simp only [laws_FnIntervalOrder.j0]
  rw [if_neg (by simp), if_neg h2, e1', Option.bind_some, e2', Option.bind_some, tA1, Option.bind_some, tB1, Option.bind_some, tA2, Option.bind_some, tB2, Option.bind_some]
  dsimp only
  rw [if_pos rfl, if_pos rfl, if_pos rfl, if_pos rfl, if_pos (by rw [List.length_map]; omega), e3', Option.bind_some, if_pos rfl, e4', Option.bind_some]
end Go.Proofs.Ytmnjkdbopafkfaa.PureFnIntervalOrder
