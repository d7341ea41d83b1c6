/- Of keys that are alike the one that was put first is told: for every script and every order. -/
import Derived.Test.YtjlcebgfknfelaaQFnAvlFirstx3
import Derived.IntWalk
namespace Go.Proofs.Ytjlcebgfknfelaa.AvlFirstPure
open Go.RowKit Go.IntWalk Go.Proofs.Ytjlcebgfknfelaa.QFnAvlFirst Go.Proofs.YtjlcebgfknfelaaW.PrintWords Go.Proofs.YtjlcebgfknfelaaW.PrintLast Go.Proofs.Ytjlcebgfknfelaa.AvlPure Go.Proofs.Ytjlcebgfknfelaa.Avl Go.Proofs.Ytjlcebgfknfelaa.Less
/-! ### The tree tells what the plain map tells -/
theorem tell_same (tb : List Int) (t : T) (hu : T.Up (rankOf tb) t.list) (a : Avl.Act3) (h5 : a.1 ≠ 5) : Avl.tellT tb t a = tellS tb t.list a := by
  unfold Avl.tellT tellS
  by_cases h2 : a.1 = 2
  · rw [if_pos h2, if_pos h2]
    unfold got gotS
    rw [T.find_list hu]
    cases T.getL (rankOf tb) a.2.1 t.list <;> rfl
  · rw [if_neg h2, if_neg h2]
    by_cases h3 : a.1 = 3
    · rw [if_pos h3, if_pos h3, T.size_list]
    · rw [if_neg h3, if_neg h3]
      by_cases h4 : a.1 = 4
      · rw [if_pos h4, if_pos h4]; rfl
      · rw [if_neg h4, if_neg h4, if_neg h5]
theorem tell_keys (tb : List Int) (t : T) (hu : T.Up (rankOf tb) t.list) (a : Avl.Act3) : (Avl.tellT tb t a).2.2.1 = (tellS tb t.list a).2.2.1 := by
  by_cases h5 : a.1 = 5
  · unfold Avl.tellT tellS
    rw [if_neg (by omega), if_neg (by omega), if_neg (by omega), if_pos h5, if_neg (by omega), if_neg (by omega), if_neg (by omega)]
  · rw [tell_same tb t hu a h5]
theorem step_same (tb : List Int) (t : T) (hu : T.Up (rankOf tb) t.list) (a : Avl.Act3) : (Avl.stepT tb t a).list = stepS tb t.list a ∧ T.Up (rankOf tb) (Avl.stepT tb t a).list := by
  unfold Avl.stepT stepS
  by_cases h0 : a.1 = 0
  · rw [if_pos h0, if_pos h0]
    have := T.list_ins (rk := rankOf tb) (key := a.2.1) (val := a.2.2) hu
    exact ⟨this, by rw [this]; exact T.up_putL hu⟩
  · rw [if_neg h0, if_neg h0]
    by_cases h1 : a.1 = 1
    · rw [if_pos h1, if_pos h1]
      have := T.list_rem (rk := rankOf tb) a.2.1 hu
      exact ⟨this, by rw [this]; exact T.up_remL hu⟩
    · rw [if_neg h1, if_neg h1]
      exact ⟨rfl, hu⟩
theorem told_rel (tb : List Int) : ∀ (l : List Avl.Act3) (t : T), T.Up (rankOf tb) t.list → ∀ (i : Nat) (a : Avl.Act3), l[i]? = some a →
    ∃ x y, (Avl.toldT tb t l)[i]? = some x ∧ (toldS tb t.list l)[i]? = some y ∧ (a.1 ≠ 5 → x = y) ∧ x.2.2.1 = y.2.2.1
  | [], _, _, i, a, h => by simp at h
  | b :: l, t, hu, 0, a, h => by
    obtain rfl : b = a := by simpa using h
    exact ⟨_, _, rfl, rfl, tell_same tb t hu b, tell_keys tb t hu b⟩
  | b :: l, t, hu, i + 1, a, h => by
    obtain ⟨e, hu'⟩ := step_same tb t hu b
    have := told_rel tb l (Avl.stepT tb t b) hu' i a (by simpa using h)
    rw [e] at this
    simpa [Avl.toldT, toldS] using this
theorem toldS_length (tb : List Int) : ∀ (l : List Avl.Act3) (L : List (Int × Int)), (toldS tb L l).length = l.length
  | [], _ => rfl
  | a :: l, L => by simp [toldS, toldS_length tb l]
theorem up_nil (tb : List Int) : T.Up (rankOf tb) T.nil.list := List.Pairwise.nil
theorem rd_rel (tb : List Int) (l1 : List S66) (i : Nat) (hi : i < l1.length) :
    ((rd_T66 l1 i).f0 ≠ 5 → rd_T46 ((Avl.toldT tb .nil (l1.map fun x => (x.f0, x.f1, x.f2))).map told_of) i = rd_T46 ((toldS tb [] (l1.map fun x => (x.f0, x.f1, x.f2))).map told_of) i) ∧
    (rd_T46 ((Avl.toldT tb .nil (l1.map fun x => (x.f0, x.f1, x.f2))).map told_of) i).f2 = (rd_T46 ((toldS tb [] (l1.map fun x => (x.f0, x.f1, x.f2))).map told_of) i).f2 := by
  have hr : rd_T66 l1 i = l1[i] := by simp [rd_T66, List.getD_eq_getElem?_getD, hi]
  obtain ⟨x, y, h1, h2, h3, h4⟩ := told_rel tb (l1.map fun x => (x.f0, x.f1, x.f2)) .nil (up_nil tb) i (l1[i].f0, l1[i].f1, l1[i].f2) (by simp [hi])
  have h2' : (toldS tb [] (l1.map fun x => (x.f0, x.f1, x.f2)))[i]? = some y := h2
  have e1 : rd_T46 ((Avl.toldT tb .nil (l1.map fun x => (x.f0, x.f1, x.f2))).map told_of) i = told_of x := by
    simp only [rd_T46, List.getD_eq_getElem?_getD, Int.toNat_natCast, List.getElem?_map, h1]; rfl
  have e2 : rd_T46 ((toldS tb [] (l1.map fun x => (x.f0, x.f1, x.f2))).map told_of) i = told_of y := by
    simp only [rd_T46, List.getD_eq_getElem?_getD, Int.toNat_natCast, List.getElem?_map, h2']; rfl
  rw [e1, e2, hr]
  exact ⟨fun h => by rw [h3 h], h4⟩
theorem same_loop (l : List Int) (hl : l.length ≤ 140737488351232) : ∀ (d : Nat) (i : Int), 0 ≤ i → ((l.length : Int) - i).toNat ≤ d → Ev (fun k => spec_Same.l0 k l l i) true := by
  intro d
  induction d with
  | zero => intro i h0 hd; exact Ev.step (f := fun _ => some true) (fun k => by simp only [spec_Same.l0]; rw [if_neg (by omega)]) (Ev.now _)
  | succ d ih =>
    intro i h0 hd
    by_cases hi : i < (l.length : Int)
    · exact Ev.step (fun k => by simp only [spec_Same.l0]; rw [if_pos hi, if_pos h0, if_pos hi, if_pos trivial, wrap64_in _ (by omega)]) (ih (i + 1) (by omega) (by omega))
    · exact Ev.step (f := fun _ => some true) (fun k => by simp only [spec_Same.l0]; rw [if_neg hi]) (Ev.now _)
theorem same_ev (l : List Int) (hl : l.length ≤ 140737488351232) : Ev (fun k => spec_Same.f k l l) true := by
  unfold spec_Same.f
  exact Ev.congr (fun k => if_pos rfl) (same_loop l hl l.length 0 (by omega) (by omega))
/-- What is told has no more keys than the map. -/
theorem toldS_keys (tb : List Int) : ∀ (l : List Avl.Act3) (L : List (Int × Int)) (y : Avl.Told4), y ∈ toldS tb L l → y.2.2.1.length ≤ L.length + l.length ∧ y.2.2.2.length = y.2.2.1.length
  | [], _, y, h => by simp [toldS] at h
  | a :: l, L, y, h => by
    rcases List.mem_cons.1 h with rfl | h
    · unfold tellS
      repeat' split
      all_goals simp <;> omega
    · obtain ⟨h1, h2⟩ := toldS_keys tb l _ y h
      have := stepS_len tb L a
      simp only [List.length_cons]
      exact ⟨by omega, h2⟩
theorem rd_keys (tb : List Int) (l1 : List S66) (i : Nat) (hi : i < l1.length) :
    (rd_T46 ((toldS tb [] (l1.map fun x => (x.f0, x.f1, x.f2))).map told_of) i).f2.length ≤ l1.length ∧ (rd_T46 ((toldS tb [] (l1.map fun x => (x.f0, x.f1, x.f2))).map told_of) i).f3.length = (rd_T46 ((toldS tb [] (l1.map fun x => (x.f0, x.f1, x.f2))).map told_of) i).f2.length := by
  obtain ⟨x, y, h1, h2, _⟩ := told_rel tb (l1.map fun x => (x.f0, x.f1, x.f2)) .nil (up_nil tb) i (l1[i].f0, l1[i].f1, l1[i].f2) (by simp [hi])
  have h2' : (toldS tb [] (l1.map fun x => (x.f0, x.f1, x.f2)))[i]? = some y := h2
  have e2 : rd_T46 ((toldS tb [] (l1.map fun x => (x.f0, x.f1, x.f2))).map told_of) i = told_of y := by
    simp only [rd_T46, List.getD_eq_getElem?_getD, Int.toNat_natCast, List.getElem?_map, h2']; rfl
  rw [e2]
  have := toldS_keys tb _ [] y (List.mem_of_getElem? h2')
  simpa [told_of] using this
theorem first_loop (n : Nat) (xs ys : List S46) (hl : n ≤ 2147483647) (hx : xs.length = n) (hy : ys.length = n)
    (h : ∀ i : Nat, i < n → (rd_T46 xs i).f2 = (rd_T46 ys i).f2 ∧ (rd_T46 ys i).f2.length ≤ n) :
    ∀ (d : Nat) (i : Nat), n - i ≤ d → Ev (fun k => laws_FnAvlFirst.l0 k xs ys i) true := by
  intro d
  induction d with
  | zero => intro i hd; exact Ev.step (f := fun _ => some true) (fun k => by simp only [laws_FnAvlFirst.l0]; rw [if_neg (by omega)]) (Ev.now _)
  | succ d ih =>
    intro i hd
    by_cases hi : i < n
    · have hn := ih (i + 1) (by omega)
      have hw : wrap64 ((i : Int) + 1) = ((i + 1 : Nat) : Int) := by rw [wrap64_in _ (by omega)]; simp
      obtain ⟨he, hk⟩ := h i hi
      refine Ev.step (fun k => ?_) (Ev.bind (f := fun k b => if b = true then laws_FnAvlFirst.l0 k xs ys ((i + 1 : Nat) : Int) else some false) (same_ev (rd_T46 ys i).f2 (by omega)) (Ev.congr (fun k => if_pos rfl) hn))
      simp only [laws_FnAvlFirst.l0]
      rw [if_pos (by omega), if_pos (by omega), if_pos (by omega), he, hw]
    · exact Ev.step (f := fun _ => some true) (fun k => by simp only [laws_FnAvlFirst.l0]; rw [if_neg (by omega)]) (Ev.now _)
/-- The law, in plain numbers and lists. -/
theorem law (tb : List Int) (l1 : List S66) : ∃ k, laws_FnAvlFirst.f k tb l1 = some true := by
  refine Ev.rounds (g := fun k => laws_FnAvlFirst.f k tb l1) ?_
  have hyes : Ev (fun k => laws_FnAvlFirst.j0 k tb l1 true) true := Ev.step (f := fun _ => some true) (fun k => by simp only [laws_FnAvlFirst.j0]; rfl) (Ev.now _)
  unfold laws_FnAvlFirst.f
  by_cases h0 : (tb.length : Int) > 2147483647
  · exact Ev.congr (fun k => if_pos h0) hyes
  · refine Ev.congr (fun k => if_neg h0) ?_
    by_cases h1 : (l1.length : Int) > 2147483647
    · rw [decide_eq_true h1]; exact hyes
    · rw [decide_eq_false h1]
      have ht : tb.length ≤ 2147483647 := by omega
      have hl : l1.length ≤ 2147483647 := by omega
      have e1 : impl_AvlRun.f tb l1 = some ((Avl.toldT tb .nil (l1.map fun x => (x.f0, x.f1, x.f2))).map told_of) := by unfold impl_AvlRun.f; rw [if_pos ht, if_pos hl]
      have e2 : spec_Trees.f tb l1 = some ((toldS tb [] (l1.map fun x => (x.f0, x.f1, x.f2))).map told_of) := by unfold spec_Trees.f; rw [if_pos ht, if_pos hl]
      have hx : ((Avl.toldT tb .nil (l1.map fun x => (x.f0, x.f1, x.f2))).map told_of).length = l1.length := by simp [toldT_length]
      have hy : ((toldS tb [] (l1.map fun x => (x.f0, x.f1, x.f2))).map told_of).length = l1.length := by simp [toldS_length]
      refine Ev.step (fun k => ?_) (first_loop l1.length _ _ hl hx hy (fun i hi => ⟨(rd_rel tb l1 i hi).2, (rd_keys tb l1 i hi).1⟩) l1.length 0 (by omega))
      simp only [laws_FnAvlFirst.j0]
      rw [if_neg (by decide), e1, Option.bind_some, e2, Option.bind_some, if_pos (by rw [hx, hy])]
      rfl
end Go.Proofs.Ytjlcebgfknfelaa.AvlFirstPure
