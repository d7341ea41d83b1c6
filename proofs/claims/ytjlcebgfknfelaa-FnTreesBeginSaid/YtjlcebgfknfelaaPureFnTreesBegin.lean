/- What a tree tells of a script's beginning is the beginning of what it tells of the whole: for every script, every order and every length. -/
import Derived.Test.YtjlcebgfknfelaaQFnTreesBeginx2
import Derived.IntWalk
namespace Go.Proofs.Ytjlcebgfknfelaa.TreesBeginPure
open Go.RowKit Go.IntWalk Go.Proofs.Ytjlcebgfknfelaa.QFnTreesBegin Go.Proofs.YtjlcebgfknfelaaW.PrintWords Go.Proofs.YtjlcebgfknfelaaW.PrintLast Go.Proofs.Ytjlcebgfknfelaa.Less
/-! ### What a script tells at its beginning, and how much -/
theorem avl_take (tb : List Int) : ∀ (l : List Avl.Act3) (t : AvlPure.T) (n : Nat), Avl.toldT tb t (l.take n) = (Avl.toldT tb t l).take n
  | [], t, n => by simp [Avl.toldT]
  | a :: l, t, 0 => by simp [Avl.toldT]
  | a :: l, t, n + 1 => by simp [Avl.toldT, avl_take tb l]
theorem bt_take (tb : List Int) : ∀ (l : List Avl.Act3) (t : List BtPure.E) (n : Nat), Bt.toldT tb t (l.take n) = (Bt.toldT tb t l).take n
  | [], t, n => by simp [Bt.toldT]
  | a :: l, t, 0 => by simp [Bt.toldT]
  | a :: l, t, n + 1 => by simp [Bt.toldT, bt_take tb l]
theorem avl_step_size (tb : List Int) (t : AvlPure.T) (a : Avl.Act3) : (Avl.stepT tb t a).size ≤ t.size + 1 := by
  unfold Avl.stepT
  split
  · exact AvlPure.T.size_ins _ _ _ t
  · split
    · have := AvlPure.T.size_rem (rankOf tb) t a.2.1; omega
    · omega
theorem avl_small (tb : List Int) : ∀ (l : List Avl.Act3) (t : AvlPure.T) (y : Avl.Told4), y ∈ Avl.toldT tb t l → (y.2.2.1.length : Int) ≤ t.size + l.length ∧ y.2.2.2.length = y.2.2.1.length
  | [], _, y, h => by simp [Avl.toldT] at h
  | a :: l, t, y, h => by
    have hs := AvlPure.T.size_nonneg t
    rcases List.mem_cons.1 h with rfl | h
    · have hk := Avl.keys_length t
      have hv := Avl.vals_length t
      unfold Avl.tellT
      repeat' split
      all_goals refine ⟨?_, ?_⟩
      all_goals first | exact hv | rfl | (simp only [List.length_cons, List.length_nil]; omega)
    · obtain ⟨h1, h2⟩ := avl_small tb l _ y h
      have := avl_step_size tb t a
      simp only [List.length_cons]
      exact ⟨by omega, h2⟩
theorem bt_step_len (tb : List Int) (t : List BtPure.E) (a : Avl.Act3) : (Bt.stepT tb t a).length ≤ t.length + 1 := by
  unfold Bt.stepT
  split
  · exact BtPure.len_insL.1
  · split
    · split
      · exact BtPure.len_insL.1
      · omega
    · omega
theorem bt_small (tb : List Int) : ∀ (l : List Avl.Act3) (t : List BtPure.E) (y : Avl.Told4), y ∈ Bt.toldT tb t l → y.2.2.1.length ≤ t.length + l.length ∧ y.2.2.2.length = y.2.2.1.length
  | [], _, y, h => by simp [Bt.toldT] at h
  | a :: l, t, y, h => by
    rcases List.mem_cons.1 h with rfl | h
    · have hk : (Bt.keysV t).length ≤ t.length := by rw [Bt.keysV, List.length_map]; exact List.length_filter_le ..
      have hv := Bt.valsV_len t
      unfold Bt.tellT
      repeat' split
      all_goals refine ⟨?_, ?_⟩
      all_goals first | exact hv | rfl | (simp only [List.length_cons, List.length_nil]; omega)
    · obtain ⟨h1, h2⟩ := bt_small tb l _ y h
      have := bt_step_len tb t a
      simp only [List.length_cons]
      exact ⟨by omega, h2⟩
theorem same_loop (l : List Int) (hl : l.length ≤ 140737488351232) : ∀ (d : Nat) (i : Int), 0 ≤ i → ((l.length : Int) - i).toNat ≤ d → Ev (fun k => spec_Same.l0 k l l i) true := by
  intro d
  induction d with
  | zero => intro i h0 hd; exact Ev.step (f := fun _ => some true) (fun k => by simp only [spec_Same.l0]; rw [if_neg (by omega)]) (Ev.now _)
  | succ d ih =>
    intro i h0 hd
    by_cases hi : i < (l.length : Int)
    · exact Ev.step (fun k => by simp only [spec_Same.l0]; rw [if_pos hi, if_pos h0, if_pos hi, if_pos trivial, wrap64_in _ (by omega)]) (ih (i + 1) (by omega) (by omega))
    · exact Ev.step (f := fun _ => some true) (fun k => by simp only [spec_Same.l0]; rw [if_neg hi]) (Ev.now _)
theorem same_ev (l : List Int) (hl : l.length ≤ 140737488351232) : Ev (fun k => spec_Same.f k l l) true := by
  unfold spec_Same.f
  exact Ev.congr (fun k => if_pos rfl) (same_loop l hl l.length 0 (by omega) (by omega))
theorem treeSame_ev (a : Int) (b : Bool) (ks vs : List Int) (hl : ks.length ≤ 140737488351232) (hv : vs.length ≤ 140737488351232) : Ev (fun k => laws_treeSame.f k a b ks vs a b ks vs) true := by
  unfold laws_treeSame.f
  refine Ev.congr (fun k => if_pos rfl) (Ev.congr (fun k => if_pos (by simp)) (Ev.bind (same_ev ks hl) ?_))
  exact Ev.congr (fun k => if_pos rfl) (Ev.bind (same_ev vs hv) (Ev.now _))
/-- What is told is small enough. -/
def Small (xs : List S46) : Prop := ∀ x ∈ xs, x.f2.length ≤ 140737488351232 ∧ x.f3.length ≤ 140737488351232
theorem rd_take (xs : List S46) (n : Nat) (i : Int) (h0 : 0 ≤ i) (hi : i < n) : rd_T46 (xs.take n) i = rd_T46 xs i := by
  unfold rd_T46
  rw [List.getD_eq_getElem?_getD, List.getD_eq_getElem?_getD, List.getElem?_take_of_lt (by omega)]
theorem small_rd {xs : List S46} (h : Small xs) (i : Int) (h0 : 0 ≤ i) (hi : i < xs.length) : (rd_T46 xs i).f2.length ≤ 140737488351232 ∧ (rd_T46 xs i).f3.length ≤ 140737488351232 := by
  have : rd_T46 xs i = xs[i.toNat]'(by omega) := by
    unfold rd_T46
    rw [List.getD_eq_getElem?_getD, List.getElem?_eq_getElem (by omega)]; rfl
  rw [this]
  exact h _ (List.getElem_mem _)
theorem begin_loop (xs ys : List S46) (n : Nat) (hx : Small xs) (hy : Small ys) (hn : n ≤ xs.length) (hm : n ≤ ys.length) (hb : n ≤ 2147483647) :
    ∀ (d : Nat) (i : Int), 0 ≤ i → ((n : Int) - i).toNat ≤ d → Ev (fun k => laws_FnTreesBegin.l0 k n xs ys (xs.take n) (ys.take n) i) true := by
  have l1 : (xs.take n).length = n := by rw [List.length_take]; omega
  have l2 : (ys.take n).length = n := by rw [List.length_take]; omega
  intro d
  induction d with
  | zero => intro i h0 hd; exact Ev.step (f := fun _ => some true) (fun k => by simp only [laws_FnTreesBegin.l0]; rw [if_neg (by omega)]) (Ev.now _)
  | succ d ih =>
    intro i h0 hd
    by_cases hi : i < (n : Int)
    · have a := small_rd hx i h0 (by omega)
      have b := small_rd hy i h0 (by omega)
      have s1 := treeSame_ev (rd_T46 xs i).f0 (rd_T46 xs i).f1 (rd_T46 xs i).f2 (rd_T46 xs i).f3 a.1 a.2
      have s2 := treeSame_ev (rd_T46 ys i).f0 (rd_T46 ys i).f1 (rd_T46 ys i).f2 (rd_T46 ys i).f3 b.1 b.2
      have last := ih (i + 1) (by omega) (by omega)
      refine Ev.step (fun k => ?_) (Ev.bind (f := fun k b => if b = true then
          (laws_treeSame.f k (rd_T46 ys i).f0 (rd_T46 ys i).f1 (rd_T46 ys i).f2 (rd_T46 ys i).f3 (rd_T46 ys i).f0 (rd_T46 ys i).f1 (rd_T46 ys i).f2 (rd_T46 ys i).f3).bind
            fun b => if b = true then laws_FnTreesBegin.l0 k n xs ys (xs.take n) (ys.take n) (i + 1) else none
        else none) s1 (Ev.congr (fun k => if_pos rfl) (Ev.bind (f := fun k b => if b = true then laws_FnTreesBegin.l0 k n xs ys (xs.take n) (ys.take n) (i + 1) else none) s2 (Ev.congr (fun k => if_pos rfl) last))))
      simp only [laws_FnTreesBegin.l0]
      rw [if_pos hi, if_pos h0, if_pos (by omega), if_pos (by omega), rd_take xs n i h0 hi, rd_take ys n i h0 hi, if_pos (by omega : i < ((ys.take n).length : Int)), if_pos (by omega : i < (ys.length : Int)), wrap64_in _ (by omega)]
    · exact Ev.step (f := fun _ => some true) (fun k => by simp only [laws_FnTreesBegin.l0]; rw [if_neg hi]) (Ev.now _)
theorem law (tb : List Int) (l1 : List S66) (a : Int) : ∃ k, laws_FnTreesBegin.f k tb l1 a = some true := by
  refine Ev.rounds (g := fun k => laws_FnTreesBegin.f k tb l1 a) ?_
  have hyes : Ev (fun k => laws_FnTreesBegin.j0 k tb l1 a true) true := Ev.step (f := fun _ => some true) (fun k => by simp only [laws_FnTreesBegin.j0]; rfl) (Ev.now _)
  unfold laws_FnTreesBegin.f
  by_cases h0 : (tb.length : Int) > 2147483647
  · exact Ev.congr (fun k => if_pos h0) hyes
  refine Ev.congr (fun k => if_neg h0) ?_
  by_cases h1 : (l1.length : Int) > 2147483647
  · rw [decide_eq_true h1]; exact hyes
  rw [decide_eq_false h1]
  have ht : tb.length ≤ 2147483647 := by omega
  have hl : l1.length ≤ 2147483647 := by omega
  have e1 : ∀ l : List S66, l.length ≤ 2147483647 → impl_AvlRun.f tb l = some ((Avl.toldT tb .nil (l.map fun x => (x.f0, x.f1, x.f2))).map told_of) := fun l h => by unfold impl_AvlRun.f; rw [if_pos ht, if_pos (by omega)]
  have e2 : ∀ l : List S66, l.length ≤ 2147483647 → impl_BtreeRun.f tb l = some ((Bt.toldT tb [] (l.map fun x => (x.f0, x.f1, x.f2))).map told_of) := fun l h => by unfold impl_BtreeRun.f; rw [if_pos ht, if_pos (by omega)]
  have ea : wrap64 ((l1.length : Int) + 1) = (l1.length : Int) + 1 := wrap64_in _ (by omega)
  have bd := tmod_bd a ((l1.length : Int) + 1) (by omega)
  have eb : wrap64 (a.tmod ((l1.length : Int) + 1) + (l1.length : Int)) = a.tmod ((l1.length : Int) + 1) + (l1.length : Int) := wrap64_in _ (by omega)
  have ec : wrap64 (a.tmod ((l1.length : Int) + 1) + (l1.length : Int) + 1) = a.tmod ((l1.length : Int) + 1) + (l1.length : Int) + 1 := wrap64_in _ (by omega)
  obtain ⟨n, hn⟩ : ∃ n : Nat, (n : Int) = (a.tmod ((l1.length : Int) + 1) + (l1.length : Int) + 1).tmod ((l1.length : Int) + 1) := ⟨_, Int.toNat_of_nonneg (by rw [Int.tmod_eq_emod_of_nonneg (by omega)]; exact Int.emod_nonneg _ (by omega))⟩
  have hm : n ≤ l1.length := by
    have : (n : Int) < (l1.length : Int) + 1 := by rw [hn, Int.tmod_eq_emod_of_nonneg (by omega)]; exact Int.emod_lt_of_pos _ (by omega)
    omega
  have ltk : (l1.take n).length = n := by rw [List.length_take]; omega
  generalize hxs : (Avl.toldT tb .nil (l1.map fun x => (x.f0, x.f1, x.f2))).map told_of = xs
  generalize hys : (Bt.toldT tb [] (l1.map fun x => (x.f0, x.f1, x.f2))).map told_of = ys
  have lx : xs.length = l1.length := by rw [← hxs]; simp [Avl.toldT_length]
  have ly : ys.length = l1.length := by rw [← hys]; simp [Bt.toldT_length]
  have tx : (Avl.toldT tb .nil ((l1.take n).map fun x => (x.f0, x.f1, x.f2))).map told_of = xs.take n := by rw [← hxs, List.map_take, avl_take, List.map_take]
  have ty : (Bt.toldT tb [] ((l1.take n).map fun x => (x.f0, x.f1, x.f2))).map told_of = ys.take n := by rw [← hys, List.map_take, bt_take, List.map_take]
  have sx : Small xs := by
    intro x hx
    rw [← hxs] at hx
    obtain ⟨y, hy, rfl⟩ := List.mem_map.1 hx
    have := avl_small tb _ _ y hy
    simp only [List.length_map, AvlPure.T.size] at this
    simp only [told_of]
    omega
  have sy : Small ys := by
    intro x hx
    rw [← hys] at hx
    obtain ⟨y, hy, rfl⟩ := List.mem_map.1 hx
    have := bt_small tb _ _ y hy
    simp only [List.length_map, List.length_nil] at this
    simp only [told_of]
    omega
  have lxn : (xs.take n).length = n := by rw [List.length_take]; omega
  have lyn : (ys.take n).length = n := by rw [List.length_take]; omega
  refine Ev.step (f := fun k => laws_FnTreesBegin.j1 k tb l1 n xs ys false) (fun k => ?_) (Ev.step (f := fun k => laws_FnTreesBegin.j2 k n xs ys (xs.take n) (ys.take n) false) (fun k => ?_) (Ev.step (f := fun k => laws_FnTreesBegin.l0 k n xs ys (xs.take n) (ys.take n) 0) (fun k => ?_) (begin_loop xs ys n sx sy (by omega) (by omega) (by omega) n 0 (by omega) (by omega))))
  · simp only [laws_FnTreesBegin.j0]
    rw [if_neg (by decide), ea, if_neg (by omega), e1 l1 hl, hxs, Option.bind_some, e2 l1 hl, hys, Option.bind_some, if_pos (by omega), eb, ec, ← hn, ly]
    simp
  · simp only [laws_FnTreesBegin.j1]
    rw [if_neg (by decide), if_pos (by omega), if_pos (by omega), Int.toNat_natCast, e1 _ (by omega), tx, Option.bind_some, e2 _ (by omega), ty, Option.bind_some, if_pos (by omega), lyn]
    simp
  · simp only [laws_FnTreesBegin.j2]
    rw [if_neg (by decide)]
end Go.Proofs.Ytjlcebgfknfelaa.TreesBeginPure
