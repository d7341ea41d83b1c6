/- Where all lies as a heap but one number, which may be too small, it does so behind that one has gone up: for every table, row, place and number. -/
import Derived.Test.YtmhnhfmkcipcpaaQFnHeapUpx2
import Derived.IntWalk
namespace Go.Proofs.Ytmhnhfmkcipcpaa.Pure
open Go.RowKit Go.IntWalk Go.Proofs.Ytmhnhfmkcipcpaa.QFnHeapUp Go.Proofs.YtmhnhfmkcipcpaaW.PrintWords Go.Proofs.YtmhnhfmkcipcpaaW.PrintLast

theorem w1 (q : Nat) (h : q ≤ 1099511627776) : wrap64 ((q : Int) + 1) = ((q + 1 : Nat) : Int) := by rw [wrap64_in _ (by omega)]; rfl
theorem w2 (q : Nat) (h : q ≤ 1099511627776) : wrap64 ((q : Int) + 2) = ((q + 2 : Nat) : Int) := by rw [wrap64_in _ (by omega)]; rfl
theorem wm1 (q : Nat) (h0 : 0 < q) (h : q ≤ 1099511627776) : wrap64 ((q : Int) - 1) = ((q - 1 : Nat) : Int) := by rw [wrap64_in _ (by omega)]; omega
theorem rank_some (tb : List Int) (ht : tb.length ≤ 2147483647) (k : Int) : spec_Rank.f tb k = some (Less.rankOf tb k) := by
  unfold spec_Rank.f Less.rankOf
  by_cases h : tb = []
  · subst h; rfl
  · have hp : 0 < tb.length := List.length_pos_iff.2 h
    have b := Less.tmod_bd k tb.length (by omega)
    have ea : wrap64 (k.tmod tb.length + tb.length) = k.tmod tb.length + tb.length := wrap64_in _ (by omega)
    have et : (k.tmod tb.length + tb.length).tmod tb.length = k % tb.length := by rw [Int.tmod_eq_emod_of_nonneg (by omega)]; exact b.2.2
    have a0 := Int.emod_nonneg k (show (tb.length : Int) ≠ 0 by omega)
    have a1 := Int.emod_lt_of_pos k (show (0 : Int) < tb.length by omega)
    rw [if_neg (by omega), if_neg h, ea, et, if_pos a0, if_pos a1]
theorem alike_nil (a b : Int) : spec_Alike.f [] a b = some (a == b) := rfl
theorem rd_at (xs : List Int) (i : Nat) : rd xs (i : Int) = HeapPure.at_ xs i := rfl
theorem drop_count (a : List Int) (x : Int) (j : Nat) (h : j < a.length) : (a.drop j).count x = (if HeapPure.at_ a j = x then 1 else 0) + (a.drop (j + 1)).count x := by
  rw [List.drop_eq_getElem_cons h, List.count_cons]
  have e : HeapPure.at_ a j = a[j] := by simp [HeapPure.at_, List.getD_eq_getElem?_getD, h]
  rw [e]
  simp only [beq_iff_eq]
  omega
/-- Two rows with the same numbers, as often, are told so. -/
theorem bag_inner (a b : List Int) (hab : a.length = b.length) (hl : a.length ≤ 1099511627776) (i : Nat) (hi : i < a.length) (x : Int) (hx : HeapPure.at_ a i = x) (r : Bool) (N M : Nat)
    (hr : Ev (fun k => if (N : Int) = (M : Int) then spec_BagRows.l0 k [] a b (wrap64 ((i : Int) + 1)) else some false) r) (d : Nat) : ∀ (j n m : Nat), j + d = a.length → n + (a.drop j).count x = N → m + (b.drop j).count x = M → n ≤ j → m ≤ j →
    Ev (fun k => spec_BagRows.l1 k [] a b i n m j) r := by
  induction d with
  | zero =>
    intro j n m hj hn hm _ _
    rw [Nat.add_zero] at hj
    have hn' : n = N := by rw [List.drop_of_length_le (Nat.le_of_eq hj.symm), List.count_nil, Nat.add_zero] at hn; exact hn
    have hm' : m = M := by rw [List.drop_of_length_le (Nat.le_of_eq (hab.symm.trans hj.symm)), List.count_nil, Nat.add_zero] at hm; exact hm
    subst hn'; subst hm'
    refine Ev.step (fun k => ?_) hr
    have h0 : ¬ (j : Int) < (a.length : Int) := by clear hn hm hr; omega
    simp only [spec_BagRows.l1]
    rw [if_neg h0]
  | succ d ih =>
    intro j n m hj hn hm bn bm
    have hja : j < a.length := by clear hn hm hr ih; omega
    have hjb : j < b.length := hab ▸ hja
    have g1 : (j : Int) < (a.length : Int) := Int.ofNat_lt.2 hja
    have g2 : (0 : Int) ≤ (i : Int) := Int.natCast_nonneg _
    have g3 : (i : Int) < (a.length : Int) := Int.ofNat_lt.2 hi
    have g4 : (0 : Int) ≤ (j : Int) := Int.natCast_nonneg _
    have g5 : (j : Int) < (b.length : Int) := Int.ofNat_lt.2 hjb
    have E : ∀ q : Nat, q ≤ j → wrap64 ((q : Int) + 1) = ((q + 1 : Nat) : Int) := fun q hq => by clear hn hm hr ih; rw [wrap64_in _ (by omega)]; rfl
    have j1 : j + 1 + d = a.length := by clear hn hm hr ih; omega
    rw [drop_count a _ j hja] at hn
    rw [drop_count b _ j hjb] at hm
    have ih' := ih (j + 1)
    generalize (a.drop (j + 1)).count x = ca at hn ih'
    generalize (b.drop (j + 1)).count x = cb at hm ih'
    clear ih hr
    have ra : rd a (j : Int) = HeapPure.at_ a j := rfl
    have rb : rd b (j : Int) = HeapPure.at_ b j := rfl
    have rx : rd a (i : Int) = x := hx
    generalize HeapPure.at_ a j = u at hn ra
    generalize HeapPure.at_ b j = v at hm rb
    by_cases q1 : u = x
    · rw [if_pos q1] at hn
      by_cases q2 : v = x
      · rw [if_pos q2] at hm
        refine Ev.step (fun k => ?_) (ih' (n + 1) (m + 1) j1 (by omega) (by omega) (by omega) (by omega))
        simp only [spec_BagRows.l1]
        rw [if_pos g1, if_pos g2, if_pos g3, if_pos g4, rx, ra, alike_nil, Option.bind_some, if_pos (beq_iff_eq.2 q1.symm), if_pos g5, rb, alike_nil, Option.bind_some, if_pos (beq_iff_eq.2 q2.symm), E j (Nat.le_refl _), E n bn, E m bm]
      · rw [if_neg q2] at hm
        refine Ev.step (fun k => ?_) (ih' (n + 1) m j1 (by omega) (by omega) (by omega) (by omega))
        simp only [spec_BagRows.l1]
        rw [if_pos g1, if_pos g2, if_pos g3, if_pos g4, rx, ra, alike_nil, Option.bind_some, if_pos (beq_iff_eq.2 q1.symm), if_pos g5, rb, alike_nil, Option.bind_some, if_neg (by rw [beq_iff_eq]; exact fun e => q2 e.symm), E j (Nat.le_refl _), E n bn]
    · rw [if_neg q1] at hn
      by_cases q2 : v = x
      · rw [if_pos q2] at hm
        refine Ev.step (fun k => ?_) (ih' n (m + 1) j1 (by omega) (by omega) (by omega) (by omega))
        simp only [spec_BagRows.l1]
        rw [if_pos g1, if_pos g2, if_pos g3, if_pos g4, rx, ra, alike_nil, Option.bind_some, if_neg (by rw [beq_iff_eq]; exact fun e => q1 e.symm), if_pos g5, rb, alike_nil, Option.bind_some, if_pos (beq_iff_eq.2 q2.symm), E j (Nat.le_refl _), E m bm]
      · rw [if_neg q2] at hm
        refine Ev.step (fun k => ?_) (ih' n m j1 (by omega) (by omega) (by omega) (by omega))
        simp only [spec_BagRows.l1]
        rw [if_pos g1, if_pos g2, if_pos g3, if_pos g4, rx, ra, alike_nil, Option.bind_some, if_neg (by rw [beq_iff_eq]; exact fun e => q1 e.symm), if_pos g5, rb, alike_nil, Option.bind_some, if_neg (by rw [beq_iff_eq]; exact fun e => q2 e.symm), E j (Nat.le_refl _)]
theorem bag_outer (a b : List Int) (hab : a.length = b.length) (hl : a.length ≤ 1099511627776) (hc : ∀ x, a.count x = b.count x) (d : Nat) : ∀ i : Nat, i + d = a.length → Ev (fun k => spec_BagRows.l0 k [] a b i) true := by
  induction d with
  | zero =>
    intro i hi
    refine Ev.step (f := fun _ => some true) (fun k => ?_) (Ev.now _)
    simp only [spec_BagRows.l0]
    rw [if_neg (by omega)]
  | succ d ih =>
    intro i hi
    refine Ev.step (fun k => ?_) (bag_inner a b hab hl i (by omega) _ rfl true (a.count (HeapPure.at_ a i)) (b.count (HeapPure.at_ a i)) ?_ a.length 0 0 0 (Nat.zero_add _) (by simp) (by simp) (Nat.le_refl _) (Nat.le_refl _))
    · simp only [spec_BagRows.l0]
      rw [if_pos (by omega)]
      rfl
    · refine Ev.congr (fun k => ?_) (ih (i + 1) (by omega))
      rw [if_pos (by rw [hc]), w1 i (by omega)]
theorem bag_ev (a b : List Int) (hl : a.length ≤ 1099511627776) (hab : a.length = b.length) (hc : ∀ x, a.count x = b.count x) : Ev (fun k => spec_BagRows.f k [] a b) true := by
  refine Ev.congr (fun k => ?_) (bag_outer a b hab hl hc a.length 0 (Nat.zero_add _))
  unfold spec_BagRows.f
  rw [if_pos (by omega)]
  rfl
theorem wpar (j : Nat) (h0 : 0 < j) (h : j ≤ 1099511627776) : wrap64 (Int.tdiv (wrap64 ((j : Int) - 1)) 2) = (((j - 1) / 2 : Nat) : Int) := by
  rw [wm1 j h0 h, Int.tdiv_eq_ediv_of_nonneg (by omega), wrap64_in _ (by omega)]
  omega
theorem tree_ev (tb : List Int) (ht : tb.length ≤ 2147483647) (xs : List Int) (hl : xs.length ≤ 1099511627776) (hh : HeapPure.Hp (Less.rankOf tb) xs) (d : Nat) : ∀ j : Nat, 0 < j → xs.length ≤ j + d → Ev (fun k => laws_heapTree.l0 k tb xs j) true := by
  induction d with
  | zero =>
    intro j h0 hj
    refine Ev.step (f := fun _ => some true) (fun k => ?_) (Ev.now _)
    simp only [laws_heapTree.l0]
    rw [if_neg (by omega)]
  | succ d ih =>
    intro j h0 hj
    by_cases hjl : j < xs.length
    · refine Ev.step (fun k => ?_) (ih (j + 1) (by omega) (by omega))
      have hle := hh j h0 hjl
      simp only [laws_heapTree.l0]
      rw [if_pos (by omega), if_pos (by omega), rank_some tb ht, Option.bind_some, wpar j h0 (by omega), if_pos (by omega), if_pos (by omega), rank_some tb ht, Option.bind_some, rd_at, rd_at, if_neg (by omega), w1 j (by omega)]
    · refine Ev.step (f := fun _ => some true) (fun k => ?_) (Ev.now _)
      simp only [laws_heapTree.l0]
      rw [if_neg (by omega)]
theorem heapTree_ev (tb : List Int) (ht : tb.length ≤ 2147483647) (xs : List Int) (hl : xs.length ≤ 1099511627776) (hh : HeapPure.Hp (Less.rankOf tb) xs) : Ev (fun k => laws_heapTree.f k tb xs) true :=
  tree_ev tb ht xs hl hh xs.length 1 (by omega) (by omega)
theorem idx_some (a : Int) (n : Nat) (h : 0 < n) (hn : n ≤ 2147483647) : ∃ i : Nat, i < n ∧ Int.tmod (wrap64 ((Int.tmod a (n : Int)) + (n : Int))) (n : Int) = (i : Int) := by
  have b := Less.tmod_bd a n (by omega)
  have a0 := Int.emod_nonneg a (show (n : Int) ≠ 0 by omega)
  have a1 := Int.emod_lt_of_pos a (show (0 : Int) < n by omega)
  refine ⟨(a % (n : Int)).toNat, by omega, ?_⟩
  rw [wrap64_in _ (by omega), Int.tmod_eq_emod_of_nonneg (by omega), b.2.2]
  omega
theorem set_up (r : Int → Int) (xs : List Int) (i : Nat) (y : Int) (hi : i < xs.length) (hh : HeapPure.Hp r xs) (hy : r y ≤ r (HeapPure.at_ xs i)) : HeapPure.UpOk r i (xs.set i y) := by
  refine ⟨fun k h0 hk hne => ?_, fun k h0 hk hp hi0 => ?_⟩
  · rw [List.length_set] at hk
    rw [HeapPure.at_set _ _ _ _ hi, HeapPure.at_set _ _ _ _ hi, if_neg hne]
    have := hh k h0 hk
    by_cases c : (k - 1) / 2 = i
    · rw [if_pos c]; rw [c] at this; exact Int.le_trans hy this
    · rw [if_neg c]; exact this
  · rw [List.length_set] at hk
    rw [HeapPure.at_set _ _ _ _ hi, HeapPure.at_set _ _ _ _ hi, if_neg (by omega), if_neg (by omega)]
    have h1 := hh k h0 hk
    have h2 := hh i hi0 hi
    rw [hp] at h1
    exact Int.le_trans h2 h1
theorem FnHeapUp : laws_FnHeapUp.Pure := by
  intro tb data at' x _ _ _ _ _ _ _ _
  by_cases c1 : (tb.length : Int) > 2147483647
  · exact ⟨1, by unfold laws_FnHeapUp.f; rw [if_pos c1]; rfl⟩
  by_cases c2 : (data.length : Int) > 2147483647
  · exact ⟨1, by unfold laws_FnHeapUp.f; rw [if_neg c1, decide_eq_true c2]; rfl⟩
  have ht : tb.length ≤ 2147483647 := by omega
  have hd : data.length ≤ 2147483647 := by omega
  obtain ⟨hh, hl, hcnt⟩ := HeapPure.made (Less.rankOf tb) 1 data
  have hrun : impl_HeapData.f tb 1 data [] = some (HeapPure.madeT (Less.rankOf tb) 1 data) := by
    unfold impl_HeapData.f
    rw [if_pos ⟨by omega, by omega, by simp⟩]
    rfl
  generalize HeapPure.madeT (Less.rankOf tb) 1 data = xs at hh hl hcnt hrun
  have hxl : xs.length ≤ 2147483647 := by omega
  clear hl hcnt
  by_cases h0 : xs.length = 0
  · refine ⟨1, ?_⟩
    unfold laws_FnHeapUp.f
    rw [if_neg c1, decide_eq_false c2]
    simp only [laws_FnHeapUp.j0]
    rw [if_neg (by simp), hrun, Option.bind_some, if_pos (by omega)]
    have hu : impl_HeapUp.f tb [1] 0 = some [1] := by
      unfold impl_HeapUp.f
      rw [if_pos ⟨by omega, by simp, by omega, by simp⟩]
      show some (HeapPure.upT _ [1] 0) = _
      rw [HeapPure.upT, if_pos rfl]
    rw [hu]
    rfl
  · obtain ⟨i, hi, hidx⟩ := idx_some at' xs.length (by omega) hxl
    -- what is gone up: the row with y at i
    have main : ∀ y, Less.rankOf tb y ≤ Less.rankOf tb (HeapPure.at_ xs i) → ∃ us, impl_HeapUp.f tb (xs.set i y) (i : Int) = some us ∧ Ev (fun k => (laws_heapTree.f k tb us).bind fun t => (if t = true then ((spec_BagRows.f k ([] : List Int) us (xs.set i y)).bind fun u => (some u)) else (some false))) true := by
      intro y hy
      have hil : i < (xs.set i y).length := by rw [List.length_set]; exact hi
      have hup := HeapPure.up_hp (Less.rankOf tb) i i _ (Nat.le_refl _) hil (set_up _ xs i y hi hh hy)
      have hul := HeapPure.upT_length (Less.rankOf tb) i i (xs.set i y) (Nat.le_refl _)
      have huc := fun a => HeapPure.upT_count (Less.rankOf tb) a i i (xs.set i y) (Nat.le_refl _) hil
      refine ⟨HeapPure.upT (Less.rankOf tb) (xs.set i y) i, ?_, ?_⟩
      · unfold impl_HeapUp.f
        rw [if_pos ⟨by omega, by rw [List.length_set]; omega, by omega, by omega⟩]
        rfl
      · generalize HeapPure.upT (Less.rankOf tb) (xs.set i y) i = us at hup hul huc
        have hull : us.length ≤ 1099511627776 := by rw [hul, List.length_set]; omega
        refine Ev.bind (f := fun k t => if t = true then ((spec_BagRows.f k ([] : List Int) us (xs.set i y)).bind fun u => (some u)) else (some false)) (heapTree_ev tb ht us hull hup) ?_
        refine Ev.congr (fun k => ?_) (Ev.bind (f := fun _ u => some u) (bag_ev us (xs.set i y) hull hul huc) (Ev.now true))
        rw [if_pos rfl]
    have hs : ((i : Int)).toNat = i := Int.toNat_natCast i
    by_cases hlt : Less.rankOf tb (HeapPure.at_ xs i) < Less.rankOf tb x
    · obtain ⟨us, hu, K, hK⟩ := main (HeapPure.at_ xs i) (Int.le_refl _)
      refine ⟨K + 1, ?_⟩
      unfold laws_FnHeapUp.f
      rw [if_neg c1, decide_eq_false c2]
      simp only [laws_FnHeapUp.j0]
      rw [if_neg (by simp), hrun, Option.bind_some, if_neg (by omega), hidx, if_pos (by omega), if_pos (by omega), rank_some tb ht, Option.bind_some, rank_some tb ht, Option.bind_some, rd_at, if_pos hlt, Option.bind_some, hs, hu, Option.bind_some]
      exact hK K (Nat.le_refl _)
    · obtain ⟨us, hu, K, hK⟩ := main x (by omega)
      refine ⟨K + 1, ?_⟩
      unfold laws_FnHeapUp.f
      rw [if_neg c1, decide_eq_false c2]
      simp only [laws_FnHeapUp.j0]
      rw [if_neg (by simp), hrun, Option.bind_some, if_neg (by omega), hidx, if_pos (by omega), if_pos (by omega), rank_some tb ht, Option.bind_some, rank_some tb ht, Option.bind_some, rd_at, if_neg hlt, Option.bind_some, hs, hu, Option.bind_some]
      exact hK K (Nat.le_refl _)
end Go.Proofs.Ytmhnhfmkcipcpaa.Pure
