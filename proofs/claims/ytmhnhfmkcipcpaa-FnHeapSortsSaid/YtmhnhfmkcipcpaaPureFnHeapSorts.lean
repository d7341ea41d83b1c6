/- What is popped of a heap is all that was there, never less than what came ahead: for every table and every row. -/
import Derived.Test.YtmhnhfmkcipcpaaQFnHeapSortsx2
import Derived.IntWalk
namespace Go.Proofs.Ytmhnhfmkcipcpaa.Pure
open Go.RowKit Go.IntWalk Go.Proofs.Ytmhnhfmkcipcpaa.QFnHeapSorts Go.Proofs.YtmhnhfmkcipcpaaW.PrintWords Go.Proofs.YtmhnhfmkcipcpaaW.PrintLast

theorem w1 (q : Nat) (h : q ≤ 1099511627776) : wrap64 ((q : Int) + 1) = ((q + 1 : Nat) : Int) := by rw [wrap64_in _ (by omega)]; rfl
theorem w2 (q : Nat) (h : q ≤ 1099511627776) : wrap64 ((q : Int) + 2) = ((q + 2 : Nat) : Int) := by rw [wrap64_in _ (by omega)]; rfl
theorem wm1 (q : Nat) (h0 : 0 < q) (h : q ≤ 1099511627776) : wrap64 ((q : Int) - 1) = ((q - 1 : Nat) : Int) := by rw [wrap64_in _ (by omega)]; omega
theorem rank_some (tb : List Int) (ht : tb.length ≤ 2147483647) (k : Int) : spec_Rank.f tb k = some (Less.rankOf tb k) := by
  unfold spec_Rank.f Less.rankOf
  by_cases h : tb = []
  · subst h; rfl
  · have hp : 0 < tb.length := List.length_pos_iff.2 h
    have b := Less.tmod_bd k tb.length (by omega)
    have ea : wrap64 (k.tmod tb.length + tb.length) = k.tmod tb.length + tb.length := wrap64_in _ (by omega)
    have et : (k.tmod tb.length + tb.length).tmod tb.length = k % tb.length := by rw [Int.tmod_eq_emod_of_nonneg (by omega)]; exact b.2.2
    have a0 := Int.emod_nonneg k (show (tb.length : Int) ≠ 0 by omega)
    have a1 := Int.emod_lt_of_pos k (show (0 : Int) < tb.length by omega)
    rw [if_neg (by omega), if_neg h, ea, et, if_pos a0, if_pos a1]
theorem alike_nil (a b : Int) : spec_Alike.f [] a b = some (a == b) := rfl
theorem rd_at (xs : List Int) (i : Nat) : rd xs (i : Int) = HeapPure.at_ xs i := rfl
theorem drop_count (a : List Int) (x : Int) (j : Nat) (h : j < a.length) : (a.drop j).count x = (if HeapPure.at_ a j = x then 1 else 0) + (a.drop (j + 1)).count x := by
  rw [List.drop_eq_getElem_cons h, List.count_cons]
  have e : HeapPure.at_ a j = a[j] := by simp [HeapPure.at_, List.getD_eq_getElem?_getD, h]
  rw [e]
  simp only [beq_iff_eq]
  omega
/-- Two rows with the same numbers, as often, are told so. -/
theorem bag_inner (a b : List Int) (hab : a.length = b.length) (hl : a.length ≤ 1099511627776) (i : Nat) (hi : i < a.length) (x : Int) (hx : HeapPure.at_ a i = x) (r : Bool) (N M : Nat)
    (hr : Ev (fun k => if (N : Int) = (M : Int) then spec_BagRows.l0 k [] a b (wrap64 ((i : Int) + 1)) else some false) r) (d : Nat) : ∀ (j n m : Nat), j + d = a.length → n + (a.drop j).count x = N → m + (b.drop j).count x = M → n ≤ j → m ≤ j →
    Ev (fun k => spec_BagRows.l1 k [] a b i n m j) r := by
  induction d with
  | zero =>
    intro j n m hj hn hm _ _
    rw [Nat.add_zero] at hj
    have hn' : n = N := by rw [List.drop_of_length_le (Nat.le_of_eq hj.symm), List.count_nil, Nat.add_zero] at hn; exact hn
    have hm' : m = M := by rw [List.drop_of_length_le (Nat.le_of_eq (hab.symm.trans hj.symm)), List.count_nil, Nat.add_zero] at hm; exact hm
    subst hn'; subst hm'
    refine Ev.step (fun k => ?_) hr
    have h0 : ¬ (j : Int) < (a.length : Int) := by clear hn hm hr; omega
    simp only [spec_BagRows.l1]
    rw [if_neg h0]
  | succ d ih =>
    intro j n m hj hn hm bn bm
    have hja : j < a.length := by clear hn hm hr ih; omega
    have hjb : j < b.length := hab ▸ hja
    have g1 : (j : Int) < (a.length : Int) := Int.ofNat_lt.2 hja
    have g2 : (0 : Int) ≤ (i : Int) := Int.natCast_nonneg _
    have g3 : (i : Int) < (a.length : Int) := Int.ofNat_lt.2 hi
    have g4 : (0 : Int) ≤ (j : Int) := Int.natCast_nonneg _
    have g5 : (j : Int) < (b.length : Int) := Int.ofNat_lt.2 hjb
    have E : ∀ q : Nat, q ≤ j → wrap64 ((q : Int) + 1) = ((q + 1 : Nat) : Int) := fun q hq => by clear hn hm hr ih; rw [wrap64_in _ (by omega)]; rfl
    have j1 : j + 1 + d = a.length := by clear hn hm hr ih; omega
    rw [drop_count a _ j hja] at hn
    rw [drop_count b _ j hjb] at hm
    have ih' := ih (j + 1)
    generalize (a.drop (j + 1)).count x = ca at hn ih'
    generalize (b.drop (j + 1)).count x = cb at hm ih'
    clear ih hr
    have ra : rd a (j : Int) = HeapPure.at_ a j := rfl
    have rb : rd b (j : Int) = HeapPure.at_ b j := rfl
    have rx : rd a (i : Int) = x := hx
    generalize HeapPure.at_ a j = u at hn ra
    generalize HeapPure.at_ b j = v at hm rb
    by_cases q1 : u = x
    · rw [if_pos q1] at hn
      by_cases q2 : v = x
      · rw [if_pos q2] at hm
        refine Ev.step (fun k => ?_) (ih' (n + 1) (m + 1) j1 (by omega) (by omega) (by omega) (by omega))
        simp only [spec_BagRows.l1]
        rw [if_pos g1, if_pos g2, if_pos g3, if_pos g4, rx, ra, alike_nil, Option.bind_some, if_pos (beq_iff_eq.2 q1.symm), if_pos g5, rb, alike_nil, Option.bind_some, if_pos (beq_iff_eq.2 q2.symm), E j (Nat.le_refl _), E n bn, E m bm]
      · rw [if_neg q2] at hm
        refine Ev.step (fun k => ?_) (ih' (n + 1) m j1 (by omega) (by omega) (by omega) (by omega))
        simp only [spec_BagRows.l1]
        rw [if_pos g1, if_pos g2, if_pos g3, if_pos g4, rx, ra, alike_nil, Option.bind_some, if_pos (beq_iff_eq.2 q1.symm), if_pos g5, rb, alike_nil, Option.bind_some, if_neg (by rw [beq_iff_eq]; exact fun e => q2 e.symm), E j (Nat.le_refl _), E n bn]
    · rw [if_neg q1] at hn
      by_cases q2 : v = x
      · rw [if_pos q2] at hm
        refine Ev.step (fun k => ?_) (ih' n (m + 1) j1 (by omega) (by omega) (by omega) (by omega))
        simp only [spec_BagRows.l1]
        rw [if_pos g1, if_pos g2, if_pos g3, if_pos g4, rx, ra, alike_nil, Option.bind_some, if_neg (by rw [beq_iff_eq]; exact fun e => q1 e.symm), if_pos g5, rb, alike_nil, Option.bind_some, if_pos (beq_iff_eq.2 q2.symm), E j (Nat.le_refl _), E m bm]
      · rw [if_neg q2] at hm
        refine Ev.step (fun k => ?_) (ih' n m j1 (by omega) (by omega) (by omega) (by omega))
        simp only [spec_BagRows.l1]
        rw [if_pos g1, if_pos g2, if_pos g3, if_pos g4, rx, ra, alike_nil, Option.bind_some, if_neg (by rw [beq_iff_eq]; exact fun e => q1 e.symm), if_pos g5, rb, alike_nil, Option.bind_some, if_neg (by rw [beq_iff_eq]; exact fun e => q2 e.symm), E j (Nat.le_refl _)]
theorem bag_outer (a b : List Int) (hab : a.length = b.length) (hl : a.length ≤ 1099511627776) (hc : ∀ x, a.count x = b.count x) (d : Nat) : ∀ i : Nat, i + d = a.length → Ev (fun k => spec_BagRows.l0 k [] a b i) true := by
  induction d with
  | zero =>
    intro i hi
    refine Ev.step (f := fun _ => some true) (fun k => ?_) (Ev.now _)
    simp only [spec_BagRows.l0]
    rw [if_neg (by omega)]
  | succ d ih =>
    intro i hi
    refine Ev.step (fun k => ?_) (bag_inner a b hab hl i (by omega) _ rfl true (a.count (HeapPure.at_ a i)) (b.count (HeapPure.at_ a i)) ?_ a.length 0 0 0 (Nat.zero_add _) (by simp) (by simp) (Nat.le_refl _) (Nat.le_refl _))
    · simp only [spec_BagRows.l0]
      rw [if_pos (by omega)]
      rfl
    · refine Ev.congr (fun k => ?_) (ih (i + 1) (by omega))
      rw [if_pos (by rw [hc]), w1 i (by omega)]
theorem bag_ev (a b : List Int) (hl : a.length ≤ 1099511627776) (hab : a.length = b.length) (hc : ∀ x, a.count x = b.count x) : Ev (fun k => spec_BagRows.f k [] a b) true := by
  refine Ev.congr (fun k => ?_) (bag_outer a b hab hl hc a.length 0 (Nat.zero_add _))
  unfold spec_BagRows.f
  rw [if_pos (by omega)]
  rfl
theorem pops_ev (n : Nat) (hn : n ≤ 2147483647) (d : Nat) : ∀ (j : Nat) (l : List S27), j + d = n + 2 → l.length = j → Ev (fun k => laws_heapPops.l0 k n l j) (l ++ List.replicate d ⟨0, 1, 0, 0⟩) := by
  induction d with
  | zero =>
    intro j l hj hl
    refine Ev.step (f := fun _ => some l) (fun k => ?_) (by rw [List.replicate_zero, List.append_nil]; exact Ev.now _)
    simp only [laws_heapPops.l0]
    rw [w2 n (by omega), if_neg (by omega)]
  | succ d ih =>
    intro j l hj hl
    have h := ih (j + 1) (l ++ [⟨0, 1, 0, 0⟩]) (by omega) (by simp [hl])
    rw [List.append_assoc, List.singleton_append, ← List.replicate_succ] at h
    refine Ev.step (fun k => ?_) h
    simp only [laws_heapPops.l0]
    rw [w2 n (by omega), if_pos (by omega), if_pos (by omega), w1 j (by omega)]

theorem told_pops (r : Int → Int) : ∀ (n : Nat) (xs : List Int), (Heap.toldH r xs (List.replicate n (0, 1, 0, 0))).length = n := by
  intro n xs
  rw [Heap.toldH_length, List.length_replicate]
/-- The numbers that are popped, one by one. -/
def popped (r : Int → Int) : Nat → List Int → List Int
  | 0, _ => []
  | n + 1, xs => HeapPure.at_ xs 0 :: popped r n (HeapPure.popT r xs)
theorem popped_length (r : Int → Int) : ∀ (n : Nat) (xs : List Int), (popped r n xs).length = n
  | 0, _ => rfl
  | n + 1, xs => by rw [popped, List.length_cons, popped_length r n]
theorem popped_count (r : Int → Int) (a : Int) : ∀ (n : Nat) (xs : List Int), xs.length = n → (popped r n xs).count a = xs.count a
  | 0, xs, h => by rw [List.length_eq_zero_iff.1 h]; rfl
  | n + 1, xs, h => by
    rw [popped, List.count_cons, popped_count r a n _ (by rw [HeapPure.pop_length]; omega)]
    have := HeapPure.pop_count r xs a (by omega)
    simp only [beq_iff_eq]
    omega
theorem pop_least (r : Int → Int) (xs : List Int) (h : HeapPure.Hp r xs) (n : Nat) (hx : xs.length = n) : ∀ i, i < n → r (HeapPure.at_ xs 0) ≤ r (HeapPure.at_ xs i) := fun i hi => HeapPure.hp_least r xs h i i (Nat.le_refl _) (by omega)
theorem at_mem {xs : List Int} {x : Int} (h : x ∈ xs) : ∃ i, i < xs.length ∧ HeapPure.at_ xs i = x := by
  obtain ⟨i, hi, e⟩ := List.getElem_of_mem h
  exact ⟨i, hi, by simp [HeapPure.at_, List.getD_eq_getElem?_getD, hi, e]⟩
theorem popped_rise (r : Int → Int) : ∀ (n : Nat) (xs : List Int), xs.length = n → HeapPure.Hp r xs → ∀ i, i + 1 < n → r (HeapPure.at_ (popped r n xs) i) ≤ r (HeapPure.at_ (popped r n xs) (i + 1))
  | 0, xs, _, _, i, h => by omega
  | n + 1, xs, hx, hh, 0, h => by
    obtain ⟨m, rfl⟩ : ∃ m, n = m + 1 := ⟨n - 1, by omega⟩
    show r (HeapPure.at_ xs 0) ≤ r (HeapPure.at_ (HeapPure.popT r xs) 0)
    have hc := HeapPure.pop_count r xs (HeapPure.at_ (HeapPure.popT r xs) 0) (by omega)
    have hl := HeapPure.pop_length r xs
    have hm : HeapPure.at_ (HeapPure.popT r xs) 0 ∈ HeapPure.popT r xs := by
      have : 0 < (HeapPure.popT r xs).length := by omega
      simp only [HeapPure.at_, List.getD_eq_getElem?_getD, List.getElem?_eq_getElem this, Option.getD_some]
      exact List.getElem_mem this
    have hp := List.count_pos_iff.2 hm
    obtain ⟨i, hi, e⟩ := at_mem (List.count_pos_iff.1 (show 0 < xs.count (HeapPure.at_ (HeapPure.popT r xs) 0) by omega))
    rw [← e]
    exact HeapPure.hp_least r xs hh i i (Nat.le_refl _) hi
  | n + 1, xs, hx, hh, i + 1, h => by
    show r (HeapPure.at_ (popped r n (HeapPure.popT r xs)) i) ≤ r (HeapPure.at_ (popped r n (HeapPure.popT r xs)) (i + 1))
    exact popped_rise r n _ (by rw [HeapPure.pop_length]; omega) (HeapPure.pop_hp r xs hh) i (by omega)
theorem told_at (r : Int → Int) : ∀ (n m i : Nat) (xs : List Int), xs.length = n → i < n + m → (Heap.toldH r xs (List.replicate (n + m) (0, 1, 0, 0)))[i]? = some (if i < n then (HeapPure.at_ (popped r n xs) i, true) else (0, false))
  | 0, 0, i, xs, _, h => by omega
  | 0, m + 1, i, xs, hx, h => by
    rw [Nat.zero_add, List.replicate_succ]
    have hx0 : xs = [] := List.length_eq_zero_iff.1 hx
    subst hx0
    have e : HeapPure.stepT r [] 1 0 = [] := rfl
    simp only [Heap.toldH, e]
    cases i with
    | zero => rfl
    | succ i =>
      rw [List.getElem?_cons_succ]
      have := told_at r 0 m i [] rfl (by omega)
      rw [Nat.zero_add] at this
      rw [this, if_neg (by omega), if_neg (by omega)]
  | n + 1, m, i, xs, hx, h => by
    rw [show n + 1 + m = (n + m) + 1 by omega, List.replicate_succ]
    have e : HeapPure.stepT r xs 1 0 = HeapPure.popT r xs := rfl
    have e2 : HeapPure.tellT xs 1 = (HeapPure.at_ xs 0, true) := by simp [HeapPure.tellT, hx]
    simp only [Heap.toldH, e, e2]
    cases i with
    | zero => rw [if_pos (by omega)]; rfl
    | succ i =>
      rw [List.getElem?_cons_succ, told_at r n m i (HeapPure.popT r xs) (by rw [HeapPure.pop_length]; omega) (by omega)]
      by_cases c : i < n
      · rw [if_pos c, if_pos (by omega)]; rfl
      · rw [if_neg c, if_neg (by omega)]
theorem rd_seen {l : List S34} {i : Nat} {x : S34} (h : l[i]? = some x) : rd_T34 l (i : Int) = x := by
  simp [rd_T34, List.getD_eq_getElem?_getD, h]

theorem walk_ev (tb first : List Int) (ht : tb.length ≤ 2147483647) (hf : first.length ≤ 2147483647) (ps : List Int) (s : List S34) (hps : ps.length = first.length)
    (hs : ∀ i, i < first.length → ∃ x, s[i]? = some x ∧ x.f1 = true ∧ x.f0 = HeapPure.at_ ps i) (hsl : first.length ≤ s.length) (hr : ∀ i, i + 1 < first.length → Less.rankOf tb (HeapPure.at_ ps i) ≤ Less.rankOf tb (HeapPure.at_ ps (i + 1)))
    (hc : ∀ a, ps.count a = first.count a) (d : Nat) : ∀ j : Nat, j + d = first.length → Ev (fun k => laws_FnHeapSorts.l0 k tb first s (ps.take j) j) true := by
  induction d with
  | zero =>
    intro j hj
    refine Ev.step (fun k => ?_) (Ev.bind (bag_ev ps first (by omega) hps hc) (Ev.now true))
    simp only [laws_FnHeapSorts.l0]
    rw [if_neg (by omega), List.take_of_length_le (by omega)]
  | succ d ih =>
    intro j hj
    obtain ⟨x, hx, h1, h0⟩ := hs j (by omega)
    have hn := ih (j + 1) (by omega)
    have htk : ps.take (j + 1) = ps.take j ++ [HeapPure.at_ ps j] := by
      rw [List.take_add_one, List.getElem?_eq_getElem (by omega)]
      simp [HeapPure.at_, List.getD_eq_getElem?_getD, show j < ps.length by omega]
    rw [htk] at hn
    refine Ev.step (fun k => ?_) hn
    simp only [laws_FnHeapSorts.l0]
    rw [if_pos (by omega), if_pos (by omega), if_pos (by omega), rd_seen hx, if_pos h1, h0]
    have hlt : (ps.take j).length < 17592186044416 := by rw [List.length_take]; omega
    by_cases hj0 : j = 0
    · subst hj0
      rw [if_neg (by omega), if_pos hlt, w1 _ (by omega)]
    · rw [if_pos (by omega), rank_some tb ht, Option.bind_some, wm1 j (by omega) (by omega), if_pos (by omega), if_pos (by rw [List.length_take]; omega), rank_some tb ht, Option.bind_some, rd_at, HeapPure.at_take _ _ _ (by omega)]
      have := hr (j - 1) (by omega)
      rw [show j - 1 + 1 = j by omega] at this
      rw [if_neg (by omega), if_pos hlt, w1 _ (by omega)]

theorem FnHeapSorts : laws_FnHeapSorts.Pure := by
  intro tb how first _ _ _ _ _ _ _
  by_cases c1 : (tb.length : Int) > 2147483647
  · exact ⟨1, by unfold laws_FnHeapSorts.f; rw [if_pos c1]; rfl⟩
  by_cases c2 : (first.length : Int) > 2147483647
  · exact ⟨1, by unfold laws_FnHeapSorts.f; rw [if_neg c1, decide_eq_true c2]; rfl⟩
  obtain ⟨hh, hl, hcnt⟩ := HeapPure.made (Less.rankOf tb) how first
  have hrun : impl_HeapRun.f tb how first (List.replicate (first.length + 2) ⟨0, 1, 0, 0⟩) = some ((Heap.toldH (Less.rankOf tb) (HeapPure.madeT (Less.rankOf tb) how first) (List.replicate (first.length + 2) (0, 1, 0, 0))).map seen_of) := by
    unfold impl_HeapRun.f
    rw [if_pos ⟨by omega, by omega, by rw [List.length_replicate]; omega⟩, List.map_replicate]
    rfl
  generalize HeapPure.madeT (Less.rankOf tb) how first = xs at hh hl hcnt hrun
  have hget : ∀ i, i < first.length + 2 → ((Heap.toldH (Less.rankOf tb) xs (List.replicate (first.length + 2) (0, 1, 0, 0))).map seen_of)[i]? = some (seen_of (if i < first.length then (HeapPure.at_ (popped (Less.rankOf tb) first.length xs) i, true) else (0, false))) := by
    intro i hi
    rw [List.getElem?_map, told_at (Less.rankOf tb) first.length 2 i xs hl hi]
    rfl
  have hlen : ((Heap.toldH (Less.rankOf tb) xs (List.replicate (first.length + 2) (0, 1, 0, 0))).map seen_of).length = first.length + 2 := by rw [List.length_map, told_pops]
  generalize (Heap.toldH (Less.rankOf tb) xs (List.replicate (first.length + 2) (0, 1, 0, 0))).map seen_of = s at hrun hget hlen
  have hw := walk_ev tb first (by omega) (by omega) (popped (Less.rankOf tb) first.length xs) s (popped_length _ _ _) (fun i hi => ⟨_, hget i (by omega), by rw [if_pos hi]; rfl, by rw [if_pos hi]; rfl⟩) (by omega)
    (fun i hi => popped_rise _ _ _ hl hh i hi) (fun a => (popped_count _ a _ _ hl).trans (hcnt a)) first.length 0 (Nat.zero_add _)
  have h1 : Ev (fun k => laws_FnHeapSorts.j1 k tb first s false) true := Ev.step (fun k => by simp only [laws_FnHeapSorts.j1]; rfl) hw
  have hp := pops_ev first.length (by omega) (first.length + 2) 0 [] (by omega) rfl
  have g1 : rd_T34 s (first.length : Int) = seen_of (0, false) := by rw [rd_seen (hget first.length (by omega)), if_neg (by omega)]
  have g2 : rd_T34 s ((first.length + 1 : Nat) : Int) = seen_of (0, false) := by rw [rd_seen (hget (first.length + 1) (by omega)), if_neg (by omega)]
  have h0 : Ev (fun k => laws_FnHeapSorts.j0 k tb how first false) true := by
    obtain ⟨K1, hp⟩ := hp
    obtain ⟨K2, h1⟩ := h1
    refine ⟨max K1 K2 + 1, fun k hk => ?_⟩
    obtain ⟨m, rfl⟩ : ∃ m, k = m + 1 := ⟨k - 1, by omega⟩
    simp only [laws_FnHeapSorts.j0]
    rw [if_neg (by simp)]
    unfold laws_heapPops.f
    have hp' : laws_heapPops.l0 m first.length [] ((0 : Nat) : Int) = some _ := hp m (by omega)
    rw [List.nil_append] at hp'
    rw [show ((0 : Nat) : Int) = 0 from rfl] at hp'
    rw [hp', Option.bind_some, hrun, Option.bind_some, if_pos (by rw [hlen, w2 _ (by omega)]), if_pos (by omega), if_pos (by rw [hlen]; omega), g1, if_neg (by simp [seen_of]), w1 _ (by omega), if_pos (by omega), if_pos (by rw [hlen]; omega), g2]
    exact h1 m (by omega)
  refine (Ev.congr (fun k => ?_) h0).rounds
  unfold laws_FnHeapSorts.f
  rw [if_neg c1, decide_eq_false c2]
end Go.Proofs.Ytmhnhfmkcipcpaa.Pure
