/- Behind any steps what a heap holds is all that is there, and lies as a binary heap: for every table, first row and script. -/
import Derived.Test.YtmhnhfmkcipcpaaQFnHeapTreex2
import Derived.IntWalk
namespace Go.Proofs.Ytmhnhfmkcipcpaa.Pure
open Go.RowKit Go.IntWalk Go.Proofs.Ytmhnhfmkcipcpaa.QFnHeapTree Go.Proofs.YtmhnhfmkcipcpaaW.PrintWords Go.Proofs.YtmhnhfmkcipcpaaW.PrintLast

theorem w1 (q : Nat) (h : q ≤ 1099511627776) : wrap64 ((q : Int) + 1) = ((q + 1 : Nat) : Int) := by rw [wrap64_in _ (by omega)]; rfl
theorem w2 (q : Nat) (h : q ≤ 1099511627776) : wrap64 ((q : Int) + 2) = ((q + 2 : Nat) : Int) := by rw [wrap64_in _ (by omega)]; rfl
theorem wm1 (q : Nat) (h0 : 0 < q) (h : q ≤ 1099511627776) : wrap64 ((q : Int) - 1) = ((q - 1 : Nat) : Int) := by rw [wrap64_in _ (by omega)]; omega
theorem rank_some (tb : List Int) (ht : tb.length ≤ 2147483647) (k : Int) : spec_Rank.f tb k = some (Less.rankOf tb k) := by
  unfold spec_Rank.f Less.rankOf
  by_cases h : tb = []
  · subst h; rfl
  · have hp : 0 < tb.length := List.length_pos_iff.2 h
    have b := Less.tmod_bd k tb.length (by omega)
    have ea : wrap64 (k.tmod tb.length + tb.length) = k.tmod tb.length + tb.length := wrap64_in _ (by omega)
    have et : (k.tmod tb.length + tb.length).tmod tb.length = k % tb.length := by rw [Int.tmod_eq_emod_of_nonneg (by omega)]; exact b.2.2
    have a0 := Int.emod_nonneg k (show (tb.length : Int) ≠ 0 by omega)
    have a1 := Int.emod_lt_of_pos k (show (0 : Int) < tb.length by omega)
    rw [if_neg (by omega), if_neg h, ea, et, if_pos a0, if_pos a1]
theorem alike_nil (a b : Int) : spec_Alike.f [] a b = some (a == b) := rfl
theorem rd_at (xs : List Int) (i : Nat) : rd xs (i : Int) = HeapPure.at_ xs i := rfl
theorem drop_count (a : List Int) (x : Int) (j : Nat) (h : j < a.length) : (a.drop j).count x = (if HeapPure.at_ a j = x then 1 else 0) + (a.drop (j + 1)).count x := by
  rw [List.drop_eq_getElem_cons h, List.count_cons]
  have e : HeapPure.at_ a j = a[j] := by simp [HeapPure.at_, List.getD_eq_getElem?_getD, h]
  rw [e]
  simp only [beq_iff_eq]
  omega
/-- Two rows with the same numbers, as often, are told so. -/
theorem bag_inner (a b : List Int) (hab : a.length = b.length) (hl : a.length ≤ 1099511627776) (i : Nat) (hi : i < a.length) (x : Int) (hx : HeapPure.at_ a i = x) (r : Bool) (N M : Nat)
    (hr : Ev (fun k => if (N : Int) = (M : Int) then spec_BagRows.l0 k [] a b (wrap64 ((i : Int) + 1)) else some false) r) (d : Nat) : ∀ (j n m : Nat), j + d = a.length → n + (a.drop j).count x = N → m + (b.drop j).count x = M → n ≤ j → m ≤ j →
    Ev (fun k => spec_BagRows.l1 k [] a b i n m j) r := by
  induction d with
  | zero =>
    intro j n m hj hn hm _ _
    rw [Nat.add_zero] at hj
    have hn' : n = N := by rw [List.drop_of_length_le (Nat.le_of_eq hj.symm), List.count_nil, Nat.add_zero] at hn; exact hn
    have hm' : m = M := by rw [List.drop_of_length_le (Nat.le_of_eq (hab.symm.trans hj.symm)), List.count_nil, Nat.add_zero] at hm; exact hm
    subst hn'; subst hm'
    refine Ev.step (fun k => ?_) hr
    have h0 : ¬ (j : Int) < (a.length : Int) := by clear hn hm hr; omega
    simp only [spec_BagRows.l1]
    rw [if_neg h0]
  | succ d ih =>
    intro j n m hj hn hm bn bm
    have hja : j < a.length := by clear hn hm hr ih; omega
    have hjb : j < b.length := hab ▸ hja
    have g1 : (j : Int) < (a.length : Int) := Int.ofNat_lt.2 hja
    have g2 : (0 : Int) ≤ (i : Int) := Int.natCast_nonneg _
    have g3 : (i : Int) < (a.length : Int) := Int.ofNat_lt.2 hi
    have g4 : (0 : Int) ≤ (j : Int) := Int.natCast_nonneg _
    have g5 : (j : Int) < (b.length : Int) := Int.ofNat_lt.2 hjb
    have E : ∀ q : Nat, q ≤ j → wrap64 ((q : Int) + 1) = ((q + 1 : Nat) : Int) := fun q hq => by clear hn hm hr ih; rw [wrap64_in _ (by omega)]; rfl
    have j1 : j + 1 + d = a.length := by clear hn hm hr ih; omega
    rw [drop_count a _ j hja] at hn
    rw [drop_count b _ j hjb] at hm
    have ih' := ih (j + 1)
    generalize (a.drop (j + 1)).count x = ca at hn ih'
    generalize (b.drop (j + 1)).count x = cb at hm ih'
    clear ih hr
    have ra : rd a (j : Int) = HeapPure.at_ a j := rfl
    have rb : rd b (j : Int) = HeapPure.at_ b j := rfl
    have rx : rd a (i : Int) = x := hx
    generalize HeapPure.at_ a j = u at hn ra
    generalize HeapPure.at_ b j = v at hm rb
    by_cases q1 : u = x
    · rw [if_pos q1] at hn
      by_cases q2 : v = x
      · rw [if_pos q2] at hm
        refine Ev.step (fun k => ?_) (ih' (n + 1) (m + 1) j1 (by omega) (by omega) (by omega) (by omega))
        simp only [spec_BagRows.l1]
        rw [if_pos g1, if_pos g2, if_pos g3, if_pos g4, rx, ra, alike_nil, Option.bind_some, if_pos (beq_iff_eq.2 q1.symm), if_pos g5, rb, alike_nil, Option.bind_some, if_pos (beq_iff_eq.2 q2.symm), E j (Nat.le_refl _), E n bn, E m bm]
      · rw [if_neg q2] at hm
        refine Ev.step (fun k => ?_) (ih' (n + 1) m j1 (by omega) (by omega) (by omega) (by omega))
        simp only [spec_BagRows.l1]
        rw [if_pos g1, if_pos g2, if_pos g3, if_pos g4, rx, ra, alike_nil, Option.bind_some, if_pos (beq_iff_eq.2 q1.symm), if_pos g5, rb, alike_nil, Option.bind_some, if_neg (by rw [beq_iff_eq]; exact fun e => q2 e.symm), E j (Nat.le_refl _), E n bn]
    · rw [if_neg q1] at hn
      by_cases q2 : v = x
      · rw [if_pos q2] at hm
        refine Ev.step (fun k => ?_) (ih' n (m + 1) j1 (by omega) (by omega) (by omega) (by omega))
        simp only [spec_BagRows.l1]
        rw [if_pos g1, if_pos g2, if_pos g3, if_pos g4, rx, ra, alike_nil, Option.bind_some, if_neg (by rw [beq_iff_eq]; exact fun e => q1 e.symm), if_pos g5, rb, alike_nil, Option.bind_some, if_pos (beq_iff_eq.2 q2.symm), E j (Nat.le_refl _), E m bm]
      · rw [if_neg q2] at hm
        refine Ev.step (fun k => ?_) (ih' n m j1 (by omega) (by omega) (by omega) (by omega))
        simp only [spec_BagRows.l1]
        rw [if_pos g1, if_pos g2, if_pos g3, if_pos g4, rx, ra, alike_nil, Option.bind_some, if_neg (by rw [beq_iff_eq]; exact fun e => q1 e.symm), if_pos g5, rb, alike_nil, Option.bind_some, if_neg (by rw [beq_iff_eq]; exact fun e => q2 e.symm), E j (Nat.le_refl _)]
theorem bag_outer (a b : List Int) (hab : a.length = b.length) (hl : a.length ≤ 1099511627776) (hc : ∀ x, a.count x = b.count x) (d : Nat) : ∀ i : Nat, i + d = a.length → Ev (fun k => spec_BagRows.l0 k [] a b i) true := by
  induction d with
  | zero =>
    intro i hi
    refine Ev.step (f := fun _ => some true) (fun k => ?_) (Ev.now _)
    simp only [spec_BagRows.l0]
    rw [if_neg (by omega)]
  | succ d ih =>
    intro i hi
    refine Ev.step (fun k => ?_) (bag_inner a b hab hl i (by omega) _ rfl true (a.count (HeapPure.at_ a i)) (b.count (HeapPure.at_ a i)) ?_ a.length 0 0 0 (Nat.zero_add _) (by simp) (by simp) (Nat.le_refl _) (Nat.le_refl _))
    · simp only [spec_BagRows.l0]
      rw [if_pos (by omega)]
      rfl
    · refine Ev.congr (fun k => ?_) (ih (i + 1) (by omega))
      rw [if_pos (by rw [hc]), w1 i (by omega)]
theorem bag_ev (a b : List Int) (hl : a.length ≤ 1099511627776) (hab : a.length = b.length) (hc : ∀ x, a.count x = b.count x) : Ev (fun k => spec_BagRows.f k [] a b) true := by
  refine Ev.congr (fun k => ?_) (bag_outer a b hab hl hc a.length 0 (Nat.zero_add _))
  unfold spec_BagRows.f
  rw [if_pos (by omega)]
  rfl
theorem wpar (j : Nat) (h0 : 0 < j) (h : j ≤ 1099511627776) : wrap64 (Int.tdiv (wrap64 ((j : Int) - 1)) 2) = (((j - 1) / 2 : Nat) : Int) := by
  rw [wm1 j h0 h, Int.tdiv_eq_ediv_of_nonneg (by omega), wrap64_in _ (by omega)]
  omega
theorem tree_ev (tb : List Int) (ht : tb.length ≤ 2147483647) (xs : List Int) (hl : xs.length ≤ 1099511627776) (hh : HeapPure.Hp (Less.rankOf tb) xs) (d : Nat) : ∀ j : Nat, 0 < j → xs.length ≤ j + d → Ev (fun k => laws_heapTree.l0 k tb xs j) true := by
  induction d with
  | zero =>
    intro j h0 hj
    refine Ev.step (f := fun _ => some true) (fun k => ?_) (Ev.now _)
    simp only [laws_heapTree.l0]
    rw [if_neg (by omega)]
  | succ d ih =>
    intro j h0 hj
    by_cases hjl : j < xs.length
    · refine Ev.step (fun k => ?_) (ih (j + 1) (by omega) (by omega))
      have hle := hh j h0 hjl
      simp only [laws_heapTree.l0]
      rw [if_pos (by omega), if_pos (by omega), rank_some tb ht, Option.bind_some, wpar j h0 (by omega), if_pos (by omega), if_pos (by omega), rank_some tb ht, Option.bind_some, rd_at, rd_at, if_neg (by omega), w1 j (by omega)]
    · refine Ev.step (f := fun _ => some true) (fun k => ?_) (Ev.now _)
      simp only [laws_heapTree.l0]
      rw [if_neg (by omega)]
theorem heapTree_ev (tb : List Int) (ht : tb.length ≤ 2147483647) (xs : List Int) (hl : xs.length ≤ 1099511627776) (hh : HeapPure.Hp (Less.rankOf tb) xs) : Ev (fun k => laws_heapTree.f k tb xs) true :=
  tree_ev tb ht xs hl hh xs.length 1 (by omega) (by omega)
theorem rd_step (l : List S27) (i : Nat) (h : i < l.length) : rd_T27 l (i : Int) = l[i] := by simp [rd_T27, List.getD_eq_getElem?_getD, h]
theorem rd_seen {l : List S34} {i : Nat} {x : S34} (h : l[i]? = some x) : rd_T34 l (i : Int) = x := by simp [rd_T34, List.getD_eq_getElem?_getD, h]
theorem step_hp (r : Int → Int) (xs : List Int) (d key : Int) (h : HeapPure.Hp r xs) : HeapPure.Hp r (HeapPure.stepT r xs d key) := by
  unfold HeapPure.stepT
  split
  · exact HeapPure.push_hp r xs key h
  · split
    · exact HeapPure.pop_hp r xs h
    · exact h
/-- One number out of a row. -/
theorem count_out (b : List Int) (n : Int) (j : Nat) (hj : j < b.length) (he : HeapPure.at_ b j = n) (a : Int) : (b.take j ++ b.drop (j + 1)).count a + (if n = a then 1 else 0) = b.count a := by
  have h1 : b.count a = (b.take j).count a + (b.drop j).count a := by rw [← List.count_append, List.take_append_drop]
  have h2 := drop_count b a j hj
  rw [he] at h2
  rw [h1, h2, List.count_append]
  omega

/-- What is searched is found, and taken out. -/
theorem out_ev (tb : List Int) (how : Int) (first : List Int) (l : List S27) (b : List Int) (s : List S34) (i : Nat) (x : S34) (hx : s[i]? = some x) (hb : b.length ≤ 1099511627776) (hi : i ≤ 2147483647) (r : Bool)
    (hr : ∀ j, j < b.length → HeapPure.at_ b j = x.f0 → Ev (fun k => laws_FnHeapTree.l0 k tb how first l (b.take j ++ b.drop (j + 1)) s ((i + 1 : Nat) : Int)) r) (d : Nat) : ∀ j : Nat, j + d = b.length → 0 < (b.drop j).count x.f0 →
    Ev (fun k => laws_FnHeapTree.l1 k tb how first l b s i j) r := by
  induction d with
  | zero =>
    intro j hj hc
    rw [Nat.add_zero] at hj
    rw [List.drop_of_length_le (Nat.le_of_eq hj.symm)] at hc
    simp at hc
  | succ d ih =>
    intro j hj hc
    have hjb : j < b.length := by clear hc hr ih; omega
    have hil : i < s.length := (List.getElem?_eq_some_iff.1 hx).1
    have g1 : (j : Int) < (b.length : Int) := Int.ofNat_lt.2 hjb
    have g2 : (0 : Int) ≤ (j : Int) := Int.natCast_nonneg _
    have g3 : (0 : Int) ≤ (i : Int) := Int.natCast_nonneg _
    have g4 : (i : Int) < (s.length : Int) := Int.ofNat_lt.2 hil
    have hj1 : j + 1 + d = b.length := by clear hc hr ih; omega
    have hjl : j ≤ 1099511627776 := by clear hc hr ih; omega
    have hil2 : i ≤ 1099511627776 := by clear hc hr ih; omega
    by_cases q : HeapPure.at_ b j = x.f0
    · refine Ev.step (fun k => ?_) (hr j hjb q)
      have g5 : (j : Int) ≤ (b.length : Int) := Int.le_of_lt g1
      have g6 : ([] : List Int).length + (b.take j).length < 17592186044416 := by clear hc hr ih; rw [List.length_nil, List.length_take]; omega
      have g7 : ([] ++ b.take j).length + (b.drop (j + 1)).length < 17592186044416 := by clear hc hr ih; rw [List.nil_append, List.length_take, List.length_drop]; omega
      have g8 : (0 : Int) ≤ ((j + 1 : Nat) : Int) := Int.natCast_nonneg _
      have g9 : ((j + 1 : Nat) : Int) ≤ (b.length : Int) := Int.ofNat_le.2 hjb
      simp only [laws_FnHeapTree.l1]
      rw [if_pos g1, if_pos g2, if_pos g3, if_pos g4, rd_at, rd_seen hx, if_pos q, Option.bind_some, if_pos g5, Option.bind_some, Int.toNat_natCast, if_pos g6, Option.bind_some, w1 j hjl, if_pos g8, if_pos g9, Option.bind_some, Int.toNat_natCast, if_pos g7, w1 i hil2, List.nil_append]
    · rw [drop_count b _ j hjb, if_neg q, Nat.zero_add] at hc
      refine Ev.step (fun k => ?_) (ih (j + 1) hj1 hc)
      simp only [laws_FnHeapTree.l1]
      rw [if_pos g1, if_pos g2, if_pos g3, if_pos g4, rd_at, rd_seen hx, if_neg q, w1 j hjl]

section
variable (tb : List Int) (ht : tb.length ≤ 2147483647) (how : Int) (first : List Int) (hf : first.length ≤ 2147483647) (l : List S27) (hl : l.length ≤ 2147483647)
include ht hf hl
theorem steps_ev (xs0 : List Int) (hmade : HeapPure.madeT (Less.rankOf tb) how first = xs0) (s : List S34) (d : Nat) : ∀ (i : Nat) (xs b : List Int), i + d = l.length → HeapPure.Hp (Less.rankOf tb) xs → (∀ a, b.count a = xs.count a) → b.length = xs.length →
    xs.length + d ≤ 4294967296 → Heap.runH (Less.rankOf tb) xs ((l.drop i).map st_of) = Heap.runH (Less.rankOf tb) xs0 (l.map st_of) → s.drop i = (Heap.toldH (Less.rankOf tb) xs ((l.drop i).map st_of)).map seen_of →
    Ev (fun k => laws_FnHeapTree.l0 k tb how first l b s i) true := by
  induction d with
  | zero =>
    intro i xs b hi hh hc hbl hxl hrun _
    rw [Nat.add_zero] at hi
    have hdata : impl_HeapData.f tb how first l = some xs := by
      unfold impl_HeapData.f
      rw [if_pos ⟨by omega, by omega, by omega⟩, hmade]
      rw [List.drop_of_length_le (Nat.le_of_eq hi.symm), List.map_nil] at hrun
      exact congrArg some hrun.symm
    have hone : ∃ ys, impl_HeapData.f tb how [3] [] = some ys ∧ ys.length = 1 := by
      refine ⟨HeapPure.madeT (Less.rankOf tb) how [3], ?_, (HeapPure.made _ _ _).2.1⟩
      unfold impl_HeapData.f
      rw [if_pos ⟨by omega, by simp, by simp⟩]
      rfl
    obtain ⟨ys, hy, hyl⟩ := hone
    have hxl2 : xs.length ≤ 1099511627776 := by clear hc hrun; omega
    obtain ⟨K1, h1⟩ := bag_ev xs b hxl2 hbl.symm (fun a => (hc a).symm)
    obtain ⟨K2, h2⟩ := heapTree_ev tb ht xs hxl2 hh
    have g0 : ¬ (i : Int) < (l.length : Int) := by clear hc hrun h1 h2; omega
    refine ⟨max K1 K2 + 1, fun k hk => ?_⟩
    obtain ⟨m, rfl⟩ : ∃ m, k = m + 1 := ⟨k - 1, by clear hc hrun h1 h2; omega⟩
    have h1' : spec_BagRows.f m [] xs b = some true := h1 m (by clear hc hrun h1 h2; omega)
    have h2' : laws_heapTree.f m tb xs = some true := h2 m (by clear hc hrun h1 h2; omega)
    simp only [laws_FnHeapTree.l0]
    rw [if_neg g0, hdata, Option.bind_some, h1', Option.bind_some, if_pos rfl, h2', Option.bind_some, if_pos rfl, hy, Option.bind_some, hyl]
    rfl
  | succ d ih =>
    intro i xs b hi hh hc hbl hxl hrun hs
    have hil : i < l.length := by clear hc hrun hs ih; omega
    have hD : l.drop i = l[i] :: l.drop (i + 1) := List.drop_eq_getElem_cons hil
    rw [hD, List.map_cons] at hrun hs
    have hrd := rd_step l i hil
    generalize l[i] = a at hD hrun hs hrd
    have hrun' : Heap.runH (Less.rankOf tb) (HeapPure.stepT (Less.rankOf tb) xs a.f1 a.f2) ((l.drop (i + 1)).map st_of) = Heap.runH (Less.rankOf tb) xs0 (l.map st_of) := hrun
    have hx : s[i]? = some (seen_of (HeapPure.tellT xs a.f1)) := by
      have h := congrArg (fun t => t[0]?) hs
      simp only [List.getElem?_drop, Nat.add_zero] at h
      rw [h]; rfl
    have hs' : s.drop (i + 1) = (Heap.toldH (Less.rankOf tb) (HeapPure.stepT (Less.rankOf tb) xs a.f1 a.f2) ((l.drop (i + 1)).map st_of)).map seen_of := by
      have h := congrArg (List.drop 1) hs
      rw [List.drop_drop] at h
      exact h
    have hh' := step_hp (Less.rankOf tb) xs a.f1 a.f2 hh
    have hsl := Heap.step_length (Less.rankOf tb) xs a.f1 a.f2
    have hi1 : i + 1 + d = l.length := by clear hc hrun hs ih; omega
    have hxd : (HeapPure.stepT (Less.rankOf tb) xs a.f1 a.f2).length + d ≤ 4294967296 := by clear hc hrun hs ih; omega
    have NEXT := fun b' h1 h2 => ih (i + 1) _ b' hi1 hh' h1 h2 hxd hrun' hs'
    have g1 : (i : Int) < (l.length : Int) := Int.ofNat_lt.2 hil
    have g2 : (0 : Int) ≤ (i : Int) := Int.natCast_nonneg _
    have hil2 : i ≤ 1099511627776 := by clear hc hrun hs ih; omega
    have hisl : i < s.length := (List.getElem?_eq_some_iff.1 hx).1
    have g3 : (i : Int) < (s.length : Int) := Int.ofNat_lt.2 hisl
    have hbl2 : b.length ≤ 1099511627776 := by clear hc hrun hs ih; omega
    clear hs ih hs' hrun hrun' hD
    by_cases c0 : a.f1 = 0
    · have e1 : HeapPure.stepT (Less.rankOf tb) xs a.f1 a.f2 = HeapPure.pushT (Less.rankOf tb) xs a.f2 := by rw [HeapPure.stepT, if_pos c0]
      rw [e1] at NEXT
      have hn := NEXT (b ++ [a.f2]) (fun x => by rw [HeapPure.push_count, List.count_append, List.count_append, hc]) (by rw [HeapPure.push_length, List.length_append, hbl]; rfl)
      have g4 : b.length < 17592186044416 := by clear hc; omega
      have c1 : ¬ a.f1 = 1 := by rw [c0]; decide
      have j3 : Ev (fun k => laws_FnHeapTree.j3 k tb how first l (b ++ [a.f2]) s i false) true := Ev.step (fun k => by simp only [laws_FnHeapTree.j3]; rw [if_neg (by simp), w1 i hil2]) hn
      have j2 : Ev (fun k => laws_FnHeapTree.j2 k tb how first l (b ++ [a.f2]) s i) true := Ev.step (fun k => by simp only [laws_FnHeapTree.j2]; rw [if_pos g2, if_pos g1, hrd, if_neg c1]) j3
      exact Ev.step (fun k => by simp only [laws_FnHeapTree.l0]; rw [if_pos g1, if_pos g2, hrd, if_pos c0, if_pos g4]) j2
    · by_cases c1 : a.f1 = 1
      · have e1 : HeapPure.stepT (Less.rankOf tb) xs a.f1 a.f2 = HeapPure.popT (Less.rankOf tb) xs := by rw [HeapPure.stepT, if_neg c0, if_pos c1]
        rw [e1] at NEXT
        by_cases hx0 : xs.length = 0
        · have et : HeapPure.tellT xs a.f1 = (0, false) := by rw [c1]; simp [HeapPure.tellT, hx0]
          rw [et] at hx
          have ep : HeapPure.popT (Less.rankOf tb) xs = xs := by rw [HeapPure.popT, if_pos hx0]
          rw [ep] at NEXT
          have hn := NEXT b hc hbl
          have j3 : Ev (fun k => laws_FnHeapTree.j3 k tb how first l b s i false) true := Ev.step (fun k => by simp only [laws_FnHeapTree.j3]; rw [if_neg (by simp), w1 i hil2]) hn
          have j2 : Ev (fun k => laws_FnHeapTree.j2 k tb how first l b s i) true := Ev.step (fun k => by simp only [laws_FnHeapTree.j2]; rw [if_pos g2, if_pos g1, hrd, if_pos c1, if_pos g3, rd_seen hx]; rfl) j3
          exact Ev.step (fun k => by simp only [laws_FnHeapTree.l0]; rw [if_pos g1, if_pos g2, hrd, if_neg c0]) j2
        · have et : HeapPure.tellT xs a.f1 = (HeapPure.at_ xs 0, true) := by rw [c1]; simp [HeapPure.tellT, hx0]
          rw [et] at hx
          have hpc := fun x => HeapPure.pop_count (Less.rankOf tb) xs x hx0
          have hpl := HeapPure.pop_length (Less.rankOf tb) xs
          have hmem : 0 < b.count (HeapPure.at_ xs 0) := by
            rw [hc]
            have := hpc (HeapPure.at_ xs 0)
            rw [if_pos rfl] at this
            rw [← this]
            exact Nat.succ_pos _
          have hl1 : Ev (fun k => laws_FnHeapTree.l1 k tb how first l b s i ((0 : Nat) : Int)) true := by
            refine out_ev tb how first l b s i _ hx hbl2 (by clear hc hpc; omega) true (fun j hj he => ?_) b.length 0 (Nat.zero_add _) (by rw [List.drop_zero]; exact hmem)
            refine NEXT _ (fun x => ?_) ?_
            · have h1 := count_out b _ j hj he x
              have h2 := hpc x
              rw [hc] at h1
              have h3 : (seen_of (HeapPure.at_ xs 0, true)).f0 = HeapPure.at_ xs 0 := rfl
              rw [h3] at h1
              exact Nat.add_right_cancel (h1.trans h2.symm)
            · rw [hpl, List.length_append, List.length_take, List.length_drop]
              clear hc hpc
              omega
          have j3 : Ev (fun k => laws_FnHeapTree.j3 k tb how first l b s i true) true := Ev.step (fun k => by simp only [laws_FnHeapTree.j3]; rw [if_pos trivial]; rfl) hl1
          have j2 : Ev (fun k => laws_FnHeapTree.j2 k tb how first l b s i) true := Ev.step (fun k => by simp only [laws_FnHeapTree.j2]; rw [if_pos g2, if_pos g1, hrd, if_pos c1, if_pos g3, rd_seen hx]; rfl) j3
          exact Ev.step (fun k => by simp only [laws_FnHeapTree.l0]; rw [if_pos g1, if_pos g2, hrd, if_neg c0]) j2
      · have e1 : HeapPure.stepT (Less.rankOf tb) xs a.f1 a.f2 = xs := by rw [HeapPure.stepT, if_neg c0, if_neg c1]
        rw [e1] at NEXT
        have hn := NEXT b hc hbl
        have j3 : Ev (fun k => laws_FnHeapTree.j3 k tb how first l b s i false) true := Ev.step (fun k => by simp only [laws_FnHeapTree.j3]; rw [if_neg (by simp), w1 i hil2]) hn
        have j2 : Ev (fun k => laws_FnHeapTree.j2 k tb how first l b s i) true := Ev.step (fun k => by simp only [laws_FnHeapTree.j2]; rw [if_pos g2, if_pos g1, hrd, if_neg c1]) j3
        exact Ev.step (fun k => by simp only [laws_FnHeapTree.l0]; rw [if_pos g1, if_pos g2, hrd, if_neg c0]) j2
end

theorem FnHeapTree (tb : List Int) (how : Int) (first : List Int) (l : List S27) : ∃ k, laws_FnHeapTree.f k tb how first l = some true := by
  by_cases c1 : (tb.length : Int) > 2147483647
  · exact ⟨1, by unfold laws_FnHeapTree.f; rw [if_pos c1]; rfl⟩
  by_cases c2 : (first.length : Int) > 2147483647
  · exact ⟨1, by unfold laws_FnHeapTree.f; rw [if_neg c1, if_pos c2]; rfl⟩
  by_cases c3 : (l.length : Int) > 2147483647
  · exact ⟨1, by unfold laws_FnHeapTree.f; rw [if_neg c1, if_neg c2, decide_eq_true c3]; rfl⟩
  have ht : tb.length ≤ 2147483647 := by omega
  have hf : first.length ≤ 2147483647 := by omega
  have hl : l.length ≤ 2147483647 := by omega
  obtain ⟨hh, hml, hcnt⟩ := HeapPure.made (Less.rankOf tb) how first
  have hrun : impl_HeapRun.f tb how first l = some ((Heap.toldH (Less.rankOf tb) (HeapPure.madeT (Less.rankOf tb) how first) (l.map st_of)).map seen_of) := by
    unfold impl_HeapRun.f
    rw [if_pos ⟨by omega, by omega, by omega⟩]
  have hw := steps_ev tb ht how first hf l hl _ rfl ((Heap.toldH (Less.rankOf tb) (HeapPure.madeT (Less.rankOf tb) how first) (l.map st_of)).map seen_of) l.length 0 (HeapPure.madeT (Less.rankOf tb) how first) first (Nat.zero_add _) hh (fun a => (hcnt a).symm) hml.symm (by omega) rfl rfl
  obtain ⟨K, hK⟩ := hw
  refine ⟨K + 1, ?_⟩
  unfold laws_FnHeapTree.f
  rw [if_neg c1, if_neg c2, decide_eq_false c3]
  simp only [laws_FnHeapTree.j0]
  rw [if_neg (by simp), Option.bind_some, if_pos (by simp; omega), hrun, Option.bind_some, if_pos (by rw [List.length_map, Heap.toldH_length, List.length_map]), List.nil_append]
  exact hK K (Nat.le_refl _)
end Go.Proofs.Ytmhnhfmkcipcpaa.Pure
