/- Under the turned order a tree tells the same pairs from behind: for every table, every script, both trees. -/
import Derived.Test.YtjlcebgfknfelaaQFnTreesTurnx2
import Derived.IntWalk
namespace Go.Proofs.Ytjlcebgfknfelaa.TreesTurnPure
open Go.RowKit Go.IntWalk Go.Proofs.Ytjlcebgfknfelaa.QFnTreesTurn Go.Proofs.YtjlcebgfknfelaaW.PrintWords Go.Proofs.YtjlcebgfknfelaaW.PrintLast Go.Proofs.Ytjlcebgfknfelaa.Less
theorem rank_some (tb : List Int) (ht : tb.length ≤ 2147483647) (k : Int) : spec_Rank.f tb k = some (rankOf tb k) := by
  unfold spec_Rank.f rankOf
  by_cases h : tb = []
  · subst h; rfl
  · have hp : 0 < tb.length := List.length_pos_iff.2 h
    have b := tmod_bd k tb.length (by omega)
    have ea : wrap64 (k.tmod tb.length + tb.length) = k.tmod tb.length + tb.length := wrap64_in _ (by omega)
    have et : (k.tmod tb.length + tb.length).tmod tb.length = k % tb.length := by rw [Int.tmod_eq_emod_of_nonneg (by omega)]; exact b.2.2
    have a0 := Int.emod_nonneg k (show (tb.length : Int) ≠ 0 by omega)
    have a1 := Int.emod_lt_of_pos k (show (0 : Int) < tb.length by omega)
    rw [if_neg (by omega), if_neg h, ea, et, if_pos a0, if_pos a1]
theorem alike_some (tb : List Int) (ht : tb.length ≤ 2147483647) (a b : Int) : spec_Alike.f tb a b = some (rankOf tb a == rankOf tb b) := by
  unfold spec_Alike.f
  rw [rank_some tb ht, rank_some tb ht]; rfl

/-! ### What a script tells at its beginning, and how much -/
theorem avl_take (tb : List Int) : ∀ (l : List Avl.Act3) (t : AvlPure.T) (n : Nat), Avl.toldT tb t (l.take n) = (Avl.toldT tb t l).take n
  | [], t, n => by simp [Avl.toldT]
  | a :: l, t, 0 => by simp [Avl.toldT]
  | a :: l, t, n + 1 => by simp [Avl.toldT, avl_take tb l]
theorem bt_take (tb : List Int) : ∀ (l : List Avl.Act3) (t : List BtPure.E) (n : Nat), Bt.toldT tb t (l.take n) = (Bt.toldT tb t l).take n
  | [], t, n => by simp [Bt.toldT]
  | a :: l, t, 0 => by simp [Bt.toldT]
  | a :: l, t, n + 1 => by simp [Bt.toldT, bt_take tb l]
theorem avl_step_size (tb : List Int) (t : AvlPure.T) (a : Avl.Act3) : (Avl.stepT tb t a).size ≤ t.size + 1 := by
  unfold Avl.stepT
  split
  · exact AvlPure.T.size_ins _ _ _ t
  · split
    · have := AvlPure.T.size_rem (rankOf tb) t a.2.1; omega
    · omega
theorem avl_small (tb : List Int) : ∀ (l : List Avl.Act3) (t : AvlPure.T) (y : Avl.Told4), y ∈ Avl.toldT tb t l → (y.2.2.1.length : Int) ≤ t.size + l.length ∧ y.2.2.2.length = y.2.2.1.length
  | [], _, y, h => by simp [Avl.toldT] at h
  | a :: l, t, y, h => by
    have hs := AvlPure.T.size_nonneg t
    rcases List.mem_cons.1 h with rfl | h
    · have hk := Avl.keys_length t
      have hv := Avl.vals_length t
      unfold Avl.tellT
      repeat' split
      all_goals refine ⟨?_, ?_⟩
      all_goals first | exact hv | rfl | (simp only [List.length_cons, List.length_nil]; omega)
    · obtain ⟨h1, h2⟩ := avl_small tb l _ y h
      have := avl_step_size tb t a
      simp only [List.length_cons]
      exact ⟨by omega, h2⟩
theorem bt_step_len (tb : List Int) (t : List BtPure.E) (a : Avl.Act3) : (Bt.stepT tb t a).length ≤ t.length + 1 := by
  unfold Bt.stepT
  split
  · exact BtPure.len_insL.1
  · split
    · split
      · exact BtPure.len_insL.1
      · omega
    · omega
theorem bt_small (tb : List Int) : ∀ (l : List Avl.Act3) (t : List BtPure.E) (y : Avl.Told4), y ∈ Bt.toldT tb t l → y.2.2.1.length ≤ t.length + l.length ∧ y.2.2.2.length = y.2.2.1.length
  | [], _, y, h => by simp [Bt.toldT] at h
  | a :: l, t, y, h => by
    rcases List.mem_cons.1 h with rfl | h
    · have hk : (Bt.keysV t).length ≤ t.length := by rw [Bt.keysV, List.length_map]; exact List.length_filter_le ..
      have hv := Bt.valsV_len t
      unfold Bt.tellT
      repeat' split
      all_goals refine ⟨?_, ?_⟩
      all_goals first | exact hv | rfl | (simp only [List.length_cons, List.length_nil]; omega)
    · obtain ⟨h1, h2⟩ := bt_small tb l _ y h
      have := bt_step_len tb t a
      simp only [List.length_cons]
      exact ⟨by omega, h2⟩
section
open Go.Proofs.Ytjlcebgfknfelaa.AvlPure.T (putL remL getL)
open Go.Proofs.Ytjlcebgfknfelaa.BtPure (E insL findL tell)
/-- Ranks and values of a row of pairs, and of the entries that are there. -/
def RA (rk : Int → Int) (L : List (Int × Int)) : List (Int × Int) := L.map fun p => (rk p.1, p.2)
def RB (rk : Int → Int) (raw : List E) : List (Int × Int) := (raw.filter (·.2.2)).map fun e => (rk e.1, e.2.1)
variable {rk : Int → Int} {k v : Int}
theorem RA_put : ∀ L, RA rk (putL rk k v L) = putL id (rk k) v (RA rk L)
  | [] => rfl
  | (a, b) :: l => by
    have ih := RA_put l
    simp only [RA, putL, List.map_cons, id_eq] at ih ⊢
    split
    · rw [List.map_cons, ih]
    · split <;> rfl
theorem RA_rem : ∀ L, RA rk (remL rk k L) = remL id (rk k) (RA rk L)
  | [] => rfl
  | (a, b) :: l => by
    have ih := RA_rem l
    simp only [RA, remL, List.map_cons, id_eq] at ih ⊢
    split
    · rw [List.map_cons, ih]
    · split <;> rfl
theorem RA_get : ∀ L, (getL rk k L).map (·.2) = (getL id (rk k) (RA rk L)).map (·.2)
  | [] => rfl
  | (a, b) :: l => by
    have ih := RA_get l
    simp only [RA, getL, List.map_cons, id_eq] at ih ⊢
    split
    · exact ih
    · split <;> rfl
theorem put_high {key : Int} {M : List (Int × Int)} (h : ∀ x ∈ M, key < x.1) : putL id key v M = (key, v) :: M := by
  cases M with
  | nil => rfl
  | cons x M => have := h x List.mem_cons_self; simp only [putL, id_eq]; rw [if_neg (by omega), if_pos this]
theorem rem_high {key : Int} {M : List (Int × Int)} (h : ∀ x ∈ M, key < x.1) : remL id key M = M := by
  cases M with
  | nil => rfl
  | cons x M => have := h x List.mem_cons_self; simp only [remL, id_eq]; rw [if_neg (by omega), if_pos this]
theorem get_high {key : Int} {M : List (Int × Int)} (h : ∀ x ∈ M, key < x.1) : getL id key M = none := by
  cases M with
  | nil => rfl
  | cons x M => have := h x List.mem_cons_self; simp only [getL, id_eq]; rw [if_neg (by omega), if_pos this]
theorem rem_none {key : Int} : ∀ {M : List (Int × Int)}, getL id key M = none → remL id key M = M
  | [], _ => rfl
  | (a, b) :: M, h => by
    simp only [getL, remL, id_eq] at h ⊢
    split at h
    · rename_i q; rw [if_pos q, rem_none h]
    · rename_i q; split at h
      · rename_i q2; rw [if_neg q, if_pos q2]
      · cases h
theorem RB_cons (e : E) (l : List E) : RB rk (e :: l) = if e.2.2 = true then (rk e.1, e.2.1) :: RB rk l else RB rk l := by
  cases hv : e.2.2 <;> simp [RB, hv]
theorem RB_high {key : Int} {l : List E} (h : ∀ x ∈ l, key < rk x.1) : ∀ x ∈ RB rk l, key < x.1 := by
  intro x hx
  obtain ⟨e, he, rfl⟩ := List.mem_map.1 hx
  exact h e (List.mem_filter.1 he).1
theorem RB_put : ∀ {raw : List E}, BtPure.Up rk raw → RB rk (insL rk k v true raw) = putL id (rk k) v (RB rk raw)
  | [], _ => rfl
  | e :: l, h => by
    obtain ⟨h1, h2⟩ := List.pairwise_cons.1 h
    rw [insL]
    split
    · rename_i q
      have hi := RB_high (rk := rk) (key := rk k) (l := l) (fun x hx => by rw [q]; exact h1 x hx)
      rw [RB_cons, RB_cons, if_pos rfl]
      split
      · simp only [putL, id_eq, q]; rw [if_neg (by omega), if_neg (by omega)]
      · rw [put_high hi, q]
    · split
      · rename_i q q2
        have hi := RB_high (rk := rk) (key := rk k) (l := e :: l) (fun x hx => by
          rcases List.mem_cons.1 hx with rfl | hx
          · exact q2
          · exact Int.lt_trans q2 (h1 x hx))
        rw [put_high hi, RB_cons, if_pos rfl]
      · rename_i q q2
        rw [RB_cons, RB_cons, RB_put h2]
        split
        · simp only [putL, id_eq]; rw [if_pos (by omega)]
        · rfl
theorem RB_rem : ∀ {raw : List E}, BtPure.Up rk raw → RB rk (insL rk k v false raw) = remL id (rk k) (RB rk raw)
  | [], _ => rfl
  | e :: l, h => by
    obtain ⟨h1, h2⟩ := List.pairwise_cons.1 h
    rw [insL]
    split
    · rename_i q
      have hi := RB_high (rk := rk) (key := rk k) (l := l) (fun x hx => by rw [q]; exact h1 x hx)
      rw [RB_cons, RB_cons, if_neg (by simp)]
      split
      · simp only [remL, id_eq, q]; rw [if_neg (by omega), if_neg (by omega)]
      · rw [rem_high hi]
    · split
      · rename_i q q2
        have hi := RB_high (rk := rk) (key := rk k) (l := e :: l) (fun x hx => by
          rcases List.mem_cons.1 hx with rfl | hx
          · exact q2
          · exact Int.lt_trans q2 (h1 x hx))
        rw [rem_high hi, RB_cons, if_neg (by simp)]
      · rename_i q q2
        rw [RB_cons, RB_cons, RB_rem h2]
        split
        · simp only [remL, id_eq]; rw [if_pos (by omega)]
        · rfl
theorem RB_get : ∀ {raw : List E}, BtPure.Up rk raw → (getL id (rk k) (RB rk raw) = none → (tell (findL rk k raw)).2 = false) ∧ ∀ p, getL id (rk k) (RB rk raw) = some p → tell (findL rk k raw) = (p.2, true)
  | [], _ => ⟨fun _ => rfl, fun p h => by cases h⟩
  | e :: l, h => by
    obtain ⟨h1, h2⟩ := List.pairwise_cons.1 h
    have ih := RB_get h2
    rw [RB_cons]
    by_cases q : rk k = rk e.1
    · have hi := RB_high (rk := rk) (key := rk k) (l := l) (fun x hx => by rw [q]; exact h1 x hx)
      have hf : findL rk k (e :: l) = some e := by unfold findL; rw [List.find?_cons_of_pos (by simpa using q)]
      rw [hf]
      by_cases hv : e.2.2 = true
      · rw [if_pos hv]
        have : getL id (rk k) ((rk e.1, e.2.1) :: RB rk l) = some (rk e.1, e.2.1) := by simp only [getL, id_eq, q]; rw [if_neg (by omega), if_neg (by omega)]
        rw [this]
        refine ⟨fun h => (by cases h), fun p hp => ?_⟩
        obtain rfl := Option.some.inj hp
        show e.2 = _
        rw [← hv]
      · rw [if_neg hv, get_high hi]
        exact ⟨fun _ => by simpa [tell] using hv, fun p hp => by cases hp⟩
    · have hf : findL rk k (e :: l) = findL rk k l := by unfold findL; rw [List.find?_cons_of_neg (by simpa using q)]
      rw [hf]
      by_cases hv : e.2.2 = true
      · rw [if_pos hv]
        by_cases q2 : rk e.1 < rk k
        · have : getL id (rk k) ((rk e.1, e.2.1) :: RB rk l) = getL id (rk k) (RB rk l) := by simp only [getL, id_eq]; rw [if_pos q2]
          rw [this]; exact ih
        · have hi := RB_high (rk := rk) (key := rk k) (l := l) (fun x hx => by have := h1 x hx; omega)
          have : getL id (rk k) ((rk e.1, e.2.1) :: RB rk l) = none := by simp only [getL, id_eq]; rw [if_neg q2, if_pos (by omega)]
          rw [this]
          exact ⟨fun _ => ih.1 (get_high hi), fun p hp => by cases hp⟩
      · rw [if_neg hv]; exact ih
end
/-! ### Dense ranks -/
theorem w1 (q : Nat) (h : q ≤ 1099511627776) : wrap64 ((q : Int) + 1) = ((q + 1 : Nat) : Int) := by rw [wrap64_in _ (by omega)]; rfl
/-- No earlier row holds the same. -/
def part (tb : List Int) (j q : Nat) : Bool := (List.range q).all fun p => decide (rd tb p ≠ rd tb j)
theorem part_next (tb : List Int) (j q : Nat) : part tb j (q + 1) = (part tb j q && decide (rd tb q ≠ rd tb j)) := by
  unfold part
  rw [List.range_succ, List.all_append]
  simp
def cnt (tb : List Int) (a : Int) : Nat → Nat
  | 0 => 0
  | j + 1 => if part tb j j = true ∧ rd tb j < a then cnt tb a j + 1 else cnt tb a j
theorem cnt_next (tb : List Int) (a : Int) (j : Nat) : cnt tb a (j + 1) = if part tb j j = true ∧ rd tb j < a then cnt tb a j + 1 else cnt tb a j := rfl
theorem cnt_le (tb : List Int) (a : Int) : ∀ j, cnt tb a j ≤ j
  | 0 => Nat.le_refl _
  | j + 1 => by have := cnt_le tb a j; unfold cnt; split <;> omega
theorem cnt_mono (tb : List Int) {a b : Int} (h : a < b) : ∀ j, cnt tb a j ≤ cnt tb b j
  | 0 => Nat.le_refl _
  | j + 1 => by
    have := cnt_mono tb h j
    unfold cnt
    by_cases c : part tb j j = true ∧ rd tb j < a
    · rw [if_pos c, if_pos ⟨c.1, by omega⟩]; omega
    · rw [if_neg c]; split <;> omega
theorem cnt_less (tb : List Int) {a b : Int} (h : a < b) (p : Nat) (hp : part tb p p = true) (ha : rd tb p = a) : ∀ j, p < j → cnt tb a j < cnt tb b j
  | 0, hj => by omega
  | j + 1, hj => by
    unfold cnt
    by_cases e : p = j
    · subst e
      have := cnt_mono tb h p
      rw [if_neg (by omega), if_pos ⟨hp, by omega⟩]; omega
    · have := cnt_less tb h p hp ha j (by omega)
      by_cases c : part tb j j = true ∧ rd tb j < a
      · rw [if_pos c, if_pos ⟨c.1, by omega⟩]; omega
      · rw [if_neg c]; split <;> omega
theorem first_at (tb : List Int) : ∀ i : Nat, ∃ p, p ≤ i ∧ part tb p p = true ∧ rd tb p = rd tb i := by
  intro i
  induction i using Nat.strongRecOn with
  | ind i ih =>
    by_cases c : part tb i i = true
    · exact ⟨i, Nat.le_refl _, c, rfl⟩
    · have : ∃ p, p < i ∧ rd tb p = rd tb i := by
        simpa [part] using c
      obtain ⟨q, hq, e⟩ := this
      obtain ⟨p, hp, h1, h2⟩ := ih q hq
      exact ⟨p, by omega, h1, h2.trans e⟩
/-- The turned rank of a rank. -/
def G (tb : List Int) (a : Int) : Int := (tb.length : Int) - 1 - cnt tb a tb.length
theorem G_less (tb : List Int) {a b : Int} (i : Nat) (hi : i < tb.length) (ha : rd tb i = a) (h : a < b) : G tb b < G tb a := by
  obtain ⟨p, hp, h1, h2⟩ := first_at tb i
  have := cnt_less tb h p h1 (h2.trans ha) tb.length (by omega)
  unfold G
  omega
def denseOf (tb : List Int) (i : Nat) : List Int := (List.range i).map fun p : Nat => (cnt tb (rd tb (p : Int)) tb.length : Int)
theorem denseOf_next (tb : List Int) (i : Nat) : denseOf tb (i + 1) = denseOf tb i ++ [(cnt tb (rd tb i) tb.length : Int)] := by
  unfold denseOf
  rw [List.range_succ, List.map_append, List.map_singleton]
theorem denseOf_len (tb : List Int) (i : Nat) : (denseOf tb i).length = i := by simp [denseOf]
theorem l2_ev (tb : List Int) (ht : tb.length ≤ 2147483647) (o r : List Int) (i j : Nat) (hi : i < tb.length) (hj : j < tb.length)
    (hn : Ev (fun k => spec_Dense.l1 k tb o i (cnt tb (rd tb i) (j + 1) : Int) ((j + 1 : Nat) : Int)) r) (d : Nat) : ∀ q : Nat, q + d = j → Ev (fun k => spec_Dense.l2 k tb o i (cnt tb (rd tb i) j : Int) j (part tb j q) q) r := by
  have hc := cnt_le tb (rd tb i) j
  induction d with
  | zero =>
    intro q hq
    obtain rfl : q = j := by omega
    refine Ev.step (fun k => ?_) hn
    simp only [spec_Dense.l2]
    rw [if_neg (by omega), cnt_next]
    by_cases c : part tb q q = true
    · rw [if_pos c, if_pos (by omega), if_pos (by omega), if_pos (by omega), if_pos (by omega)]
      by_cases c2 : rd tb q < rd tb i
      · rw [if_pos c2, if_pos ⟨c, c2⟩, w1 q (by omega), w1 _ (by omega)]
      · rw [if_neg c2, if_neg (fun h => c2 h.2), w1 q (by omega)]
    · rw [if_neg c, if_neg (fun h => c h.1), w1 q (by omega)]
  | succ d ih =>
    intro q hq
    refine Ev.step (fun k => ?_) (ih (q + 1) (by omega))
    simp only [spec_Dense.l2]
    rw [if_pos (by omega), w1 q (by omega), part_next]
    by_cases c : part tb j q = true
    · rw [if_pos c, if_pos (by omega), if_pos (by omega), if_pos (by omega), if_pos (by omega), c, Bool.true_and]
      congr 1
      by_cases e : rd tb q = rd tb j
      · rw [e]; simp
      · simp [e]
    · rw [if_neg c]
      have c' : part tb j q = false := by simpa using c
      rw [c', Bool.false_and]
theorem l1_ev (tb : List Int) (ht : tb.length ≤ 2147483647) (r : List Int) (i : Nat) (hi : i < tb.length)
    (hn : Ev (fun k => spec_Dense.l0 k tb (denseOf tb (i + 1)) ((i + 1 : Nat) : Int)) r) (d : Nat) : ∀ j : Nat, j + d = tb.length → Ev (fun k => spec_Dense.l1 k tb (denseOf tb i) i (cnt tb (rd tb i) j : Int) j) r := by
  induction d with
  | zero =>
    intro j hj
    obtain rfl : j = tb.length := by omega
    refine Ev.step (fun k => ?_) hn
    simp only [spec_Dense.l1]
    rw [if_neg (by omega), denseOf_len, if_pos (by omega), w1 i (by omega), denseOf_next]
  | succ d ih =>
    intro j hj
    refine Ev.step (fun k => ?_) (l2_ev tb ht (denseOf tb i) r i j hi (by omega) (ih (j + 1) (by omega)) j 0 (Nat.zero_add _))
    simp only [spec_Dense.l1]
    rw [if_pos (by omega)]
    rfl
theorem l0_ev (tb : List Int) (ht : tb.length ≤ 2147483647) (d : Nat) : ∀ i : Nat, i + d = tb.length → Ev (fun k => spec_Dense.l0 k tb (denseOf tb i) i) (denseOf tb tb.length) := by
  induction d with
  | zero =>
    intro i hi
    obtain rfl : i = tb.length := by omega
    refine Ev.step (f := fun _ => some (denseOf tb tb.length)) (fun k => ?_) (Ev.now _)
    simp only [spec_Dense.l0]
    rw [if_neg (by omega)]
  | succ d ih =>
    intro i hi
    refine Ev.step (fun k => ?_) (l1_ev tb ht _ i (by omega) (ih (i + 1) (by omega)) tb.length 0 (Nat.zero_add _))
    simp only [spec_Dense.l0]
    rw [if_pos (by omega)]
    rfl
/-- The turned table. -/
def turn (tb : List Int) (i : Nat) : List Int := (List.range i).map fun p : Nat => G tb (rd tb (p : Int))
theorem turn_next (tb : List Int) (i : Nat) : turn tb (i + 1) = turn tb i ++ [G tb (rd tb i)] := by
  unfold turn
  rw [List.range_succ, List.map_append, List.map_singleton]
theorem turn_len (tb : List Int) (i : Nat) : (turn tb i).length = i := by simp [turn]
theorem turn_row (tb : List Int) (ht : tb.length ≤ 2147483647) (d : Nat) : ∀ i : Nat, i + d = tb.length → Ev (fun k => spec_Turned.l0 k (turn tb i) (denseOf tb tb.length) i) (turn tb tb.length) := by
  have hl := denseOf_len tb tb.length
  induction d with
  | zero =>
    intro i hi
    obtain rfl : i = tb.length := by omega
    refine Ev.step (f := fun _ => some (turn tb tb.length)) (fun k => ?_) (Ev.now _)
    simp only [spec_Turned.l0]
    rw [if_neg (by omega)]
  | succ d ih =>
    intro i hi
    have hc := cnt_le tb (rd tb i) tb.length
    have hr : rd (denseOf tb tb.length) i = (cnt tb (rd tb i) tb.length : Int) := by
      unfold denseOf rd
      rw [Int.toNat_natCast, List.getD_eq_getElem?_getD, List.getElem?_map, List.getElem?_range (by omega)]
      rfl
    refine Ev.step (fun k => ?_) (ih (i + 1) (by omega))
    simp only [spec_Turned.l0]
    rw [if_pos (by omega), if_pos (by omega), turn_len, if_pos (by omega), hr, hl, wrap64_in ((tb.length : Int) - 1) (by omega), wrap64_in _ (by omega), w1 i (by omega), turn_next]
    rfl
theorem turned_ev (tb : List Int) (ht : tb.length ≤ 2147483647) : Ev (fun k => spec_Turned.f k tb) (turn tb tb.length) := by
  unfold spec_Turned.f spec_Dense.f
  exact Ev.bind (l0_ev tb ht tb.length 0 (Nat.zero_add _)) (turn_row tb ht tb.length 0 (Nat.zero_add _))
theorem rank_at (tb : List Int) (h : 0 < tb.length) (k : Int) : ∃ i : Nat, i < tb.length ∧ rankOf tb k = rd tb i := by
  have a0 := Int.emod_nonneg k (show (tb.length : Int) ≠ 0 by omega)
  have a1 := Int.emod_lt_of_pos k (show (0 : Int) < tb.length by omega)
  refine ⟨(k % (tb.length : Int)).toNat, by omega, ?_⟩
  unfold rankOf
  rw [if_neg (List.length_pos_iff.1 h), Int.toNat_of_nonneg a0]
theorem rank_turn (tb : List Int) (h : 0 < tb.length) (k : Int) : rankOf (turn tb tb.length) k = G tb (rankOf tb k) := by
  have a0 := Int.emod_nonneg k (show (tb.length : Int) ≠ 0 by omega)
  have a1 := Int.emod_lt_of_pos k (show (0 : Int) < tb.length by omega)
  unfold rankOf
  rw [if_neg (List.length_pos_iff.1 h), if_neg (List.length_pos_iff.1 (by rw [turn_len]; exact h)), turn_len]
  obtain ⟨i, hi⟩ : ∃ i : Nat, (i : Int) = k % (tb.length : Int) := ⟨_, Int.toNat_of_nonneg a0⟩
  rw [← hi]
  have : i < tb.length := by omega
  unfold turn rd
  rw [Int.toNat_natCast, List.getD_eq_getElem?_getD, List.getElem?_map, List.getElem?_range (by omega)]
  rfl
/-! ### Rows of ranks and values, and the same from behind -/
section
open AvlPure.T (putL remL getL)
def stepM (rk : Int → Int) (M : List (Int × Int)) (a : Avl.Act3) : List (Int × Int) := if a.1 = 0 then putL id (rk a.2.1) a.2.2 M else if a.1 = 1 then remL id (rk a.2.1) M else M
def runM (rk : Int → Int) : List (Int × Int) → List Avl.Act3 → List (Int × Int)
  | M, [] => M
  | M, a :: l => runM rk (stepM rk M a) l
theorem avl_M (tb : List Int) : ∀ (l : List Avl.Act3) (t : AvlPure.T), AvlPure.T.Up (rankOf tb) t.list → RA (rankOf tb) (Avl.runT tb t l).list = runM (rankOf tb) (RA (rankOf tb) t.list) l
  | [], _, _ => rfl
  | a :: l, t, hu => by
    have hs : AvlPure.T.Up (rankOf tb) (Avl.stepT tb t a).list ∧ RA (rankOf tb) (Avl.stepT tb t a).list = stepM (rankOf tb) (RA (rankOf tb) t.list) a := by
      unfold Avl.stepT stepM
      by_cases h0 : a.1 = 0
      · rw [if_pos h0, if_pos h0, AvlPure.T.list_ins hu]
        exact ⟨AvlPure.T.up_putL hu, RA_put _⟩
      · rw [if_neg h0, if_neg h0]
        by_cases h1 : a.1 = 1
        · rw [if_pos h1, if_pos h1, AvlPure.T.list_rem _ hu]
          exact ⟨AvlPure.T.up_remL hu, RA_rem _⟩
        · rw [if_neg h1, if_neg h1]; exact ⟨hu, rfl⟩
    have := avl_M tb l (Avl.stepT tb t a) hs.1
    rw [hs.2] at this
    exact this
theorem bt_M (tb : List Int) : ∀ (l : List Avl.Act3) (t : List BtPure.E), BtPure.Up (rankOf tb) t → RB (rankOf tb) (Bt.runT tb t l) = runM (rankOf tb) (RB (rankOf tb) t) l
  | [], _, _ => rfl
  | a :: l, t, hu => by
    have hs : BtPure.Up (rankOf tb) (Bt.stepT tb t a) ∧ RB (rankOf tb) (Bt.stepT tb t a) = stepM (rankOf tb) (RB (rankOf tb) t) a := by
      unfold Bt.stepT stepM
      by_cases h0 : a.1 = 0
      · rw [if_pos h0, if_pos h0]
        exact ⟨BtPure.up_insL hu, RB_put hu⟩
      · rw [if_neg h0, if_neg h0]
        by_cases h1 : a.1 = 1
        · rw [if_pos h1, if_pos h1]
          by_cases ht : (BtPure.tell (BtPure.findL (rankOf tb) a.2.1 t)).2 = true
          · rw [if_pos ht]
            exact ⟨BtPure.up_insL hu, RB_rem hu⟩
          · rw [if_neg ht]
            refine ⟨hu, (rem_none ?_).symm⟩
            cases hg : getL id (rankOf tb a.2.1) (RB (rankOf tb) t) with
            | none => rfl
            | some p => exact absurd (by rw [(RB_get hu).2 p hg]) ht
        · rw [if_neg h1, if_neg h1]; exact ⟨hu, rfl⟩
    have := bt_M tb l (Bt.stepT tb t a) hs.1
    rw [hs.2] at this
    exact this
variable {g : Int → Int} {S : Int → Prop}
/-- The row turned: other ranks, from behind. -/
def back (g : Int → Int) (M : List (Int × Int)) : List (Int × Int) := (M.map fun p => (g p.1, p.2)).reverse
theorem back_cons (a u : Int) (M : List (Int × Int)) : back g ((a, u) :: M) = back g M ++ [(g a, u)] := by simp [back]
theorem back_mem {M : List (Int × Int)} {x : Int × Int} (h : x ∈ back g M) : ∃ p ∈ M, x = (g p.1, p.2) := by
  unfold back at h
  rw [List.mem_reverse] at h
  obtain ⟨p, hp, rfl⟩ := List.mem_map.1 h
  exact ⟨p, hp, rfl⟩
theorem back_low (hg : ∀ x y, S x → S y → x < y → g y < g x) {M : List (Int × Int)} {r : Int} (hr : S r) (hS : ∀ p ∈ M, S p.1) (h : ∀ p ∈ M, r < p.1) : ∀ x ∈ back g M, id x.1 < id (g r) := by
  intro x hx
  obtain ⟨p, hp, rfl⟩ := back_mem hx
  exact hg _ _ hr (hS p hp) (h p hp)
theorem put_back (hg : ∀ x y, S x → S y → x < y → g y < g x) {r : Int} (v : Int) (hr : S r) : ∀ {M : List (Int × Int)}, AvlPure.T.Up id M → (∀ p ∈ M, S p.1) → putL id (g r) v (back g M) = back g (putL id r v M)
  | [], _, _ => rfl
  | (a, u) :: M, hu, hS => by
    obtain ⟨h1, h2⟩ := List.pairwise_cons.1 hu
    have ha : S a := hS _ List.mem_cons_self
    have hS' : ∀ p ∈ M, S p.1 := fun p hp => hS p (List.mem_cons_of_mem _ hp)
    have ih := put_back hg v hr h2 hS'
    have h1' : ∀ p ∈ M, a < p.1 := fun p hp => h1 p hp
    simp only [putL, id_eq]
    by_cases c : a < r
    · rw [if_pos c, back_cons, back_cons, AvlPure.T.putL_low (rk := id) (hg _ _ ha hr c), ih]
    · rw [if_neg c]
      by_cases c2 : r < a
      · have := AvlPure.T.putL_high (rk := id) (key := g r) (val := v) (R := []) (back g ((a, u) :: M)) (back_low hg hr hS (fun p hp => by
          rcases List.mem_cons.1 hp with rfl | hp
          · exact c2
          · exact Int.lt_trans c2 (h1' p hp)))
        rw [List.append_nil] at this
        rw [if_pos c2, this, back_cons r v]
        rfl
      · have e : r = a := by omega
        subst e
        rw [if_neg c2, back_cons, back_cons, AvlPure.T.putL_high (rk := id) (back g M) (back_low hg hr hS' h1')]
        simp [putL]
theorem rem_back (hg : ∀ x y, S x → S y → x < y → g y < g x) {r : Int} (hr : S r) : ∀ {M : List (Int × Int)}, AvlPure.T.Up id M → (∀ p ∈ M, S p.1) → remL id (g r) (back g M) = back g (remL id r M)
  | [], _, _ => rfl
  | (a, u) :: M, hu, hS => by
    obtain ⟨h1, h2⟩ := List.pairwise_cons.1 hu
    have ha : S a := hS _ List.mem_cons_self
    have hS' : ∀ p ∈ M, S p.1 := fun p hp => hS p (List.mem_cons_of_mem _ hp)
    have ih := rem_back hg hr h2 hS'
    have h1' : ∀ p ∈ M, a < p.1 := fun p hp => h1 p hp
    simp only [remL, id_eq]
    by_cases c : a < r
    · rw [if_pos c, back_cons, back_cons, AvlPure.T.remL_low (rk := id) (hg _ _ ha hr c), ih]
    · rw [if_neg c]
      by_cases c2 : r < a
      · have := AvlPure.T.remL_high (rk := id) (key := g r) (R := []) (back g ((a, u) :: M)) (back_low hg hr hS (fun p hp => by
          rcases List.mem_cons.1 hp with rfl | hp
          · exact c2
          · exact Int.lt_trans c2 (h1' p hp)))
        rw [List.append_nil] at this
        rw [if_pos c2, this]
        simp [remL]
      · have e : r = a := by omega
        subst e
        rw [if_neg c2, back_cons, AvlPure.T.remL_high (rk := id) (back g M) (back_low hg hr hS' h1')]
        simp [remL]
theorem run_back (hg : ∀ x y, S x → S y → x < y → g y < g x) {rk rk' : Int → Int} (hk : ∀ k, rk' k = g (rk k)) (hrk : ∀ k, S (rk k)) : ∀ (l : List Avl.Act3) (M : List (Int × Int)), AvlPure.T.Up id M → (∀ p ∈ M, S p.1) →
    runM rk' (back g M) l = back g (runM rk M l) ∧ ∀ p ∈ runM rk M l, S p.1
  | [], _, _, hS => ⟨rfl, hS⟩
  | a :: l, M, hu, hS => by
    have hs : stepM rk' (back g M) a = back g (stepM rk M a) ∧ AvlPure.T.Up id (stepM rk M a) ∧ ∀ p ∈ stepM rk M a, S p.1 := by
      unfold stepM
      rw [hk]
      by_cases h0 : a.1 = 0
      · rw [if_pos h0, if_pos h0]
        refine ⟨put_back hg _ (hrk _) hu hS, AvlPure.T.up_putL hu, fun p hp => ?_⟩
        rcases AvlPure.T.mem_putL hp with rfl | ⟨y, hy, e⟩
        · exact hrk _
        · have e' : y.1 = p.1 := e
          rw [← e']; exact hS y hy
      · rw [if_neg h0, if_neg h0]
        by_cases h1 : a.1 = 1
        · rw [if_pos h1, if_pos h1]
          exact ⟨rem_back hg (hrk _) hu hS, AvlPure.T.up_remL hu, fun p hp => hS p (AvlPure.T.mem_remL hp)⟩
        · rw [if_neg h1, if_neg h1]; exact ⟨rfl, hu, hS⟩
    have := run_back hg hk hrk l (stepM rk M a) hs.2.1 hs.2.2
    rw [← hs.1] at this
    exact this
end
/-! ### What the last step tells -/
theorem avl_app (tb : List Int) : ∀ (l : List Avl.Act3) (t : AvlPure.T) (x : Avl.Act3), Avl.toldT tb t (l ++ [x]) = Avl.toldT tb t l ++ [Avl.tellT tb (Avl.runT tb t l) x]
  | [], _, _ => rfl
  | a :: l, t, x => congrArg (Avl.tellT tb t a :: ·) (avl_app tb l _ x)
theorem bt_app (tb : List Int) : ∀ (l : List Avl.Act3) (t : List BtPure.E) (x : Avl.Act3), Bt.toldT tb t (l ++ [x]) = Bt.toldT tb t l ++ [Bt.tellT tb (Bt.runT tb t l) x]
  | [], _, _ => rfl
  | a :: l, t, x => congrArg (Bt.tellT tb t a :: ·) (bt_app tb l _ x)
abbrev trip (x : S66) : Avl.Act3 := (x.f0, x.f1, x.f2)
theorem last_one (l : List Avl.Told4) (u : Avl.Told4) (hl : l.length ≤ 2147483647) : laws_treeLast.f ((l ++ [u]).map told_of) 1 = some (u.1, u.2.1, u.2.2.1, u.2.2.2, true) := by
  have hlen : ((l ++ [u]).map told_of).length = l.length + 1 := by simp
  have hat : rd_T46 ((l ++ [u]).map told_of) ((l.length : Nat) : Int) = told_of u := by
    unfold rd_T46
    rw [Int.toNat_natCast, List.getD_eq_getElem?_getD, List.map_append, List.getElem?_append_right (by simp)]
    simp
  unfold laws_treeLast.f
  generalize (l ++ [u]).map told_of = tt at hlen hat
  have w : wrap64 (((l.length + 1 : Nat) : Int) - 1) = ((l.length : Nat) : Int) := by rw [wrap64_in _ (by omega)]; omega
  rw [if_neg (by omega), hlen, w, if_pos (by omega), if_pos (by omega), hat]
  rfl
theorem last_ev (x : Int) (tb : List Int) (ht : tb.length ≤ 2147483647) (l : List S66) (hl : l.length ≤ 2147483647) : ∃ T ks vs, impl_BtreeRun.f x tb (l ++ [⟨4, 0, 0⟩]) = some T ∧ laws_treeLast.f T 1 = some (0, false, ks, vs, true) ∧
    ks.map (rankOf tb) = (runM (rankOf tb) [] (l.map trip)).map (·.1) ∧ vs = (runM (rankOf tb) [] (l.map trip)).map (·.2) ∧ ks.length ≤ 2147483647 := by
  have hm : ∀ (ks : List Int), ks.map (rankOf tb) = (runM (rankOf tb) [] (l.map trip)).map (·.1) → ks.length = (runM (rankOf tb) [] (l.map trip)).length := fun ks h => by simpa using congrArg List.length h
  unfold impl_BtreeRun.f
  rw [if_pos ht, if_pos (by rw [List.length_append, List.length_singleton]; omega)]
  by_cases q : x = 33
  · rw [if_pos q]
    have hM : RB (rankOf tb) (Bt.runT tb [] (l.map trip)) = runM (rankOf tb) [] (l.map trip) := bt_M tb (l.map trip) [] List.Pairwise.nil
    refine ⟨_, Bt.keysV (Bt.runT tb [] (l.map trip)), Bt.valsV (Bt.runT tb [] (l.map trip)), rfl, ?_, ?_, ?_, ?_⟩
    · rw [List.map_append, List.map_singleton, bt_app]
      exact last_one _ _ (by rw [Bt.toldT_length, List.length_map]; omega)
    · have := congrArg (List.map (·.1)) hM
      simpa [RB, Bt.keysV, Function.comp_def] using this
    · have := congrArg (List.map (·.2)) hM
      simpa [RB, Bt.valsV, Function.comp_def] using this
    · have hr : ∀ (l : List Avl.Act3) (t : List BtPure.E), (Bt.runT tb t l).length ≤ t.length + l.length := fun l => by
        induction l with
        | nil => intro t; exact Nat.le_refl _
        | cons a l ih => intro t; have := ih (Bt.stepT tb t a); have := bt_step_len tb t a; simp only [Bt.runT, List.length_cons]; omega
      have := hr (l.map trip) []
      have hk : (Bt.keysV (Bt.runT tb [] (l.map trip))).length ≤ (Bt.runT tb [] (l.map trip)).length := by rw [Bt.keysV, List.length_map]; exact List.length_filter_le ..
      simp only [List.length_map, List.length_nil] at this
      omega
  · rw [if_neg q]
    have hM : RA (rankOf tb) (Avl.runT tb .nil (l.map trip)).list = runM (rankOf tb) [] (l.map trip) := avl_M tb (l.map trip) .nil List.Pairwise.nil
    refine ⟨_, Avl.keys (Avl.runT tb .nil (l.map trip)), Avl.vals (Avl.runT tb .nil (l.map trip)), rfl, ?_, ?_, ?_, ?_⟩
    · rw [List.map_append, List.map_singleton, avl_app]
      exact last_one _ _ (by rw [Avl.toldT_length, List.length_map]; omega)
    · have := congrArg (List.map (·.1)) hM
      simpa [RA, Avl.keys, Function.comp_def] using this
    · have := congrArg (List.map (·.2)) hM
      simpa [RA, Avl.vals, Function.comp_def] using this
    · have hr : ∀ (l : List Avl.Act3) (t : AvlPure.T), (Avl.runT tb t l).size ≤ t.size + l.length := fun l => by
        induction l with
        | nil => intro t; simp [Avl.runT]
        | cons a l ih => intro t; have := ih (Avl.stepT tb t a); have := avl_step_size tb t a; simp only [Avl.runT, List.length_cons]; omega
      have := hr (l.map trip) .nil
      have hk := Avl.keys_length (Avl.runT tb .nil (l.map trip))
      simp only [List.length_map, AvlPure.T.size] at this
      omega
/-! ### The law's own loops -/
theorem j3_ev (tb tt : List Int) (ht : tb.length ≤ 2147483647) (h0 : 0 < tb.length) (x6 : List S66) (x7 : Int) (M : List (Int × Int)) (hS : ∀ p ∈ M, ∃ i : Nat, i < tb.length ∧ rd tb i = p.1) (ks vs ks' vs' : List Int) (hl : ks.length ≤ 2147483647)
    (e1 : ks.map (rankOf tb) = M.map (·.1)) (e2 : vs = M.map (·.2)) (e3 : ks'.map (fun k => G tb (rankOf tb k)) = (back (G tb) M).map (·.1)) (e4 : vs' = (back (G tb) M).map (·.2))
    (hn : Ev (fun k => laws_FnTreesTurn.l0 k tb tt x6 (wrap64 (x7 + 1))) true) (d : Nat) : ∀ i : Nat, i + d = ks.length → Ev (fun k => laws_FnTreesTurn.l1 k tb tt x6 x7 ks.length i 0 false ks vs 0 false ks' vs') true := by
  have lM : ks.length = M.length := by simpa using congrArg List.length e1
  have lv : vs.length = M.length := by rw [e2, List.length_map]
  have lb : (back (G tb) M).length = M.length := by simp [back]
  have lk' : ks'.length = M.length := by have := congrArg List.length e3; rw [List.length_map, List.length_map, lb] at this; exact this
  have lv' : vs'.length = M.length := by rw [e4, List.length_map, lb]
  have hat : ∀ i : Nat, i < M.length → ∃ p ∈ M, rankOf tb (rd ks i) = p.1 ∧ rd vs i = p.2 ∧ G tb (rankOf tb (rd ks' ((M.length - 1 - i : Nat) : Int))) = G tb p.1 ∧ rd vs' ((M.length - 1 - i : Nat) : Int) = p.2 := by
    intro i hi
    have hb : (back (G tb) M)[M.length - 1 - i]? = some (G tb M[i].1, M[i].2) := by
      unfold back
      rw [List.getElem?_reverse (by rw [List.length_map]; omega), List.length_map, List.getElem?_map, show M.length - 1 - (M.length - 1 - i) = i by omega, List.getElem?_eq_getElem hi]
      rfl
    refine ⟨M[i], List.getElem_mem hi, ?_, ?_, ?_, ?_⟩
    · have a := congrArg (fun l => l[i]?) e1
      simp only [List.getElem?_map] at a
      unfold rd
      rw [Int.toNat_natCast, List.getD_eq_getElem?_getD]
      rw [List.getElem?_eq_getElem (by omega), List.getElem?_eq_getElem hi] at a
      rw [List.getElem?_eq_getElem (by omega)]
      simpa using a
    · subst e2
      unfold rd
      rw [Int.toNat_natCast, List.getD_eq_getElem?_getD, List.getElem?_map, List.getElem?_eq_getElem hi]
      rfl
    · have a := congrArg (fun l => l[M.length - 1 - i]?) e3
      simp only [List.getElem?_map, hb] at a
      unfold rd
      rw [Int.toNat_natCast, List.getD_eq_getElem?_getD]
      rw [List.getElem?_eq_getElem (by omega)] at a ⊢
      simpa using a
    · subst e4
      unfold rd
      rw [Int.toNat_natCast, List.getD_eq_getElem?_getD, List.getElem?_map, hb]
      rfl
  induction d with
  | zero =>
    intro i hi
    refine Ev.step (fun k => ?_) hn
    simp only [laws_FnTreesTurn.l1]
    rw [if_neg (by omega)]
  | succ d ih =>
    intro i hi
    obtain ⟨p, hp, a1, a2, a3, a4⟩ := hat i (by omega)
    have ej : wrap64 (wrap64 ((ks.length : Int) - 1) - (i : Int)) = ((M.length - 1 - i : Nat) : Int) := by
      rw [wrap64_in ((ks.length : Int) - 1) (by omega), wrap64_in _ (by omega)]
      omega
    have er : rankOf tb (rd ks' ((M.length - 1 - i : Nat) : Int)) = p.1 := by
      obtain ⟨j, hj, ej⟩ := hS p hp
      obtain ⟨j', hj', ej'⟩ := rank_at tb h0 (rd ks' ((M.length - 1 - i : Nat) : Int))
      by_cases c : rankOf tb (rd ks' ((M.length - 1 - i : Nat) : Int)) < p.1
      · have := G_less tb j' hj' ej'.symm c; omega
      · by_cases c2 : p.1 < rankOf tb (rd ks' ((M.length - 1 - i : Nat) : Int))
        · have := G_less tb j hj ej c2; omega
        · omega
    refine Ev.step (fun k => ?_) (ih (i + 1) (by omega))
    simp only [laws_FnTreesTurn.l1]
    rw [ej, if_pos (by omega), if_pos (by omega), if_pos (by omega), if_pos (by omega), if_pos (by omega), alike_some tb ht, Option.bind_some, a1, er, if_pos (by simp), if_pos (by omega), if_pos (by omega), a2, a4, if_pos rfl, w1 i (by omega)]
theorem FnTreesTurn (tb : List Int) (l1 : List S66) : ∃ k, laws_FnTreesTurn.f k tb l1 = some true := by
  refine Ev.rounds (g := fun k => laws_FnTreesTurn.f k tb l1) ?_
  have hyes : Ev (fun k => laws_FnTreesTurn.j0 k tb l1 true) true := Ev.step (f := fun _ => some true) (fun k => by simp only [laws_FnTreesTurn.j0]; rfl) (Ev.now _)
  unfold laws_FnTreesTurn.f
  by_cases h0 : (tb.length : Int) > 2147483647
  · exact Ev.congr (fun k => if_pos h0) hyes
  refine Ev.congr (fun k => if_neg h0) ?_
  by_cases h1 : (l1.length : Int) > 2147483647
  · rw [decide_eq_true h1]; exact hyes
  rw [decide_eq_false h1]
  have ht : tb.length ≤ 2147483647 := by omega
  have hl : l1.length ≤ 2147483647 := by omega
  by_cases hz : (tb.length : Int) = 0
  · refine Ev.step (f := fun _ => some true) (fun k => ?_) (Ev.now _)
    simp only [laws_FnTreesTurn.j0]
    rw [if_neg (by decide), if_pos hz]
  have hp : 0 < tb.length := by omega
  have htt : (turn tb tb.length).length ≤ 2147483647 := by rw [turn_len]; exact ht
  have hg : ∀ x y, (∃ i : Nat, i < tb.length ∧ rd tb i = x) → (∃ i : Nat, i < tb.length ∧ rd tb i = y) → x < y → G tb y < G tb x := fun x y hx _ h => by
    obtain ⟨i, hi, e⟩ := hx
    exact G_less tb i hi e h
  have hR := run_back hg (rank_turn tb hp) (fun k => by obtain ⟨i, hi, e⟩ := rank_at tb hp k; exact ⟨i, hi, e.symm⟩) (l1.map trip) [] List.Pairwise.nil (fun p hp => by simp at hp)
  have hkind : ∀ (x7 x8 : Int), Ev (fun k => laws_FnTreesTurn.l0 k tb (turn tb tb.length) (l1 ++ [⟨4, 0, 0⟩]) (wrap64 (x7 + 1))) true → Ev (fun k => laws_FnTreesTurn.j2 k tb (turn tb tb.length) (l1 ++ [⟨4, 0, 0⟩]) x7 x8) true := by
    intro x7 x8 hn
    obtain ⟨T1, ks, vs, a1, a2, a3, a4, a5⟩ := last_ev x8 tb ht l1 hl
    obtain ⟨T2, ks', vs', b1, b2, b3, b4, _⟩ := last_ev x8 (turn tb tb.length) htt l1 hl
    have eM : runM (rankOf (turn tb tb.length)) [] (l1.map trip) = back (G tb) (runM (rankOf tb) [] (l1.map trip)) := hR.1
    rw [eM] at b3 b4
    have b3' : ks'.map (fun k => G tb (rankOf tb k)) = (back (G tb) (runM (rankOf tb) [] (l1.map trip))).map (·.1) := by
      rw [← b3]
      exact List.map_congr_left (fun k _ => (rank_turn tb hp k).symm)
    have hj := j3_ev tb (turn tb tb.length) ht hp (l1 ++ [⟨4, 0, 0⟩]) x7 _ hR.2 ks vs ks' vs' a5 a3 a4 b3' b4 hn ks.length 0 (Nat.zero_add _)
    have lM : ks.length = (runM (rankOf tb) [] (l1.map trip)).length := by simpa using congrArg List.length a3
    have lb : (back (G tb) (runM (rankOf tb) [] (l1.map trip))).length = (runM (rankOf tb) [] (l1.map trip)).length := by simp [back]
    have lk' : ks'.length = ks.length := by have := congrArg List.length b3; rw [List.length_map, List.length_map, lb] at this; omega
    have lv : vs.length = ks.length := by rw [a4, List.length_map]; omega
    have lv' : vs'.length = ks.length := by rw [b4, List.length_map, lb]; omega
    refine Ev.step (f := fun k => laws_FnTreesTurn.j3 k tb (turn tb tb.length) (l1 ++ [⟨4, 0, 0⟩]) x7 ks.length false 0 false ks vs 0 false ks' vs') (fun k => ?_) (Ev.step (fun k => ?_) hj)
    · simp only [laws_FnTreesTurn.j2]
      rw [a1, Option.bind_some, a2, Option.bind_some, b1, Option.bind_some, b2, Option.bind_some]
      dsimp only
      rw [if_pos rfl, if_pos rfl, if_pos (by omega), if_pos (by omega), lv']
      simp
    · simp only [laws_FnTreesTurn.j3]
      rw [if_neg (by decide)]
      rfl
  have hend : Ev (fun k => laws_FnTreesTurn.l0 k tb (turn tb tb.length) (l1 ++ [⟨4, 0, 0⟩]) (wrap64 (1 + 1))) true := by
    refine Ev.step (f := fun _ => some true) (fun k => ?_) (Ev.now _)
    simp only [laws_FnTreesTurn.l0]
    rw [show wrap64 (1 + 1) = 2 from wrap64_in _ (by omega), if_neg (by omega)]
  have hone : Ev (fun k => laws_FnTreesTurn.l0 k tb (turn tb tb.length) (l1 ++ [⟨4, 0, 0⟩]) (wrap64 (0 + 1))) true := by
    refine Ev.step (fun k => ?_) (hkind 1 33 hend)
    simp only [laws_FnTreesTurn.l0]
    rw [show wrap64 (0 + 1) = 1 from wrap64_in _ (by omega), if_pos (by omega), if_pos rfl]
  have hzero : Ev (fun k => laws_FnTreesTurn.l0 k tb (turn tb tb.length) (l1 ++ [⟨4, 0, 0⟩]) 0) true := by
    refine Ev.step (fun k => ?_) (hkind 0 23 hone)
    simp only [laws_FnTreesTurn.l0]
    rw [if_pos (by omega), if_neg (by omega)]
  refine Ev.step (f := fun k => (spec_Turned.f k tb).bind fun t => laws_FnTreesTurn.l0 k tb t (l1 ++ [⟨4, 0, 0⟩]) 0) (fun k => ?_) (Ev.bind (turned_ev tb ht) hzero)
  simp only [laws_FnTreesTurn.j0]
  rw [if_neg (by decide), if_neg hz]
  congr 1
  funext t
  rw [Option.bind_some, if_pos (by simp; omega), Option.bind_some, List.nil_append, if_pos (by omega)]
end Go.Proofs.Ytjlcebgfknfelaa.TreesTurnPure
