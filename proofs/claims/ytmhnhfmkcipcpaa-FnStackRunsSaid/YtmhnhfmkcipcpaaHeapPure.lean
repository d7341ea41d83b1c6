/- Binary heaps in a list: one number goes up, or down, by ranks; what is pushed and popped. Of no program. -/
namespace Go.Proofs.Ytmhnhfmkcipcpaa.HeapPure

abbrev at_ (xs : List Int) (i : Nat) : Int := xs.getD i 0
def swp (xs : List Int) (i j : Nat) : List Int := (xs.set i (at_ xs j)).set j (at_ xs i)
theorem swp_length (xs : List Int) (i j : Nat) : (swp xs i j).length = xs.length := by simp [swp]
theorem at_set (xs : List Int) (i k : Nat) (v : Int) (hi : i < xs.length) : at_ (xs.set i v) k = if k = i then v else at_ xs k := by
  unfold at_
  rw [List.getD_eq_getElem?_getD, List.getElem?_set]
  by_cases h : k = i
  · subst h; simp [hi]
  · rw [if_neg (fun e => h e.symm), if_neg h, List.getD_eq_getElem?_getD]
theorem at_swp (xs : List Int) (i j k : Nat) (hi : i < xs.length) (hj : j < xs.length) : at_ (swp xs i j) k = if k = j then at_ xs i else if k = i then at_ xs j else at_ xs k := by
  unfold swp
  rw [at_set _ _ _ _ (by simpa using hj), at_set _ _ _ _ hi]
theorem count_set (xs : List Int) (i : Nat) (v a : Int) (hi : i < xs.length) : (xs.set i v).count a + (if at_ xs i = a then 1 else 0) = xs.count a + (if v = a then 1 else 0) := by
  induction xs generalizing i with
  | nil => simp at hi
  | cons x xs ih =>
    cases i with
    | zero =>
      simp only [List.set_cons_zero, List.count_cons, at_, List.getD_cons_zero, beq_iff_eq]
      omega
    | succ i =>
      have := ih i (by simpa using hi)
      simp only [List.set_cons_succ, List.count_cons, at_, List.getD_cons_succ, beq_iff_eq] at this ⊢
      omega
theorem swp_count (xs : List Int) (i j : Nat) (a : Int) (hi : i < xs.length) (hj : j < xs.length) : (swp xs i j).count a = xs.count a := by
  have h1 := count_set xs i (at_ xs j) a hi
  have h2 := count_set (xs.set i (at_ xs j)) j (at_ xs i) a (by simpa using hj)
  rw [at_set _ _ _ _ hi] at h2
  unfold swp
  by_cases h : j = i
  · subst h; simp only [if_true] at h2; omega
  · rw [if_neg h] at h2; omega

/-- One number goes up. -/
def upT (r : Int → Int) (xs : List Int) (i : Nat) : List Int :=
  if i = 0 then xs else if r (at_ xs i) < r (at_ xs ((i - 1) / 2)) then upT r (swp xs i ((i - 1) / 2)) ((i - 1) / 2) else xs
termination_by i
decreasing_by omega
/-- The lesser one of two numbers below. -/
def least (r : Int → Int) (xs : List Int) (i : Nat) : Nat := if 2 * i + 2 < xs.length ∧ r (at_ xs (2 * i + 2)) < r (at_ xs (2 * i + 1)) then 2 * i + 2 else 2 * i + 1
theorem least_or (r : Int → Int) (xs : List Int) (i : Nat) (h : 2 * i + 1 < xs.length) : (least r xs i = 2 * i + 1 ∨ least r xs i = 2 * i + 2) ∧ least r xs i < xs.length := by
  unfold least; split
  · rename_i h; exact ⟨.inr rfl, h.1⟩
  · exact ⟨.inl rfl, h⟩
/-- One number goes down. -/
def downT (r : Int → Int) (xs : List Int) (i : Nat) : List Int :=
  if 2 * i + 1 < xs.length then if r (at_ xs (least r xs i)) < r (at_ xs i) then downT r (swp xs i (least r xs i)) (least r xs i) else xs else xs
termination_by xs.length - i
decreasing_by
  rw [swp_length]
  have := least_or r xs i ‹_›
  omega

theorem upT_length (r : Int → Int) : ∀ (n i : Nat) (xs : List Int), i ≤ n → (upT r xs i).length = xs.length
  | 0, i, xs, h => by rw [upT, if_pos (by omega)]
  | n + 1, i, xs, h => by
    rw [upT]
    split
    · rfl
    · split
      · rw [upT_length r n _ _ (by omega), swp_length]
      · rfl
theorem upT_count (r : Int → Int) (a : Int) : ∀ (n i : Nat) (xs : List Int), i ≤ n → i < xs.length → (upT r xs i).count a = xs.count a
  | 0, i, xs, h, _ => by rw [upT, if_pos (by omega)]
  | n + 1, i, xs, h, hi => by
    rw [upT]
    split
    · rfl
    · split
      · rw [upT_count r a n _ _ (by omega) (by rw [swp_length]; omega), swp_count _ _ _ _ hi (by omega)]
      · rfl
theorem downT_length (r : Int → Int) : ∀ (n i : Nat) (xs : List Int), xs.length ≤ n + i → (downT r xs i).length = xs.length
  | 0, i, xs, h => by rw [downT, if_neg (by omega)]
  | n + 1, i, xs, h => by
    rw [downT]
    split
    · rename_i h1
      split
      · have := least_or r xs i h1
        rw [downT_length r n _ _ (by rw [swp_length]; omega), swp_length]
      · rfl
    · rfl
theorem downT_count (r : Int → Int) (a : Int) : ∀ (n i : Nat) (xs : List Int), xs.length ≤ n + i → (downT r xs i).count a = xs.count a
  | 0, i, xs, h => by rw [downT, if_neg (by omega)]
  | n + 1, i, xs, h => by
    rw [downT]
    split
    · rename_i h1
      split
      · have := least_or r xs i h1
        rw [downT_count r a n _ _ (by rw [swp_length]; omega), swp_count _ _ _ _ (by omega) (by omega)]
      · rfl
    · rfl

/-- Each number, but the first one, is not less than the one above it. -/
def Hp (r : Int → Int) (xs : List Int) : Prop := ∀ k, 0 < k → k < xs.length → r (at_ xs ((k - 1) / 2)) ≤ r (at_ xs k)
def UpOk (r : Int → Int) (i : Nat) (xs : List Int) : Prop :=
  (∀ k, 0 < k → k < xs.length → k ≠ i → r (at_ xs ((k - 1) / 2)) ≤ r (at_ xs k)) ∧
  (∀ k, 0 < k → k < xs.length → (k - 1) / 2 = i → 0 < i → r (at_ xs ((i - 1) / 2)) ≤ r (at_ xs k))
theorem up_hp (r : Int → Int) : ∀ (n i : Nat) (xs : List Int), i ≤ n → i < xs.length → UpOk r i xs → Hp r (upT r xs i)
  | 0, i, xs, h, hi, hu => by
    rw [upT, if_pos (by omega)]
    exact fun k h0 hk => hu.1 k h0 hk (by omega)
  | n + 1, i, xs, h, hi, hu => by
    rw [upT]
    split
    · exact fun k h0 hk => hu.1 k h0 hk (by omega)
    · rename_i hi0
      split
      · rename_i hlt
        refine up_hp r n _ _ (by omega) (by rw [swp_length]; omega) ⟨fun k h0 hk hne => ?_, fun k h0 hk hp hp0 => ?_⟩
        · rw [swp_length] at hk
          rw [at_swp _ _ _ _ hi (by omega), at_swp _ _ _ _ hi (by omega), if_neg hne]
          by_cases h1 : k = i
          · subst h1; rw [if_pos rfl, if_pos rfl]; omega
          · rw [if_neg h1]
            by_cases h2 : (k - 1) / 2 = i
            · rw [if_neg (by omega), if_pos h2]
              exact hu.2 k h0 hk h2 (by omega)
            · by_cases h3 : (k - 1) / 2 = (i - 1) / 2
              · rw [if_pos h3]
                have := hu.1 k h0 hk h1
                rw [h3] at this
                omega
              · rw [if_neg h3, if_neg h2]
                exact hu.1 k h0 hk h1
        · rw [swp_length] at hk
          rw [at_swp _ _ _ _ hi (by omega), at_swp _ _ _ _ hi (by omega), if_neg (by omega), if_neg (by omega), if_neg (by omega : ¬ k = (i - 1) / 2)]
          have h1 := hu.1 ((i - 1) / 2) hp0 (by omega) (by omega)
          by_cases h2 : k = i
          · rw [if_pos h2]; exact h1
          · rw [if_neg h2]
            have := hu.1 k h0 hk h2
            rw [hp] at this
            omega
      · rename_i hlt
        intro k h0 hk
        by_cases h1 : k = i
        · subst h1; omega
        · exact hu.1 k h0 hk h1

/-- .. of the places from m on, and those below them. -/
def HpFrom (r : Int → Int) (m : Nat) (xs : List Int) : Prop := ∀ k, 0 < k → k < xs.length → m ≤ (k - 1) / 2 → r (at_ xs ((k - 1) / 2)) ≤ r (at_ xs k)
def DnOk (r : Int → Int) (m i : Nat) (xs : List Int) : Prop :=
  (∀ k, 0 < k → k < xs.length → m ≤ (k - 1) / 2 → (k - 1) / 2 ≠ i → r (at_ xs ((k - 1) / 2)) ≤ r (at_ xs k)) ∧
  (∀ k, 0 < k → k < xs.length → (k - 1) / 2 = i → 0 < i → m ≤ (i - 1) / 2 → r (at_ xs ((i - 1) / 2)) ≤ r (at_ xs k))
theorem least_le (r : Int → Int) (xs : List Int) (i k : Nat) (h0 : 0 < k) (hk : k < xs.length) (hp : (k - 1) / 2 = i) : r (at_ xs (least r xs i)) ≤ r (at_ xs k) := by
  have h1 : k = 2 * i + 1 ∨ k = 2 * i + 2 := by omega
  unfold least
  rcases h1 with rfl | rfl
  · split
    · rename_i h; omega
    · exact Int.le_refl _
  · split
    · exact Int.le_refl _
    · rename_i h
      have : ¬ r (at_ xs (2 * i + 2)) < r (at_ xs (2 * i + 1)) := fun hh => h ⟨hk, hh⟩
      omega
theorem down_hp (r : Int → Int) (m : Nat) : ∀ (n i : Nat) (xs : List Int), xs.length ≤ n + i → m ≤ i → DnOk r m i xs → HpFrom r m (downT r xs i)
  | 0, i, xs, h, hm, hd => by
    rw [downT, if_neg (by omega)]
    exact fun k h0 hk hmk => hd.1 k h0 hk hmk (by omega)
  | n + 1, i, xs, h, hm, hd => by
    rw [downT]
    split
    · rename_i h1
      obtain ⟨hj, hjl⟩ := least_or r xs i h1
      have hle := fun k h0 hk hp => least_le r xs i k h0 hk hp
      split
      · rename_i hlt
        generalize least r xs i = j at hj hjl hle hlt ⊢
        have hi : i < xs.length := by omega
        refine down_hp r m n _ _ (by rw [swp_length]; omega) (by omega) ⟨fun k h0 hk hmk hne => ?_, fun k h0 hk hp _ hmj => ?_⟩
        · rw [swp_length] at hk
          rw [at_swp _ _ _ _ hi hjl, at_swp _ _ _ _ hi hjl, if_neg hne]
          by_cases h2 : (k - 1) / 2 = i
          · rw [if_pos h2]
            by_cases h3 : k = j
            · rw [if_pos h3]; omega
            · rw [if_neg h3, if_neg (by omega)]
              exact hle k h0 hk h2
          · rw [if_neg h2, if_neg (by omega : ¬ k = j)]
            by_cases h3 : k = i
            · subst h3
              rw [if_pos rfl]
              exact hd.2 j (by omega) hjl (by omega) h0 hmk
            · rw [if_neg h3]
              exact hd.1 k h0 hk hmk h2
        · rw [swp_length] at hk
          rw [at_swp _ _ _ _ hi hjl, at_swp _ _ _ _ hi hjl, if_neg (by omega : ¬ k = j), if_neg (by omega : ¬ k = i), if_neg (by omega), if_pos (by omega)]
          have := hd.1 k h0 hk (by omega) (by omega)
          rw [hp] at this
          exact this
      · rename_i hlt
        intro k h0 hk hmk
        by_cases h2 : (k - 1) / 2 = i
        · have := hle k h0 hk h2
          rw [h2]
          omega
        · exact hd.1 k h0 hk hmk h2
    · exact fun k h0 hk hmk => hd.1 k h0 hk hmk (by omega)
theorem hp_least (r : Int → Int) (xs : List Int) (h : Hp r xs) : ∀ (n k : Nat), k ≤ n → k < xs.length → r (at_ xs 0) ≤ r (at_ xs k)
  | 0, k, hn, _ => by rw [show k = 0 by omega]; exact Int.le_refl _
  | n + 1, k, hn, hk => by
    by_cases h0 : k = 0
    · rw [h0]; exact Int.le_refl _
    · have h1 := h k (by omega) hk
      have h2 := hp_least r xs h n ((k - 1) / 2) (by omega) (by omega)
      omega

def pushT (r : Int → Int) (xs : List Int) (x : Int) : List Int := upT r (xs ++ [x]) xs.length
def popT (r : Int → Int) (xs : List Int) : List Int := if xs.length = 0 then xs else downT r ((xs.set 0 (at_ xs (xs.length - 1))).take (xs.length - 1)) 0
/-- The places below n, from the last one on, go down. -/
def buildT (r : Int → Int) (xs : List Int) : Nat → List Int
  | 0 => xs
  | n + 1 => buildT r (downT r xs n) n
def madeT (r : Int → Int) (how : Int) (first : List Int) : List Int := if how = 0 then first.foldl (pushT r) [] else buildT r first (first.length / 2)

theorem at_append (xs : List Int) (x : Int) (k : Nat) (h : k < xs.length) : at_ (xs ++ [x]) k = at_ xs k := by
  unfold at_; rw [List.getD_eq_getElem?_getD, List.getElem?_append_left h, List.getD_eq_getElem?_getD]
theorem push_hp (r : Int → Int) (xs : List Int) (x : Int) (h : Hp r xs) : Hp r (pushT r xs x) := by
  refine up_hp r _ _ _ (Nat.le_refl _) (by simp) ⟨fun k h0 hk hne => ?_, fun k h0 hk hp _ => ?_⟩
  · rw [List.length_append, List.length_singleton] at hk
    rw [at_append _ _ _ (by omega), at_append _ _ _ (by omega)]
    exact h k h0 (by omega)
  · rw [List.length_append, List.length_singleton] at hk
    omega
theorem push_count (r : Int → Int) (xs : List Int) (x a : Int) : (pushT r xs x).count a = (xs ++ [x]).count a := upT_count r a _ _ _ (Nat.le_refl _) (by simp)
theorem push_length (r : Int → Int) (xs : List Int) (x : Int) : (pushT r xs x).length = xs.length + 1 := by rw [pushT, upT_length r _ _ _ (Nat.le_refl _)]; simp
theorem at_take (xs : List Int) (n k : Nat) (h : k < n) : at_ (xs.take n) k = at_ xs k := by
  unfold at_; rw [List.getD_eq_getElem?_getD, List.getElem?_take, if_pos h, List.getD_eq_getElem?_getD]
theorem pop_hp (r : Int → Int) (xs : List Int) (h : Hp r xs) : Hp r (popT r xs) := by
  unfold popT
  split
  · exact h
  · intro k h0 hk
    refine down_hp r 0 _ 0 _ (Nat.le_add_right _ _) (Nat.le_refl _) ⟨fun k h0 hk _ hne => ?_, fun k h0 hk hp h1 => by omega⟩ k h0 hk (Nat.zero_le _)
    rw [List.length_take, List.length_set] at hk
    rw [at_take _ _ _ (by omega), at_take _ _ _ (by omega), at_set _ _ _ _ (by omega), at_set _ _ _ _ (by omega), if_neg hne, if_neg (by omega)]
    exact h k h0 (by omega)
theorem take_count (xs : List Int) (a : Int) (h : xs.length ≠ 0) : (xs.take (xs.length - 1)).count a + (if at_ xs (xs.length - 1) = a then 1 else 0) = xs.count a := by
  have e : xs = xs.take (xs.length - 1) ++ [at_ xs (xs.length - 1)] := by
    apply List.ext_getElem?
    intro k
    by_cases h1 : k < xs.length - 1
    · rw [List.getElem?_append_left (by rw [List.length_take]; omega), List.getElem?_take, if_pos h1]
    · rw [List.getElem?_append_right (by rw [List.length_take]; omega), List.length_take]
      by_cases h2 : k = xs.length - 1
      · subst h2
        rw [show xs.length - 1 - min (xs.length - 1) xs.length = 0 by omega]
        simp only [List.getElem?_cons_zero, at_]
        rw [List.getD_eq_getElem?_getD, List.getElem?_eq_getElem (by omega)]
        rfl
      · rw [List.getElem?_eq_none (by omega), List.getElem?_eq_none (by simp; omega)]
  have h2 : xs.count a = (xs.take (xs.length - 1) ++ [at_ xs (xs.length - 1)]).count a := by rw [← e]
  rw [h2, List.count_append, List.count_cons, List.count_nil]
  simp only [beq_iff_eq]
  omega
theorem pop_count (r : Int → Int) (xs : List Int) (a : Int) (h : xs.length ≠ 0) : (popT r xs).count a + (if at_ xs 0 = a then 1 else 0) = xs.count a := by
  unfold popT
  rw [if_neg h, downT_count r a _ _ _ (Nat.le_add_right _ _)]
  have h1 := count_set xs 0 (at_ xs (xs.length - 1)) a (by omega)
  have h2 := take_count (xs.set 0 (at_ xs (xs.length - 1))) a (by simpa using h)
  rw [List.length_set, at_set _ _ _ _ (by omega)] at h2
  by_cases h3 : xs.length - 1 = 0
  · rw [if_pos h3] at h2
    omega
  · rw [if_neg h3] at h2
    omega
theorem pop_length (r : Int → Int) (xs : List Int) : (popT r xs).length = xs.length - 1 := by
  unfold popT
  split
  · omega
  · rw [downT_length r _ _ _ (Nat.le_add_right _ _), List.length_take, List.length_set]; omega
theorem build_hp (r : Int → Int) : ∀ (n : Nat) (xs : List Int), HpFrom r n xs → Hp r (buildT r xs n)
  | 0, xs, h => fun k h0 hk => h k h0 hk (Nat.zero_le _)
  | n + 1, xs, h => build_hp r n _ (down_hp r n _ n _ (Nat.le_add_right _ _) (Nat.le_refl _) ⟨fun k h0 hk hm hne => h k h0 hk (by omega), fun k h0 hk hp h1 hm => by omega⟩)
theorem build_count (r : Int → Int) (a : Int) : ∀ (n : Nat) (xs : List Int), (buildT r xs n).count a = xs.count a
  | 0, _ => rfl
  | n + 1, _ => (build_count r a n _).trans (downT_count r a _ _ _ (Nat.le_add_right _ _))
theorem build_length (r : Int → Int) : ∀ (n : Nat) (xs : List Int), (buildT r xs n).length = xs.length
  | 0, _ => rfl
  | n + 1, _ => (build_length r n _).trans (downT_length r _ _ _ (Nat.le_add_right _ _))
theorem pushes (r : Int → Int) : ∀ (l xs : List Int), Hp r xs → Hp r (l.foldl (pushT r) xs) ∧ (l.foldl (pushT r) xs).length = xs.length + l.length ∧ ∀ a, (l.foldl (pushT r) xs).count a = xs.count a + l.count a
  | [], xs, h => ⟨h, rfl, fun _ => rfl⟩
  | x :: l, xs, h => by
    obtain ⟨h1, h2, h3⟩ := pushes r l (pushT r xs x) (push_hp r xs x h)
    refine ⟨h1, by rw [List.foldl_cons, h2, push_length, List.length_cons]; omega, fun a => ?_⟩
    rw [List.foldl_cons, h3, push_count, List.count_append, List.count_cons, List.count_cons, List.count_nil]
    omega
theorem made (r : Int → Int) (how : Int) (first : List Int) : Hp r (madeT r how first) ∧ (madeT r how first).length = first.length ∧ ∀ a, (madeT r how first).count a = first.count a := by
  unfold madeT
  split
  · obtain ⟨h1, h2, h3⟩ := pushes r first [] (fun k _ hk => by simp at hk)
    exact ⟨h1, by simpa using h2, fun a => by simpa using h3 a⟩
  · exact ⟨build_hp r _ _ (fun k h0 hk hm => by omega), build_length r _ _, fun a => build_count r a _ _⟩

/-- A step: 0 push, 1 pop; the others leave all. -/
def stepT (r : Int → Int) (xs : List Int) (d key : Int) : List Int := if d = 0 then pushT r xs key else if d = 1 then popT r xs else xs
/-- What a step tells. -/
def tellT (xs : List Int) (d : Int) : Int × Bool := if d = 1 ∨ d = 2 then (if xs.length = 0 then (0, false) else (at_ xs 0, true)) else if d = 3 then ((xs.length : Int), false) else (0, false)
end Go.Proofs.Ytmhnhfmkcipcpaa.HeapPure
