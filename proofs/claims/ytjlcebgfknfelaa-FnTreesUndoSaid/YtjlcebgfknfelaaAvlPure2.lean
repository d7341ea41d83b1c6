/- AVL trees as plain data: sizes and heights. -/
import Derived.Test.YtjlcebgfknfelaaAvlPure
namespace Go.Proofs.Ytjlcebgfknfelaa.AvlPure
namespace T
theorem size_reb (t : T) : size (reb t) = size t := by rw [size_list, size_list, list_reb]

theorem size_ins (rk : Int → Int) (key val : Int) : ∀ t : T, size (ins rk key val t) ≤ size t + 1
  | nil => by simp [ins, size]
  | node k v h l r => by
    have hl := size_ins rk key val l
    have hr := size_ins rk key val r
    unfold ins
    split
    · rw [size_reb]; simp only [size]; omega
    · split
      · rw [size_reb]; simp only [size]; omega
      · rw [size_reb]; simp only [size]; omega

theorem size_rem (rk : Int → Int) : ∀ (t : T) (key : Int), size (rem rk t key) ≤ size t
  | nil, _ => by simp [rem]
  | node k v h l r, key => by
    have hl := size_rem rk l key
    have hr := size_rem rk r key
    have hr2 := size_rem rk r (least r).1
    have sl := size_nonneg l
    have sr := size_nonneg r
    unfold rem
    split
    · rw [size_reb]; simp only [size]; omega
    · split
      · rw [size_reb]; simp only [size]; omega
      · split
        · split
          · simp only [size]; omega
          · rw [size_reb]; simp only [size]; omega
        · split
          · rw [size_reb]; simp only [size]; omega
          · rw [size_reb]; simp only [size]; omega

/-- A balanced tree of twice as many levels has more nodes than that power of two. -/
theorem even_size : ∀ (n : Nat) {t : T}, Even t → 2 * (n : Int) ≤ tall t → (2 : Int) ^ n ≤ size t + 1
  | 0, t, _, _ => by have := size_nonneg t; simp; omega
  | n + 1, nil, _, h => by simp [tall] at h; omega
  | n + 1, node k v h' l r, he, h => by
    obtain ⟨h1, h2, h3, h4⟩ := he
    have e1 : tall (node k v h' l r) = 1 + max (tall l) (tall r) := rfl
    have e2 : size (node k v h' l r) = 1 + size l + size r := rfl
    rw [e1] at h
    have a1 := even_size n h3 (by omega)
    have a2 := even_size n h4 (by omega)
    rw [e2, Int.pow_succ]
    omega

theorem even_low {t : T} (he : Even t) (hs : size t ≤ 1099511627776) : tall t ≤ 100 := by
  rcases Int.lt_or_le (tall t) 82 with h | h
  · omega
  · have := even_size 41 he (by omega)
    have e : (2 : Int) ^ 41 = 2199023255552 := by decide
    omega
end T
end Go.Proofs.Ytjlcebgfknfelaa.AvlPure
