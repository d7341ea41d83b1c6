/- Ropes as plain data: what the package's functions do, and which rows they hold. No Go, no memory. -/
namespace Go.Proofs.Ytdlnpmbnedmmnaa.RopePure

inductive T where
  | leaf (xs : List Int)
  | node (l r : T)
namespace T
def flat : T → List Int
  | leaf xs => xs
  | node l r => flat l ++ flat r
def len (t : T) : Nat := t.flat.length
def sizes : T → List Nat
  | leaf xs => [xs.length]
  | node l r => sizes l ++ sizes r
def new (xs : List Int) : T :=
  if 16384 < xs.length then node (new (xs.take (xs.length / 2))) (new (xs.drop (xs.length / 2))) else leaf xs
termination_by xs.length
decreasing_by
  · rw [List.length_take]; omega
  · rw [List.length_drop]; omega
/-- A node whose parts may have become short. -/
def adj (l r : T) : T := if l.len + r.len < 8192 then leaf (l.flat ++ r.flat) else node l r
def rem : T → Nat → Nat → T
  | leaf xs, a, b => new (xs.take a ++ xs.drop b)
  | node l r, a, b => adj (if min a l.len < l.len then rem l (min a l.len) (min b l.len) else l) (if 0 < min (b - l.len) r.len then rem r (min (a - l.len) r.len) (min (b - l.len) r.len) else r)
def ins (vs : List Int) : T → Nat → T
  | leaf xs, p => new (xs.take p ++ vs ++ xs.drop p)
  | node l r, p => if p < l.len then adj (ins vs l p) r else adj l (ins vs r (p - l.len))
def split : T → Nat → T × T
  | leaf xs, i => (new (xs.take i), new (xs.drop i))
  | node l r, i => if i = l.len then (l, r) else if i < l.len then ((split l i).1, adj (split l i).2 r) else (adj l (split r (i - l.len)).1, (split r (i - l.len)).2)
def joins : T → List T → T
  | t, [] => t
  | t, u :: l => joins (adj t u) l

/-- No leaf is longer than it may be. -/
def Small : T → Prop
  | leaf xs => xs.length ≤ 16384
  | node l r => Small l ∧ Small r

theorem new_long {xs : List Int} (h : 16384 < xs.length) : new xs = node (new (xs.take (xs.length / 2))) (new (xs.drop (xs.length / 2))) := by rw [new, if_pos h]
theorem new_short {xs : List Int} (h : ¬ 16384 < xs.length) : new xs = leaf xs := by rw [new, if_neg h]
theorem new_all : ∀ (n : Nat) (xs : List Int), xs.length ≤ n → flat (new xs) = xs ∧ Small (new xs)
  | 0, xs, h => by rw [new_short (by omega)]; exact ⟨rfl, by show xs.length ≤ 16384; omega⟩
  | n + 1, xs, h => by
    by_cases c : 16384 < xs.length
    · rw [new_long c]
      obtain ⟨a1, a2⟩ := new_all n (xs.take (xs.length / 2)) (by rw [List.length_take]; omega)
      obtain ⟨b1, b2⟩ := new_all n (xs.drop (xs.length / 2)) (by rw [List.length_drop]; omega)
      exact ⟨by rw [flat, a1, b1, List.take_append_drop], a2, b2⟩
    · rw [new_short c]
      exact ⟨rfl, by show xs.length ≤ 16384; omega⟩
theorem flat_new (xs : List Int) : flat (new xs) = xs := (new_all _ xs (Nat.le_refl _)).1
theorem small_new (xs : List Int) : Small (new xs) := (new_all _ xs (Nat.le_refl _)).2
theorem len_new (xs : List Int) : len (new xs) = xs.length := by unfold len; rw [flat_new]
theorem flat_adj (l r : T) : flat (adj l r) = flat l ++ flat r := by unfold adj; split <;> rfl
theorem len_adj (l r : T) : len (adj l r) = len l + len r := by unfold len; rw [flat_adj, List.length_append]
theorem len_node (l r : T) : len (node l r) = len l + len r := List.length_append ..
theorem small_adj {l r : T} (hl : Small l) (hr : Small r) : Small (adj l r) := by
  unfold adj
  split
  · rename_i h
    show (l.flat ++ r.flat).length ≤ 16384
    rw [List.length_append]
    unfold len at h
    omega
  · exact ⟨hl, hr⟩
theorem flat_rem : ∀ (t : T) (a b : Nat), a ≤ b → b ≤ t.len → flat (rem t a b) = t.flat.take a ++ t.flat.drop b
  | leaf xs, a, b, _, _ => flat_new _
  | node l r, a, b, h1, h2 => by
    rw [len_node] at h2
    have el : l.flat.length = l.len := rfl
    have er : r.flat.length = r.len := rfl
    have e1 : flat (if min a l.len < l.len then rem l (min a l.len) (min b l.len) else l) = l.flat.take a ++ l.flat.drop b := by
      by_cases c : min a l.len < l.len
      · rw [if_pos c, flat_rem l _ _ (by omega) (by omega)]
        rw [show min a l.len = a by omega]
        congr 1
        by_cases d : b ≤ l.len
        · rw [Nat.min_eq_left d]
        · rw [Nat.min_eq_right (by omega), List.drop_of_length_le (by omega), List.drop_of_length_le (by omega)]
      · rw [if_neg c, List.take_of_length_le (by omega), List.drop_of_length_le (by omega), List.append_nil]
    have e2 : flat (if 0 < min (b - l.len) r.len then rem r (min (a - l.len) r.len) (min (b - l.len) r.len) else r) = r.flat.take (a - l.len) ++ r.flat.drop (b - l.len) := by
      by_cases c : 0 < min (b - l.len) r.len
      · rw [if_pos c, flat_rem r _ _ (by omega) (by omega), show min (a - l.len) r.len = a - l.len by omega, show min (b - l.len) r.len = b - l.len by omega]
      · rw [if_neg c]
        by_cases d : b - l.len = 0
        · rw [d, show a - l.len = 0 by omega]; simp
        · have : r.flat = [] := List.length_eq_zero_iff.1 (by omega)
          rw [this]; simp
    show flat (adj _ _) = _
    rw [flat_adj, e1, e2]
    show _ = (l.flat ++ r.flat).take a ++ (l.flat ++ r.flat).drop b
    rw [List.take_append, List.drop_append, el]
    by_cases c : a < l.len
    · have hz : a - l.len = 0 := by omega
      rw [hz]; simp
    · rw [List.drop_of_length_le (l := l.flat) (i := b) (by omega)]; simp
theorem small_rem : ∀ (t : T) (a b : Nat), Small t → Small (rem t a b)
  | leaf xs, a, b, _ => small_new _
  | node l r, a, b, ⟨h1, h2⟩ => by
    refine small_adj ?_ ?_
    · split
      · exact small_rem l _ _ h1
      · exact h1
    · split
      · exact small_rem r _ _ h2
      · exact h2
theorem flat_ins (vs : List Int) : ∀ (t : T) (p : Nat), p ≤ t.len → flat (ins vs t p) = t.flat.take p ++ vs ++ t.flat.drop p
  | leaf xs, p, _ => flat_new _
  | node l r, p, h => by
    rw [len_node] at h
    have el : l.flat.length = l.len := rfl
    have er : r.flat.length = r.len := rfl
    simp only [ins]
    by_cases c : p < l.len
    · rw [if_pos c, flat_adj, flat_ins vs l p (by omega)]
      show _ = (l.flat ++ r.flat).take p ++ vs ++ (l.flat ++ r.flat).drop p
      rw [List.take_append, List.drop_append, el, show p - l.len = 0 by omega]
      simp
    · rw [if_neg c, flat_adj, flat_ins vs r _ (by omega)]
      show _ = (l.flat ++ r.flat).take p ++ vs ++ (l.flat ++ r.flat).drop p
      rw [List.take_append, List.drop_append, el, List.take_of_length_le (l := l.flat) (by omega), List.drop_of_length_le (l := l.flat) (by omega)]
      simp
theorem small_ins (vs : List Int) : ∀ (t : T) (p : Nat), Small t → Small (ins vs t p)
  | leaf xs, p, _ => small_new _
  | node l r, p, ⟨h1, h2⟩ => by
    simp only [ins]
    split
    · exact small_adj (small_ins vs l _ h1) h2
    · exact small_adj h1 (small_ins vs r _ h2)
theorem flat_split : ∀ (t : T) (i : Nat), i ≤ t.len → flat (split t i).1 = t.flat.take i ∧ flat (split t i).2 = t.flat.drop i
  | leaf xs, i, _ => ⟨flat_new _, flat_new _⟩
  | node l r, i, h => by
    rw [len_node] at h
    have el : l.flat.length = l.len := rfl
    have er : r.flat.length = r.len := rfl
    simp only [split]
    have e1 : flat (node l r) = l.flat ++ r.flat := rfl
    rw [e1, List.take_append, List.drop_append, el]
    by_cases c : i = l.len
    · rw [if_pos c, c, List.take_of_length_le (by omega), List.drop_of_length_le (l := l.flat) (by omega)]
      simp
    · rw [if_neg c]
      by_cases d : i < l.len
      · obtain ⟨a1, a2⟩ := flat_split l i (by omega)
        rw [if_pos d, flat_adj, a1, a2, show i - l.len = 0 by omega]
        simp
      · obtain ⟨a1, a2⟩ := flat_split r (i - l.len) (by omega)
        rw [if_neg d, flat_adj, a1, a2, List.take_of_length_le (l := l.flat) (by omega), List.drop_of_length_le (l := l.flat) (by omega)]
        simp
theorem small_split : ∀ (t : T) (i : Nat), Small t → Small (split t i).1 ∧ Small (split t i).2
  | leaf xs, i, _ => ⟨small_new _, small_new _⟩
  | node l r, i, ⟨h1, h2⟩ => by
    simp only [split]
    split
    · exact ⟨h1, h2⟩
    · split
      · exact ⟨(small_split l i h1).1, small_adj (small_split l i h1).2 h2⟩
      · exact ⟨small_adj h1 (small_split r _ h2).1, (small_split r _ h2).2⟩
theorem flat_joins : ∀ (l : List T) (t : T), flat (joins t l) = flat t ++ (l.map flat).flatten
  | [], t => by simp [joins]
  | u :: l, t => by rw [joins, flat_joins l, flat_adj]; simp
theorem sizes_small : ∀ (t : T), Small t → ∀ n ∈ sizes t, n ≤ 16384
  | leaf xs, h, n, hn => by
    have e : n = xs.length := by simpa [sizes] using hn
    rw [e]; exact h
  | node l r, ⟨h1, h2⟩, n, hn => by
    rcases List.mem_append.1 hn with e | e
    · exact sizes_small l h1 n e
    · exact sizes_small r h2 n e
theorem sizes_sum : ∀ (t : T), (sizes t).sum = t.len
  | leaf xs => by simp [sizes, len, flat]
  | node l r => by rw [len_node, ← sizes_sum l, ← sizes_sum r]; simp [sizes]
end T
end Go.Proofs.Ytdlnpmbnedmmnaa.RopePure
