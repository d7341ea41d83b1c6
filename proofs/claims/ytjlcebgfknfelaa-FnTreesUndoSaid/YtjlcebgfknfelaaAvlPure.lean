/- AVL trees as plain data: the functions of the package, and what they keep. No Go, no memory. -/
namespace Go.Proofs.Ytjlcebgfknfelaa.AvlPure

inductive T where
  | nil
  | node (k v h : Int) (l r : T)

namespace T

def ht : T → Int
  | nil => 0
  | node _ _ h _ _ => h

def lf : T → T
  | nil => nil
  | node _ _ _ l _ => l

def rt : T → T
  | nil => nil
  | node _ _ _ _ r => r

/-- How many levels there are. -/
def tall : T → Int
  | nil => 0
  | node _ _ _ l r => 1 + max (tall l) (tall r)

def size : T → Int
  | nil => 0
  | node _ _ _ l r => 1 + size l + size r

def list : T → List (Int × Int)
  | nil => []
  | node k v _ l r => list l ++ (k, v) :: list r

/-- A node with its height reckoned anew. -/
def mk (k v : Int) (l r : T) : T := node k v (1 + max (ht l) (ht r)) l r

def rotL : T → T
  | node k v _ l (node k2 v2 _ rl rr) => mk k2 v2 (mk k v l rl) rr
  | t => t

def rotR : T → T
  | node k v _ (node k2 v2 _ ll lr) r => mk k2 v2 ll (mk k v lr r)
  | t => t

def reb : T → T
  | nil => nil
  | node k v _ l r =>
    if ht l - ht r ≤ -2 then rotL (mk k v l (if ht (lf r) > ht (rt r) then rotR r else r))
    else if ht l - ht r ≥ 2 then rotR (mk k v (if ht (rt l) > ht (lf l) then rotL l else l) r)
    else mk k v l r

def ins (rk : Int → Int) (key val : Int) : T → T
  | nil => node key val 1 nil nil
  | node k v h l r =>
    if rk key < rk k then reb (node k v h (ins rk key val l) r)
    else if rk k < rk key then reb (node k v h l (ins rk key val r))
    else reb (node k val h l r)

/-- The pair that stands leftmost (of an empty tree: nought). -/
def least : T → Int × Int
  | nil => (0, 0)
  | node k v _ nil _ => (k, v)
  | node _ _ _ l _ => least l

def isNil : T → Bool
  | nil => true
  | node _ _ _ _ _ => false

def rem (rk : Int → Int) : T → Int → T
  | nil, _ => nil
  | node k v h l r, key =>
    if rk key < rk k then reb (node k v h (rem rk l key) r)
    else if rk k < rk key then reb (node k v h l (rem rk r key))
    else if l.isNil = true then (if r.isNil = true then nil else reb r)
    else if r.isNil = true then reb l
    else reb (node (least r).1 (least r).2 h l (rem rk r (least r).1))

def find (rk : Int → Int) (key : Int) : T → Option (Int × Int)
  | nil => none
  | node k v _ l r => if rk key < rk k then find rk key l else if rk k < rk key then find rk key r else some (k, v)

/-- Right heights. -/
def Right : T → Prop
  | nil => True
  | node _ _ h l r => h = 1 + max (tall l) (tall r) ∧ Right l ∧ Right r

/-- Balanced everywhere. -/
def Even : T → Prop
  | nil => True
  | node _ _ _ l r => tall l - tall r ≤ 1 ∧ tall r - tall l ≤ 1 ∧ Even l ∧ Even r

theorem tall_nonneg : ∀ t : T, 0 ≤ tall t
  | nil => by simp [tall]
  | node _ _ _ l r => by have := tall_nonneg l; have := tall_nonneg r; simp only [tall]; omega

theorem size_nonneg : ∀ t : T, 0 ≤ size t
  | nil => by simp [size]
  | node _ _ _ l r => by have := size_nonneg l; have := size_nonneg r; simp only [size]; omega

theorem size_list : ∀ t : T, size t = (list t).length
  | nil => rfl
  | node _ _ _ l r => by simp only [size, list, List.length_append, List.length_cons, size_list l, size_list r]; omega

theorem tall_le_size : ∀ t : T, tall t ≤ size t
  | nil => by simp [tall, size]
  | node _ _ _ l r => by
    have := tall_le_size l; have := tall_le_size r; have := size_nonneg l; have := size_nonneg r
    simp only [tall, size]; omega

theorem Right.ht {t : T} (h : Right t) : ht t = tall t := by
  cases t with
  | nil => rfl
  | node k v x l r => exact h.1

theorem mk_right {k v : Int} {l r : T} (hl : Right l) (hr : Right r) : Right (mk k v l r) := by
  refine ⟨?_, hl, hr⟩
  rw [hl.ht, hr.ht]

theorem tall_mk (k v : Int) (l r : T) : tall (mk k v l r) = 1 + max (tall l) (tall r) := rfl
theorem list_mk (k v : Int) (l r : T) : list (mk k v l r) = list l ++ (k, v) :: list r := rfl
theorem even_mk {k v : Int} {l r : T} : Even (mk k v l r) ↔ tall l - tall r ≤ 1 ∧ tall r - tall l ≤ 1 ∧ Even l ∧ Even r := Iff.rfl

theorem list_rotL (t : T) : list (rotL t) = list t := by
  cases t with
  | nil => rfl
  | node k v h l r =>
    cases r with
    | nil => rfl
    | node k2 v2 h2 rl rr => simp [rotL, mk, list]

theorem list_rotR (t : T) : list (rotR t) = list t := by
  cases t with
  | nil => rfl
  | node k v h l r =>
    cases l with
    | nil => rfl
    | node k2 v2 h2 ll lr => simp [rotR, mk, list]

theorem right_rotL {t : T} (h : Right t) : Right (rotL t) := by
  cases t with
  | nil => trivial
  | node k v x l r =>
    cases r with
    | nil => exact h
    | node k2 v2 h2 rl rr => exact mk_right (mk_right h.2.1 h.2.2.2.1) h.2.2.2.2

theorem right_rotR {t : T} (h : Right t) : Right (rotR t) := by
  cases t with
  | nil => trivial
  | node k v x l r =>
    cases l with
    | nil => exact h
    | node k2 v2 h2 ll lr => exact mk_right h.2.1.2.1 (mk_right h.2.1.2.2 h.2.2)

theorem list_reb (t : T) : list (reb t) = list t := by
  cases t with
  | nil => rfl
  | node k v h l r =>
    simp only [reb]
    split
    · rw [list_rotL, list_mk]
      split
      · rw [list_rotR]; rfl
      · rfl
    · split
      · rw [list_rotR, list_mk]
        split
        · rw [list_rotL]; rfl
        · rfl
      · rfl

theorem reb_L1 {k v h : Int} {l : T} {k2 v2 h2 : Int} {rl rr : T} (c1 : ht l - ht (node k2 v2 h2 rl rr) ≤ -2) (c2 : ¬ ht rl > ht rr) :
    reb (node k v h l (node k2 v2 h2 rl rr)) = rotL (mk k v l (node k2 v2 h2 rl rr)) := by
  have c2' : ¬ ht (lf (node k2 v2 h2 rl rr)) > ht (rt (node k2 v2 h2 rl rr)) := c2
  simp only [reb]; rw [if_pos c1, if_neg c2']

theorem reb_L2 {k v h : Int} {l : T} {k2 v2 h2 : Int} {rl rr : T} (c1 : ht l - ht (node k2 v2 h2 rl rr) ≤ -2) (c2 : ht rl > ht rr) :
    reb (node k v h l (node k2 v2 h2 rl rr)) = rotL (mk k v l (rotR (node k2 v2 h2 rl rr))) := by
  have c2' : ht (lf (node k2 v2 h2 rl rr)) > ht (rt (node k2 v2 h2 rl rr)) := c2
  simp only [reb]; rw [if_pos c1, if_pos c2']

theorem reb_R1 {k v h : Int} {r : T} {k2 v2 h2 : Int} {ll lr : T} (c1 : ht (node k2 v2 h2 ll lr) - ht r ≥ 2) (c2 : ¬ ht lr > ht ll) :
    reb (node k v h (node k2 v2 h2 ll lr) r) = rotR (mk k v (node k2 v2 h2 ll lr) r) := by
  have c2' : ¬ ht (rt (node k2 v2 h2 ll lr)) > ht (lf (node k2 v2 h2 ll lr)) := c2
  simp only [reb]; rw [if_neg (by omega), if_pos c1, if_neg c2']

theorem reb_R2 {k v h : Int} {r : T} {k2 v2 h2 : Int} {ll lr : T} (c1 : ht (node k2 v2 h2 ll lr) - ht r ≥ 2) (c2 : ht lr > ht ll) :
    reb (node k v h (node k2 v2 h2 ll lr) r) = rotR (mk k v (rotL (node k2 v2 h2 ll lr)) r) := by
  have c2' : ht (rt (node k2 v2 h2 ll lr)) > ht (lf (node k2 v2 h2 ll lr)) := c2
  simp only [reb]; rw [if_neg (by omega), if_pos c1, if_pos c2']

/-- The parts have right heights: so has the tree behind the step. -/
theorem right_reb {k v h : Int} {l r : T} (hl : Right l) (hr : Right r) : Right (reb (node k v h l r)) := by
  simp only [reb]
  split
  · refine right_rotL (mk_right hl ?_)
    split
    · exact right_rotR hr
    · exact hr
  · split
    · refine right_rotR (mk_right ?_ hr)
      split
      · exact right_rotL hl
      · exact hl
    · exact mk_right hl hr

/-- The step, where the parts are balanced and differ by two levels at most. -/
theorem even_reb {k v h : Int} {l r : T} (hl : Right l) (hr : Right r) (el : Even l) (er : Even r) (h1 : tall l - tall r ≤ 2) (h2 : tall r - tall l ≤ 2) :
    Even (reb (node k v h l r)) ∧ (tall (reb (node k v h l r)) = 1 + max (tall l) (tall r) ∨ tall (reb (node k v h l r)) = max (tall l) (tall r)) ∧
      (tall l - tall r ≤ 1 → tall r - tall l ≤ 1 → reb (node k v h l r) = mk k v l r) := by
  have hl' := hl.ht
  have hr' := hr.ht
  simp only [reb]
  by_cases c1 : ht l - ht r ≤ -2
  · rw [if_pos c1]
    cases r with
    | nil => simp [ht, tall] at *; have := tall_nonneg l; omega
    | node k2 v2 h2' rl rr =>
      have h3 := hr.2.1.ht
      have h4 := hr.2.2.ht
      have t1 := tall_nonneg rl
      have t2 := tall_nonneg rr
      obtain ⟨e1, e2, e3, e4⟩ := er
      by_cases c2 : ht (lf (node k2 v2 h2' rl rr)) > ht (rt (node k2 v2 h2' rl rr))
      · rw [if_pos c2]
        simp only [lf, rt] at c2
        cases rl with
        | nil => simp only [T.ht, tall] at *; omega
        | node k3 v3 h3' a b =>
          obtain ⟨f1, f2, f3, f4⟩ := e3
          simp only [rotR, mk, rotL]
          simp only [tall] at *
          refine ⟨?_, ?_, ?_⟩
          · simp only [Even, tall]
            refine ⟨?_, ?_, ⟨?_, ?_, el, f3⟩, ⟨?_, ?_, f4, e4⟩⟩ <;> omega
          · omega
          · intro q1 q2; omega
      · rw [if_neg c2]
        simp only [lf, rt] at c2
        simp only [mk, rotL]
        simp only [tall] at *
        refine ⟨?_, ?_, ?_⟩
        · simp only [Even, tall]
          refine ⟨?_, ?_, ⟨?_, ?_, el, e3⟩, e4⟩ <;> omega
        · omega
        · intro q1 q2; omega
  · rw [if_neg c1]
    by_cases c3 : ht l - ht r ≥ 2
    · rw [if_pos c3]
      cases l with
      | nil => simp [ht, tall] at *; have := tall_nonneg r; omega
      | node k2 v2 h2' ll lr =>
        have h3 := hl.2.1.ht
        have h4 := hl.2.2.ht
        have t1 := tall_nonneg ll
        have t2 := tall_nonneg lr
        obtain ⟨e1, e2, e3, e4⟩ := el
        by_cases c2 : ht (rt (node k2 v2 h2' ll lr)) > ht (lf (node k2 v2 h2' ll lr))
        · rw [if_pos c2]
          simp only [lf, rt] at c2
          cases lr with
          | nil => simp only [T.ht, tall] at *; omega
          | node k3 v3 h3' a b =>
            obtain ⟨f1, f2, f3, f4⟩ := e4
            simp only [rotR, mk, rotL]
            simp only [tall] at *
            refine ⟨?_, ?_, ?_⟩
            · simp only [Even, tall]
              refine ⟨?_, ?_, ⟨?_, ?_, e3, f3⟩, ⟨?_, ?_, f4, er⟩⟩ <;> omega
            · omega
            · intro q1 q2; omega
        · rw [if_neg c2]
          simp only [lf, rt] at c2
          simp only [mk, rotR]
          simp only [tall] at *
          refine ⟨?_, ?_, ?_⟩
          · simp only [Even, tall]
            refine ⟨?_, ?_, e3, ⟨?_, ?_, e4, er⟩⟩ <;> omega
          · omega
          · intro q1 q2; omega
    · rw [if_neg c3]
      refine ⟨⟨by omega, by omega, el, er⟩, ?_, fun _ _ => rfl⟩
      left; rfl

theorem right_ins (rk : Int → Int) (key val : Int) : ∀ {t : T}, Right t → Right (ins rk key val t)
  | nil, _ => ⟨by simp [tall], trivial, trivial⟩
  | node k v h l r, ⟨_, hl, hr⟩ => by
    simp only [ins]
    split
    · exact right_reb (right_ins rk key val hl) hr
    · split
      · exact right_reb hl (right_ins rk key val hr)
      · exact right_reb hl hr

/-- Put into a balanced tree: balanced, as high as it was, or higher by one. -/
theorem even_ins (rk : Int → Int) (key val : Int) : ∀ {t : T}, Right t → Even t → Even (ins rk key val t) ∧ (tall (ins rk key val t) = tall t ∨ tall (ins rk key val t) = tall t + 1)
  | nil, _, _ => ⟨⟨by simp [tall], by simp [tall], trivial, trivial⟩, .inr (by simp [ins, tall])⟩
  | node k v h l r, ⟨hh, hl, hr⟩, ⟨e1, e2, el, er⟩ => by
    simp only [ins]
    have tn : tall (node k v h l r) = 1 + max (tall l) (tall r) := rfl
    split
    · obtain ⟨i1, i2⟩ := even_ins rk key val hl el
      obtain ⟨j1, j2, j3⟩ := even_reb (k := k) (v := v) (h := h) (right_ins rk key val hl) hr i1 er (by omega) (by omega)
      refine ⟨j1, ?_⟩
      by_cases c : tall (ins rk key val l) - tall r ≤ 1
      · rw [j3 c (by omega), tall_mk]; omega
      · omega
    · split
      · obtain ⟨i1, i2⟩ := even_ins rk key val hr er
        obtain ⟨j1, j2, j3⟩ := even_reb (k := k) (v := v) (h := h) hl (right_ins rk key val hr) el i1 (by omega) (by omega)
        refine ⟨j1, ?_⟩
        by_cases c : tall (ins rk key val r) - tall l ≤ 1
        · rw [j3 (by omega) c, tall_mk]; omega
        · omega
      · obtain ⟨j1, j2, j3⟩ := even_reb (k := k) (v := val) (h := h) hl hr el er (by omega) (by omega)
        refine ⟨j1, ?_⟩
        rw [j3 e1 e2, tall_mk]; omega

theorem reb_same {t : T} (hr : Right t) (he : Even t) : reb t = t := by
  cases t with
  | nil => rfl
  | node k v h l r =>
    obtain ⟨h1, h2, h3⟩ := hr
    obtain ⟨e1, e2, el, er⟩ := he
    obtain ⟨_, _, j3⟩ := even_reb (k := k) (v := v) (h := h) h2 h3 el er (by omega) (by omega)
    rw [j3 e1 e2]
    simp only [mk]
    rw [h2.ht, h3.ht, ← h1]

theorem right_rem (rk : Int → Int) : ∀ {t : T} (key : Int), Right t → Even t → Right (rem rk t key)
  | nil, _, _, _ => trivial
  | node k v h l r, key, ⟨hh, hl, hr⟩, ⟨e1, e2, el, er⟩ => by
    simp only [rem]
    split
    · exact right_reb (right_rem rk key hl el) hr
    · split
      · exact right_reb hl (right_rem rk key hr er)
      · split
        · split
          · trivial
          · rw [reb_same hr er]; exact hr
        · split
          · rw [reb_same hl el]; exact hl
          · exact right_reb hl (right_rem rk _ hr er)

/-- Removed from a balanced tree: balanced, as high as it was, or lower by one. -/
theorem even_rem (rk : Int → Int) : ∀ {t : T} (key : Int), Right t → Even t → Even (rem rk t key) ∧ (tall (rem rk t key) = tall t ∨ tall (rem rk t key) = tall t - 1)
  | nil, _, _, _ => ⟨trivial, .inl rfl⟩
  | node k v h l r, key, ⟨hh, hl, hr⟩, ⟨e1, e2, el, er⟩ => by
    simp only [rem]
    have tn : tall (node k v h l r) = 1 + max (tall l) (tall r) := rfl
    have tl := tall_nonneg l
    have tr := tall_nonneg r
    split
    · obtain ⟨i1, i2⟩ := even_rem rk key hl el
      obtain ⟨j1, j2, j3⟩ := even_reb (k := k) (v := v) (h := h) (right_rem rk key hl el) hr i1 er (by omega) (by omega)
      refine ⟨j1, ?_⟩
      by_cases c : tall r - tall (rem rk l key) ≤ 1
      · rw [j3 (by omega) c, tall_mk]; omega
      · omega
    · split
      · obtain ⟨i1, i2⟩ := even_rem rk key hr er
        obtain ⟨j1, j2, j3⟩ := even_reb (k := k) (v := v) (h := h) hl (right_rem rk key hr er) el i1 (by omega) (by omega)
        refine ⟨j1, ?_⟩
        by_cases c : tall l - tall (rem rk r key) ≤ 1
        · rw [j3 c (by omega), tall_mk]; omega
        · omega
      · split
        · rename_i hn
          have h0 : tall l = 0 := by cases l <;> simp_all [isNil, tall]
          split
          · rename_i hn'
            have h1 : tall r = 0 := by cases r <;> simp_all [isNil, tall]
            exact ⟨trivial, .inr (by rw [tn, h0, h1]; simp [tall])⟩
          · rw [reb_same hr er]; exact ⟨er, .inr (by omega)⟩
        · split
          · rename_i hn'
            have h1 : tall r = 0 := by cases r <;> simp_all [isNil, tall]
            rw [reb_same hl el]; exact ⟨el, .inr (by omega)⟩
          · obtain ⟨i1, i2⟩ := even_rem rk (least r).1 hr er
            obtain ⟨j1, j2, j3⟩ := even_reb (k := (least r).1) (v := (least r).2) (h := h) hl (right_rem rk (least r).1 hr er) el i1 (by omega) (by omega)
            refine ⟨j1, ?_⟩
            by_cases c : tall l - tall (rem rk r (least r).1) ≤ 1
            · rw [j3 c (by omega), tall_mk]; omega
            · omega

/-! ### What a tree holds, as a row of pairs that rises -/

def Up (rk : Int → Int) (l : List (Int × Int)) : Prop := l.Pairwise fun a b => rk a.1 < rk b.1

def putL (rk : Int → Int) (key val : Int) : List (Int × Int) → List (Int × Int)
  | [] => [(key, val)]
  | (k, v) :: r => if rk k < rk key then (k, v) :: putL rk key val r else if rk key < rk k then (key, val) :: (k, v) :: r else (k, val) :: r

def remL (rk : Int → Int) (key : Int) : List (Int × Int) → List (Int × Int)
  | [] => []
  | (k, v) :: r => if rk k < rk key then (k, v) :: remL rk key r else if rk key < rk k then (k, v) :: r else r

def getL (rk : Int → Int) (key : Int) : List (Int × Int) → Option (Int × Int)
  | [] => none
  | (k, v) :: r => if rk k < rk key then getL rk key r else if rk key < rk k then none else some (k, v)

theorem putL_low {rk : Int → Int} {key val k v : Int} {R : List (Int × Int)} (h : rk key < rk k) : ∀ L, putL rk key val (L ++ (k, v) :: R) = putL rk key val L ++ (k, v) :: R
  | [] => by simp only [List.nil_append, putL]; rw [if_neg (by omega), if_pos h]; rfl
  | (a, b) :: L => by
    simp only [List.cons_append, putL]
    split
    · rw [putL_low h L]; rfl
    · split <;> rfl

theorem putL_high {rk : Int → Int} {key val : Int} {R : List (Int × Int)} : ∀ L : List (Int × Int), (∀ x ∈ L, rk x.1 < rk key) → putL rk key val (L ++ R) = L ++ putL rk key val R
  | [], _ => rfl
  | (a, b) :: L, h => by
    simp only [List.cons_append, putL]
    rw [if_pos (h (a, b) (by simp)), putL_high L (fun x hx => h x (by simp [hx]))]

theorem remL_low {rk : Int → Int} {key k v : Int} {R : List (Int × Int)} (h : rk key < rk k) : ∀ L, remL rk key (L ++ (k, v) :: R) = remL rk key L ++ (k, v) :: R
  | [] => by simp only [List.nil_append, remL]; rw [if_neg (by omega), if_pos h]
  | (a, b) :: L => by
    simp only [List.cons_append, remL]
    split
    · rw [remL_low h L]; rfl
    · split <;> rfl

theorem remL_high {rk : Int → Int} {key : Int} {R : List (Int × Int)} : ∀ L : List (Int × Int), (∀ x ∈ L, rk x.1 < rk key) → remL rk key (L ++ R) = L ++ remL rk key R
  | [], _ => rfl
  | (a, b) :: L, h => by
    simp only [List.cons_append, remL]
    rw [if_pos (h (a, b) (by simp)), remL_high L (fun x hx => h x (by simp [hx]))]

theorem getL_low {rk : Int → Int} {key k v : Int} {R : List (Int × Int)} (h : rk key < rk k) : ∀ L, getL rk key (L ++ (k, v) :: R) = getL rk key L
  | [] => by simp only [List.nil_append, getL]; rw [if_neg (by omega), if_pos h]
  | (a, b) :: L => by
    simp only [List.cons_append, getL]
    split
    · exact getL_low h L
    · rfl

theorem getL_high {rk : Int → Int} {key : Int} {R : List (Int × Int)} : ∀ L : List (Int × Int), (∀ x ∈ L, rk x.1 < rk key) → getL rk key (L ++ R) = getL rk key R
  | [], _ => rfl
  | (a, b) :: L, h => by
    simp only [List.cons_append, getL]
    rw [if_pos (h (a, b) (by simp)), getL_high L (fun x hx => h x (by simp [hx]))]

theorem up_parts {rk : Int → Int} {L R : List (Int × Int)} {p : Int × Int} (h : Up rk (L ++ p :: R)) : Up rk L ∧ Up rk R ∧ (∀ x ∈ L, rk x.1 < rk p.1) ∧ (∀ x ∈ R, rk p.1 < rk x.1) := by
  obtain ⟨h1, h2, h3⟩ := List.pairwise_append.1 h
  obtain ⟨h4, h5⟩ := List.pairwise_cons.1 h2
  exact ⟨h1, h5, fun x hx => h3 x hx p (by simp), fun x hx => h4 x hx⟩

theorem list_ins {rk : Int → Int} {key val : Int} : ∀ {t : T}, Up rk (list t) → list (ins rk key val t) = putL rk key val (list t)
  | nil, _ => rfl
  | node k v h l r, hu => by
    obtain ⟨ul, ur, hl, hr⟩ := up_parts hu
    simp only [ins]
    split
    · rename_i c
      rw [list_reb, list, list_ins ul, list, putL_low c]
    · split
      · rename_i c1 c
        have c' : rk k < rk key := by omega
        rw [list_reb, list, list_ins ur, list, putL_high (list l) (fun x hx => by have := hl x hx; simp only at this; omega)]
        simp only [putL]; rw [if_pos c']
      · rename_i c1 c
        rw [list_reb, list, list, putL_high (list l) (fun x hx => by have := hl x hx; simp only at this; omega)]
        simp only [putL]; rw [if_neg (by omega), if_neg (by omega)]

theorem least_list : ∀ {t : T}, t.isNil = false → ∃ R, list t = least t :: R
  | nil, h => by simp [isNil] at h
  | node k v h nil r, _ => ⟨list r, rfl⟩
  | node k v h (node k2 v2 h2 a b) r, _ => by
    obtain ⟨R, hR⟩ := least_list (t := node k2 v2 h2 a b) rfl
    exact ⟨R ++ (k, v) :: list r, by rw [list, hR]; rfl⟩

theorem list_rem {rk : Int → Int} : ∀ {t : T} (key : Int), Up rk (list t) → list (rem rk t key) = remL rk key (list t)
  | nil, _, _ => rfl
  | node k v h l r, key, hu => by
    obtain ⟨ul, ur, hl, hr⟩ := up_parts hu
    simp only [rem]
    split
    · rename_i c
      rw [list_reb, list, list_rem key ul, list, remL_low c]
    · split
      · rename_i c1 c
        rw [list_reb, list, list_rem key ur, list, remL_high (list l) (fun x hx => by have := hl x hx; simp only at this; omega)]
        simp only [remL]; rw [if_pos c]
      · rename_i c1 c
        have e : remL rk key (list (node k v h l r)) = list l ++ list r := by
          rw [list, remL_high (list l) (fun x hx => by have := hl x hx; simp only at this; omega)]
          simp only [remL]; rw [if_neg (by omega), if_neg (by omega)]
        rw [e]
        split
        · rename_i hn
          have : list l = [] := by cases l <;> simp_all [isNil, list]
          rw [this]
          split
          · rename_i hn'
            have : list r = [] := by cases r <;> simp_all [isNil, list]
            rw [this]; rfl
          · rw [list_reb]; rfl
        · split
          · rename_i hn'
            have : list r = [] := by cases r <;> simp_all [isNil, list]
            rw [this, list_reb, List.append_nil]
          · rename_i hn'
            obtain ⟨R, hR⟩ := least_list (t := r) (by simpa using hn')
            rw [list_reb, list, list_rem _ ur, hR]
            rw [hR] at ur
            obtain ⟨u1, u2⟩ := List.pairwise_cons.1 ur
            congr 1
            generalize least r = p at *
            obtain ⟨a, b⟩ := p
            simp only [remL]
            rw [if_neg (by omega), if_neg (by omega)]

theorem find_list {rk : Int → Int} {key : Int} : ∀ {t : T}, Up rk (list t) → find rk key t = getL rk key (list t)
  | nil, _ => rfl
  | node k v h l r, hu => by
    obtain ⟨ul, ur, hl, hr⟩ := up_parts hu
    simp only [find]
    split
    · rename_i c
      rw [find_list ul, list, getL_low c]
    · split
      · rename_i c1 c
        rw [find_list ur, list, getL_high (list l) (fun x hx => by have := hl x hx; simp only at this; omega)]
        simp only [getL]; rw [if_pos c]
      · rename_i c1 c
        rw [list, getL_high (list l) (fun x hx => by have := hl x hx; simp only at this; omega)]
        simp only [getL]; rw [if_neg (by omega), if_neg (by omega)]

theorem mem_putL {rk : Int → Int} {key val : Int} {x : Int × Int} : ∀ {l : List (Int × Int)}, x ∈ putL rk key val l → x = (key, val) ∨ (∃ y ∈ l, rk y.1 = rk x.1)
  | [], h => by simp only [putL, List.mem_singleton] at h; exact .inl h
  | (a, b) :: l, h => by
    simp only [putL] at h
    split at h
    · rcases List.mem_cons.1 h with h | h
      · exact .inr ⟨(a, b), by simp, by rw [h]⟩
      · rcases mem_putL h with h | ⟨y, hy, e⟩
        · exact .inl h
        · exact .inr ⟨y, by simp [hy], e⟩
    · split at h
      · rcases List.mem_cons.1 h with h | h
        · exact .inl h
        · exact .inr ⟨x, h, rfl⟩
      · rcases List.mem_cons.1 h with h | h
        · exact .inr ⟨(a, b), by simp, by rw [h]⟩
        · exact .inr ⟨x, by simp [h], rfl⟩

theorem up_putL {rk : Int → Int} {key val : Int} : ∀ {l : List (Int × Int)}, Up rk l → Up rk (putL rk key val l)
  | [], _ => by simp [putL, Up]
  | (a, b) :: l, h => by
    obtain ⟨h1, h2⟩ := List.pairwise_cons.1 h
    simp only [putL]
    split
    · rename_i c
      refine List.pairwise_cons.2 ⟨fun x hx => ?_, up_putL h2⟩
      rcases mem_putL hx with e | ⟨y, hy, e⟩
      · rw [e]; exact c
      · rw [← e]; exact h1 y hy
    · split
      · rename_i c
        refine List.pairwise_cons.2 ⟨fun x hx => ?_, h⟩
        rcases List.mem_cons.1 hx with e | e
        · rw [e]; exact c
        · have := h1 x e; simp only at this ⊢; omega
      · exact List.pairwise_cons.2 ⟨fun x hx => h1 x hx, h2⟩

theorem mem_remL {rk : Int → Int} {key : Int} {x : Int × Int} : ∀ {l : List (Int × Int)}, x ∈ remL rk key l → x ∈ l
  | [], h => by simp [remL] at h
  | (a, b) :: l, h => by
    simp only [remL] at h
    split at h
    · rcases List.mem_cons.1 h with h | h
      · simp [h]
      · simp [mem_remL h]
    · split at h
      · exact h
      · simp [h]

theorem up_remL {rk : Int → Int} {key : Int} : ∀ {l : List (Int × Int)}, Up rk l → Up rk (remL rk key l)
  | [], _ => by simp [remL, Up]
  | (a, b) :: l, h => by
    obtain ⟨h1, h2⟩ := List.pairwise_cons.1 h
    simp only [remL]
    split
    · exact List.pairwise_cons.2 ⟨fun x hx => h1 x (mem_remL hx), up_remL h2⟩
    · split
      · exact h
      · exact h2

end T
end Go.Proofs.Ytjlcebgfknfelaa.AvlPure
