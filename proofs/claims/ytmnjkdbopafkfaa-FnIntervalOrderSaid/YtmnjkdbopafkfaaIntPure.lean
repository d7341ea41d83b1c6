/- Interval trees as plain data: the functions of the package, and what they keep. No Go, no memory. -/
namespace Go.Proofs.Ytmnjkdbopafkfaa.IntPure

structure S where
  lo : Int
  hi : Int
  v : Int

inductive T where
  | nil
  | node (s : S) (h m : Int) (l r : T)

namespace T

def ht : T → Int
  | nil => 0
  | node _ h _ _ _ => h

def lf : T → T
  | nil => nil
  | node _ _ _ l _ => l

def rt : T → T
  | nil => nil
  | node _ _ _ _ r => r

def isNil : T → Bool
  | nil => true
  | node _ _ _ _ _ => false

def mxo (a b : Int) : Int := if a > b then a else b

/-- The greatest end, from one on, with those of a part. -/
def upMax (a : Int) : T → Int
  | nil => a
  | node _ _ m _ _ => mxo a m

def tall : T → Int
  | nil => 0
  | node _ _ _ l r => 1 + max (tall l) (tall r)

def size : T → Int
  | nil => 0
  | node _ _ _ l r => 1 + size l + size r

def list : T → List S
  | nil => []
  | node s _ _ l r => list l ++ s :: list r

/-- A node with its height, and its greatest end, reckoned anew. -/
def mk (s : S) (l r : T) : T := node s (1 + mxo (ht l) (ht r)) (upMax (upMax s.hi r) l) l r

def rotL : T → T
  | node s _ _ l (node s2 _ _ rl rr) => mk s2 (mk s l rl) rr
  | t => t

def rotR : T → T
  | node s _ _ (node s2 _ _ ll lr) r => mk s2 ll (mk s lr r)
  | t => t

def reb : T → T
  | nil => nil
  | node s _ _ l r =>
    if ht l - ht r ≤ -2 then rotL (mk s l (if ht (lf r) > ht (rt r) then rotR r else r))
    else if ht l - ht r ≥ 2 then rotR (mk s (if ht (rt l) > ht (lf l) then rotL l else l) r)
    else mk s l r

/-- The tree, what was in the way, and whether there was something. -/
def ins (x : S) (over : Bool) : T → T × S × Bool
  | nil => (node x 1 x.hi nil nil, ⟨0, 0, 0⟩, false)
  | node s h m l r =>
    if x.lo < s.lo then (reb (node s h m (ins x over l).1 r), (ins x over l).2)
    else if x.lo > s.lo then (reb (node s h m l (ins x over r).1), (ins x over r).2)
    else if over = true then (reb (node x h m l r), s, true)
    else (node s h m l r, s, true)

def least : T → S
  | nil => ⟨0, 0, 0⟩
  | node s _ _ nil _ => s
  | node _ _ _ l _ => least l

def rem : T → Int → T × S × Bool
  | nil, _ => (nil, ⟨0, 0, 0⟩, false)
  | node s h m l r, key =>
    if key < s.lo then (reb (node s h m (rem l key).1 r), (rem l key).2)
    else if key > s.lo then (reb (node s h m l (rem r key).1), (rem r key).2)
    else if l.isNil = true then (reb r, s, true)
    else if r.isNil = true then (reb l, s, true)
    else (reb (node (least r) h m l (rem r (least r).lo).1), s, true)

def find (key : Int) : T → Option S
  | nil => none
  | node s _ _ l r => if key < s.lo then find key l else if key > s.lo then find key r else some s

def over (a b : Int) : T → List S
  | nil => []
  | node s _ m l r =>
    if a ≥ m then []
    else over a b l ++ (if s.lo < b ∧ s.hi > a then [s] else []) ++ (if b ≤ s.lo then [] else over a b r)

def Right : T → Prop
  | nil => True
  | node _ h _ l r => h = 1 + max (tall l) (tall r) ∧ Right l ∧ Right r

def Even : T → Prop
  | nil => True
  | node _ _ _ l r => tall l - tall r ≤ 1 ∧ tall r - tall l ≤ 1 ∧ Even l ∧ Even r

/-- Each node tells the greatest end of all that are at it, and below it. -/
def Maxed : T → Prop
  | nil => True
  | node s _ m l r => m = upMax (upMax s.hi r) l ∧ Maxed l ∧ Maxed r

theorem mxo_max (a b : Int) : mxo a b = max a b := by unfold mxo; split <;> omega

theorem tall_nonneg : ∀ t : T, 0 ≤ tall t
  | nil => by simp [tall]
  | node _ _ _ l r => by have := tall_nonneg l; have := tall_nonneg r; simp only [tall]; omega

theorem size_nonneg : ∀ t : T, 0 ≤ size t
  | nil => by simp [size]
  | node _ _ _ l r => by have := size_nonneg l; have := size_nonneg r; simp only [size]; omega

theorem size_list : ∀ t : T, size t = (list t).length
  | nil => rfl
  | node _ _ _ l r => by simp only [size, list, List.length_append, List.length_cons, size_list l, size_list r]; omega

theorem tall_le_size : ∀ t : T, tall t ≤ size t
  | nil => by simp [tall, size]
  | node _ _ _ l r => by
    have := tall_le_size l; have := tall_le_size r; have := size_nonneg l; have := size_nonneg r
    simp only [tall, size]; omega

theorem Right.ht {t : T} (h : Right t) : ht t = tall t := by
  cases t with
  | nil => rfl
  | node s x m l r => exact h.1

theorem mk_right {s : S} {l r : T} (hl : Right l) (hr : Right r) : Right (mk s l r) := by
  refine ⟨?_, hl, hr⟩
  rw [hl.ht, hr.ht, mxo_max]

theorem mk_maxed {s : S} {l r : T} (hl : Maxed l) (hr : Maxed r) : Maxed (mk s l r) := ⟨rfl, hl, hr⟩

theorem tall_mk (s : S) (l r : T) : tall (mk s l r) = 1 + max (tall l) (tall r) := rfl
theorem list_mk (s : S) (l r : T) : list (mk s l r) = list l ++ s :: list r := rfl

theorem list_rotL (t : T) : list (rotL t) = list t := by
  cases t with
  | nil => rfl
  | node s h m l r =>
    cases r with
    | nil => rfl
    | node s2 h2 m2 rl rr => simp [rotL, mk, list]

theorem list_rotR (t : T) : list (rotR t) = list t := by
  cases t with
  | nil => rfl
  | node s h m l r =>
    cases l with
    | nil => rfl
    | node s2 h2 m2 ll lr => simp [rotR, mk, list]

theorem right_rotL {t : T} (h : Right t) : Right (rotL t) := by
  cases t with
  | nil => trivial
  | node s x m l r =>
    cases r with
    | nil => exact h
    | node s2 h2 m2 rl rr => exact mk_right (mk_right h.2.1 h.2.2.2.1) h.2.2.2.2

theorem right_rotR {t : T} (h : Right t) : Right (rotR t) := by
  cases t with
  | nil => trivial
  | node s x m l r =>
    cases l with
    | nil => exact h
    | node s2 h2 m2 ll lr => exact mk_right h.2.1.2.1 (mk_right h.2.1.2.2 h.2.2)

theorem maxed_rotL {t : T} (h : Maxed t) : Maxed (rotL t) := by
  cases t with
  | nil => trivial
  | node s x m l r =>
    cases r with
    | nil => exact h
    | node s2 h2 m2 rl rr => exact mk_maxed (mk_maxed h.2.1 h.2.2.2.1) h.2.2.2.2

theorem maxed_rotR {t : T} (h : Maxed t) : Maxed (rotR t) := by
  cases t with
  | nil => trivial
  | node s x m l r =>
    cases l with
    | nil => exact h
    | node s2 h2 m2 ll lr => exact mk_maxed h.2.1.2.1 (mk_maxed h.2.1.2.2 h.2.2)

theorem list_reb (t : T) : list (reb t) = list t := by
  cases t with
  | nil => rfl
  | node s h m l r =>
    simp only [reb]
    split
    · rw [list_rotL, list_mk]
      split
      · rw [list_rotR]; rfl
      · rfl
    · split
      · rw [list_rotR, list_mk]
        split
        · rw [list_rotL]; rfl
        · rfl
      · rfl

theorem right_reb {s : S} {h m : Int} {l r : T} (hl : Right l) (hr : Right r) : Right (reb (node s h m l r)) := by
  simp only [reb]
  split
  · refine right_rotL (mk_right hl ?_)
    split
    · exact right_rotR hr
    · exact hr
  · split
    · refine right_rotR (mk_right ?_ hr)
      split
      · exact right_rotL hl
      · exact hl
    · exact mk_right hl hr

theorem maxed_reb {s : S} {h m : Int} {l r : T} (hl : Maxed l) (hr : Maxed r) : Maxed (reb (node s h m l r)) := by
  simp only [reb]
  split
  · refine maxed_rotL (mk_maxed hl ?_)
    split
    · exact maxed_rotR hr
    · exact hr
  · split
    · refine maxed_rotR (mk_maxed ?_ hr)
      split
      · exact maxed_rotL hl
      · exact hl
    · exact mk_maxed hl hr

theorem even_reb {s : S} {h m : Int} {l r : T} (hl : Right l) (hr : Right r) (el : Even l) (er : Even r) (h1 : tall l - tall r ≤ 2) (h2 : tall r - tall l ≤ 2) :
    Even (reb (node s h m l r)) ∧ (tall (reb (node s h m l r)) = 1 + max (tall l) (tall r) ∨ tall (reb (node s h m l r)) = max (tall l) (tall r)) ∧
      (tall l - tall r ≤ 1 → tall r - tall l ≤ 1 → reb (node s h m l r) = mk s l r) := by
  have hl' := hl.ht
  have hr' := hr.ht
  simp only [reb]
  by_cases c1 : ht l - ht r ≤ -2
  · rw [if_pos c1]
    cases r with
    | nil => simp [ht, tall] at *; have := tall_nonneg l; omega
    | node s2 h2' m2 rl rr =>
      have h3 := hr.2.1.ht
      have h4 := hr.2.2.ht
      have t1 := tall_nonneg rl
      have t2 := tall_nonneg rr
      obtain ⟨e1, e2, e3, e4⟩ := er
      by_cases c2 : ht (lf (node s2 h2' m2 rl rr)) > ht (rt (node s2 h2' m2 rl rr))
      · rw [if_pos c2]
        simp only [lf, rt] at c2
        cases rl with
        | nil => simp only [T.ht, tall] at *; omega
        | node s3 h3' m3 a b =>
          obtain ⟨f1, f2, f3, f4⟩ := e3
          simp only [rotR, mk, rotL]
          simp only [tall] at *
          refine ⟨?_, ?_, ?_⟩
          · simp only [Even, tall]
            refine ⟨?_, ?_, ⟨?_, ?_, el, f3⟩, ⟨?_, ?_, f4, e4⟩⟩ <;> omega
          · omega
          · intro q1 q2; omega
      · rw [if_neg c2]
        simp only [lf, rt] at c2
        simp only [mk, rotL]
        simp only [tall] at *
        refine ⟨?_, ?_, ?_⟩
        · simp only [Even, tall]
          refine ⟨?_, ?_, ⟨?_, ?_, el, e3⟩, e4⟩ <;> omega
        · omega
        · intro q1 q2; omega
  · rw [if_neg c1]
    by_cases c3 : ht l - ht r ≥ 2
    · rw [if_pos c3]
      cases l with
      | nil => simp [ht, tall] at *; have := tall_nonneg r; omega
      | node s2 h2' m2 ll lr =>
        have h3 := hl.2.1.ht
        have h4 := hl.2.2.ht
        have t1 := tall_nonneg ll
        have t2 := tall_nonneg lr
        obtain ⟨e1, e2, e3, e4⟩ := el
        by_cases c2 : ht (rt (node s2 h2' m2 ll lr)) > ht (lf (node s2 h2' m2 ll lr))
        · rw [if_pos c2]
          simp only [lf, rt] at c2
          cases lr with
          | nil => simp only [T.ht, tall] at *; omega
          | node s3 h3' m3 a b =>
            obtain ⟨f1, f2, f3, f4⟩ := e4
            simp only [rotR, mk, rotL]
            simp only [tall] at *
            refine ⟨?_, ?_, ?_⟩
            · simp only [Even, tall]
              refine ⟨?_, ?_, ⟨?_, ?_, e3, f3⟩, ⟨?_, ?_, f4, er⟩⟩ <;> omega
            · omega
            · intro q1 q2; omega
        · rw [if_neg c2]
          simp only [lf, rt] at c2
          simp only [mk, rotR]
          simp only [tall] at *
          refine ⟨?_, ?_, ?_⟩
          · simp only [Even, tall]
            refine ⟨?_, ?_, e3, ⟨?_, ?_, e4, er⟩⟩ <;> omega
          · omega
          · intro q1 q2; omega
    · rw [if_neg c3]
      refine ⟨⟨by omega, by omega, el, er⟩, ?_, fun _ _ => rfl⟩
      left; rfl

theorem reb_same {t : T} (hr : Right t) (he : Even t) (hm : Maxed t) : reb t = t := by
  cases t with
  | nil => rfl
  | node s h m l r =>
    obtain ⟨h1, h2, h3⟩ := hr
    obtain ⟨e1, e2, el, er⟩ := he
    obtain ⟨_, _, j3⟩ := even_reb (s := s) (h := h) (m := m) h2 h3 el er (by omega) (by omega)
    rw [j3 e1 e2]
    simp only [mk]
    rw [h2.ht, h3.ht, mxo_max, ← h1, ← hm.1]

/-- All that an interval tree keeps. -/
structure Good (t : T) : Prop where
  right : Right t
  even : Even t
  maxed : Maxed t

theorem good_reb {s : S} {h m : Int} {l r : T} (hl : Good l) (hr : Good r) (h1 : tall l - tall r ≤ 2) (h2 : tall r - tall l ≤ 2) : Good (reb (node s h m l r)) :=
  ⟨right_reb hl.right hr.right, (even_reb hl.right hr.right hl.even hr.even h1 h2).1, maxed_reb hl.maxed hr.maxed⟩

theorem Good.lf {s : S} {h m : Int} {l r : T} (g : Good (node s h m l r)) : Good l := ⟨g.right.2.1, g.even.2.2.1, g.maxed.2.1⟩
theorem Good.rt {s : S} {h m : Int} {l r : T} (g : Good (node s h m l r)) : Good r := ⟨g.right.2.2, g.even.2.2.2, g.maxed.2.2⟩

theorem tall_reb {s : S} {h m : Int} {l r : T} (hl : Good l) (hr : Good r) (h1 : tall l - tall r ≤ 1) (h2 : tall r - tall l ≤ 1) : tall (reb (node s h m l r)) = 1 + max (tall l) (tall r) := by
  rw [(even_reb (s := s) (h := h) (m := m) hl.right hr.right hl.even hr.even (by omega) (by omega)).2.2 h1 h2, tall_mk]

theorem good_ins (x : S) (ov : Bool) : ∀ {t : T}, Good t → Good (ins x ov t).1 ∧ (tall (ins x ov t).1 = tall t ∨ tall (ins x ov t).1 = tall t + 1)
  | nil, _ => ⟨⟨⟨by simp [tall], trivial, trivial⟩, ⟨by simp [tall], by simp [tall], trivial, trivial⟩, ⟨by simp [upMax], trivial, trivial⟩⟩, .inr (by simp [ins, tall])⟩
  | node s h m l r, g => by
    have e1 := g.even.1
    have e2 := g.even.2.1
    have tn : tall (node s h m l r) = 1 + max (tall l) (tall r) := rfl
    simp only [ins]
    split
    · obtain ⟨i1, i2⟩ := good_ins x ov g.lf
      refine ⟨good_reb (h := h) (m := m) i1 g.rt (by omega) (by omega), ?_⟩
      by_cases c : tall (ins x ov l).1 - tall r ≤ 1
      · rw [tall_reb (h := h) (m := m) i1 g.rt c (by omega)]; omega
      · have := (even_reb (s := s) (h := h) (m := m) i1.right g.rt.right i1.even g.rt.even (by omega) (by omega)).2.1
        simp only; omega
    · split
      · obtain ⟨i1, i2⟩ := good_ins x ov g.rt
        refine ⟨good_reb (h := h) (m := m) g.lf i1 (by omega) (by omega), ?_⟩
        by_cases c : tall (ins x ov r).1 - tall l ≤ 1
        · rw [tall_reb (h := h) (m := m) g.lf i1 (by omega) c]; omega
        · have := (even_reb (s := s) (h := h) (m := m) g.lf.right i1.right g.lf.even i1.even (by omega) (by omega)).2.1
          simp only; omega
      · split
        · refine ⟨good_reb (h := h) (m := m) g.lf g.rt (by omega) (by omega), ?_⟩
          rw [tall_reb (h := h) (m := m) g.lf g.rt e1 e2]; omega
        · exact ⟨g, .inl rfl⟩

theorem good_rem : ∀ {t : T} (key : Int), Good t → Good (rem t key).1 ∧ (tall (rem t key).1 = tall t ∨ tall (rem t key).1 = tall t - 1)
  | nil, _, g => ⟨g, .inl rfl⟩
  | node s h m l r, key, g => by
    have e1 := g.even.1
    have e2 := g.even.2.1
    have tn : tall (node s h m l r) = 1 + max (tall l) (tall r) := rfl
    have tl := tall_nonneg l
    have tr := tall_nonneg r
    simp only [rem]
    split
    · obtain ⟨i1, i2⟩ := good_rem key g.lf
      refine ⟨good_reb (h := h) (m := m) i1 g.rt (by omega) (by omega), ?_⟩
      by_cases c : tall r - tall (rem l key).1 ≤ 1
      · rw [tall_reb (h := h) (m := m) i1 g.rt (by omega) c]; omega
      · have := (even_reb (s := s) (h := h) (m := m) i1.right g.rt.right i1.even g.rt.even (by omega) (by omega)).2.1
        simp only; omega
    · split
      · obtain ⟨i1, i2⟩ := good_rem key g.rt
        refine ⟨good_reb (h := h) (m := m) g.lf i1 (by omega) (by omega), ?_⟩
        by_cases c : tall l - tall (rem r key).1 ≤ 1
        · rw [tall_reb (h := h) (m := m) g.lf i1 c (by omega)]; omega
        · have := (even_reb (s := s) (h := h) (m := m) g.lf.right i1.right g.lf.even i1.even (by omega) (by omega)).2.1
          simp only; omega
      · split
        · rename_i hn
          have h0 : tall l = 0 := by cases l <;> simp_all [isNil, tall]
          simp only
          rw [reb_same g.rt.right g.rt.even g.rt.maxed]; exact ⟨g.rt, .inr (by omega)⟩
        · split
          · rename_i hn'
            have h1 : tall r = 0 := by cases r <;> simp_all [isNil, tall]
            simp only
            rw [reb_same g.lf.right g.lf.even g.lf.maxed]; exact ⟨g.lf, .inr (by omega)⟩
          · obtain ⟨i1, i2⟩ := good_rem (least r).lo g.rt
            refine ⟨good_reb (h := h) (m := m) g.lf i1 (by omega) (by omega), ?_⟩
            by_cases c : tall l - tall (rem r (least r).lo).1 ≤ 1
            · rw [tall_reb (h := h) (m := m) g.lf i1 c (by omega)]; omega
            · have := (even_reb (s := least r) (h := h) (m := m) g.lf.right i1.right g.lf.even i1.even (by omega) (by omega)).2.1
              simp only; omega

/-! ### The row of intervals that a tree has -/

def Up (l : List S) : Prop := l.Pairwise fun a b => a.lo < b.lo

def insL (x : S) (ov : Bool) : List S → List S
  | [] => [x]
  | s :: r => if s.lo < x.lo then s :: insL x ov r else if x.lo < s.lo then x :: s :: r else (if ov = true then x else s) :: r

def getL (key : Int) : List S → Option S
  | [] => none
  | s :: r => if s.lo < key then getL key r else if key < s.lo then none else some s

def remL (key : Int) : List S → List S
  | [] => []
  | s :: r => if s.lo < key then s :: remL key r else if key < s.lo then s :: r else r

def told : Option S → S × Bool
  | none => (⟨0, 0, 0⟩, false)
  | some s => (s, true)

theorem insL_low {x s : S} {ov : Bool} {R : List S} (h : x.lo < s.lo) : ∀ L, insL x ov (L ++ s :: R) = insL x ov L ++ s :: R
  | [] => by simp only [List.nil_append, insL]; rw [if_neg (by omega), if_pos h]; rfl
  | a :: L => by
    simp only [List.cons_append, insL]
    split
    · rw [insL_low h L]; rfl
    · split <;> rfl

theorem insL_high {x : S} {ov : Bool} {R : List S} : ∀ L : List S, (∀ a ∈ L, a.lo < x.lo) → insL x ov (L ++ R) = L ++ insL x ov R
  | [], _ => rfl
  | a :: L, h => by
    simp only [List.cons_append, insL]
    rw [if_pos (h a (by simp)), insL_high L (fun x hx => h x (by simp [hx]))]

theorem remL_low {key : Int} {s : S} {R : List S} (h : key < s.lo) : ∀ L, remL key (L ++ s :: R) = remL key L ++ s :: R
  | [] => by simp only [List.nil_append, remL]; rw [if_neg (by omega), if_pos h]
  | a :: L => by
    simp only [List.cons_append, remL]
    split
    · rw [remL_low h L]; rfl
    · split <;> rfl

theorem remL_high {key : Int} {R : List S} : ∀ L : List S, (∀ a ∈ L, a.lo < key) → remL key (L ++ R) = L ++ remL key R
  | [], _ => rfl
  | a :: L, h => by
    simp only [List.cons_append, remL]
    rw [if_pos (h a (by simp)), remL_high L (fun x hx => h x (by simp [hx]))]

theorem getL_low {key : Int} {s : S} {R : List S} (h : key < s.lo) : ∀ L, getL key (L ++ s :: R) = getL key L
  | [] => by simp only [List.nil_append, getL]; rw [if_neg (by omega), if_pos h]
  | a :: L => by
    simp only [List.cons_append, getL]
    split
    · exact getL_low h L
    · rfl

theorem getL_high {key : Int} {R : List S} : ∀ L : List S, (∀ a ∈ L, a.lo < key) → getL key (L ++ R) = getL key R
  | [], _ => rfl
  | a :: L, h => by
    simp only [List.cons_append, getL]
    rw [if_pos (h a (by simp)), getL_high L (fun x hx => h x (by simp [hx]))]

theorem up_parts {L R : List S} {p : S} (h : Up (L ++ p :: R)) : Up L ∧ Up R ∧ (∀ x ∈ L, x.lo < p.lo) ∧ (∀ x ∈ R, p.lo < x.lo) := by
  obtain ⟨h1, h2, h3⟩ := List.pairwise_append.1 h
  obtain ⟨h4, h5⟩ := List.pairwise_cons.1 h2
  exact ⟨h1, h5, fun x hx => h3 x hx p (by simp), fun x hx => h4 x hx⟩

theorem list_ins {x : S} {ov : Bool} : ∀ {t : T}, Up (list t) → list (ins x ov t).1 = insL x ov (list t) ∧ (ins x ov t).2 = told (getL x.lo (list t))
  | nil, _ => ⟨rfl, rfl⟩
  | node s h m l r, hu => by
    obtain ⟨ul, ur, hl, hr⟩ := up_parts hu
    simp only [ins]
    split
    · rename_i c
      obtain ⟨i1, i2⟩ := list_ins (x := x) (ov := ov) ul
      simp only
      rw [list_reb, list, i1, list, insL_low c, getL_low c]
      exact ⟨rfl, i2⟩
    · split
      · rename_i c1 c
        have c' : s.lo < x.lo := by omega
        obtain ⟨i1, i2⟩ := list_ins (x := x) (ov := ov) ur
        have hl' : ∀ a ∈ list l, a.lo < x.lo := fun a ha => by have := hl a ha; omega
        simp only
        rw [list_reb, list, i1, list, insL_high (list l) hl', getL_high (list l) hl']
        simp only [insL, getL]; rw [if_pos c', if_pos c']; exact ⟨rfl, i2⟩
      · rename_i c1 c
        have hl' : ∀ a ∈ list l, a.lo < x.lo := fun a ha => by have := hl a ha; omega
        split
        · rename_i ho
          simp only
          rw [list_reb, list, list, insL_high (list l) hl', getL_high (list l) hl']
          have f1 : ¬ s.lo < x.lo := by omega
          simp only [insL, getL, if_neg f1, if_neg c1, if_pos ho]; exact ⟨trivial, rfl⟩
        · rename_i ho
          simp only
          rw [list, insL_high (list l) hl', getL_high (list l) hl']
          have f1 : ¬ s.lo < x.lo := by omega
          simp only [insL, getL, if_neg f1, if_neg c1, if_neg ho]; exact ⟨trivial, rfl⟩

theorem least_list : ∀ {t : T}, t.isNil = false → ∃ R, list t = least t :: R
  | nil, h => by simp [isNil] at h
  | node s h m nil r, _ => ⟨list r, rfl⟩
  | node s h m (node s2 h2 m2 a b) r, _ => by
    obtain ⟨R, hR⟩ := least_list (t := node s2 h2 m2 a b) rfl
    exact ⟨R ++ s :: list r, by rw [list, hR]; rfl⟩

theorem list_rem : ∀ {t : T} (key : Int), Up (list t) → list (rem t key).1 = remL key (list t) ∧ (rem t key).2 = told (getL key (list t))
  | nil, _, _ => ⟨rfl, rfl⟩
  | node s h m l r, key, hu => by
    obtain ⟨ul, ur, hl, hr⟩ := up_parts hu
    simp only [rem]
    split
    · rename_i c
      obtain ⟨i1, i2⟩ := list_rem key ul
      simp only
      rw [list_reb, list, i1, list, remL_low c, getL_low c]
      exact ⟨rfl, i2⟩
    · split
      · rename_i c1 c
        obtain ⟨i1, i2⟩ := list_rem key ur
        have hl' : ∀ a ∈ list l, a.lo < key := fun a ha => by have := hl a ha; omega
        have c' : s.lo < key := by omega
        simp only
        rw [list_reb, list, i1, list, remL_high (list l) hl', getL_high (list l) hl']
        simp only [remL, getL]; rw [if_pos c', if_pos c']; exact ⟨rfl, i2⟩
      · rename_i c1 c
        have hl' : ∀ a ∈ list l, a.lo < key := fun a ha => by have := hl a ha; omega
        have e : remL key (list (node s h m l r)) = list l ++ list r := by
          rw [list, remL_high (list l) hl']
          simp only [remL]; rw [if_neg (by omega), if_neg (by omega)]
        have e' : told (getL key (list (node s h m l r))) = (s, true) := by
          rw [list, getL_high (list l) hl']
          simp only [getL]; rw [if_neg (by omega), if_neg (by omega)]; rfl
        rw [e, e']
        split
        · rename_i hn
          have : list l = [] := by cases l <;> simp_all [isNil, list]
          refine ⟨?_, rfl⟩
          show list (reb r) = _
          rw [this, list_reb]; rfl
        · split
          · rename_i hn'
            have : list r = [] := by cases r <;> simp_all [isNil, list]
            refine ⟨?_, rfl⟩
            show list (reb l) = _
            rw [this, list_reb, List.append_nil]
          · rename_i hn'
            obtain ⟨R, hR⟩ := least_list (t := r) (by simpa using hn')
            refine ⟨?_, rfl⟩
            simp only
            rw [list_reb, list, (list_rem _ ur).1, hR]
            congr 1
            simp only [remL]
            rw [if_neg (by omega), if_neg (by omega)]

theorem find_list {key : Int} : ∀ {t : T}, Up (list t) → find key t = getL key (list t)
  | nil, _ => rfl
  | node s h m l r, hu => by
    obtain ⟨ul, ur, hl, hr⟩ := up_parts hu
    simp only [find]
    split
    · rename_i c
      rw [find_list ul, list, getL_low c]
    · split
      · rename_i c1 c
        rw [find_list ur, list, getL_high (list l) (fun x hx => by have := hl x hx; omega)]
        simp only [getL]; rw [if_pos (by omega)]
      · rename_i c1 c
        rw [list, getL_high (list l) (fun x hx => by have := hl x hx; omega)]
        simp only [getL]; rw [if_neg (by omega), if_neg (by omega)]

theorem upMax_le (a b : Int) (t : T) (h : upMax a t ≤ b) : a ≤ b := by
  cases t with
  | nil => exact h
  | node s h' m l r => simp only [upMax, mxo_max] at h; omega

/-- No interval at a node, or below it, ends behind what the node tells. -/
theorem maxed_all : ∀ {t : T} {a : Int}, Maxed t → (∀ s h m l r, t = node s h m l r → m ≤ a) → ∀ x ∈ list t, x.hi ≤ a
  | nil, _, _, _, x, hx => by simp [list] at hx
  | node s h m l r, a, ⟨hm, hl, hr⟩, hb, x, hx => by
    have hma := hb s h m l r rfl
    rw [hm] at hma
    have h1 := upMax_le _ _ _ hma
    have h0 := upMax_le _ _ _ h1
    rw [list] at hx
    rcases List.mem_append.1 hx with hx | hx
    · refine maxed_all hl (fun s' h' m' l' r' e => ?_) x hx
      subst e; simp only [upMax, mxo_max] at hma; omega
    · rcases List.mem_cons.1 hx with e | hx
      · rw [e]; exact h0
      · refine maxed_all hr (fun s' h' m' l' r' e => ?_) x hx
        subst e; simp only [upMax, mxo_max] at h1; omega

theorem filter_none {p : S → Bool} {l : List S} (h : ∀ x ∈ l, p x = false) : l.filter p = [] := List.filter_eq_nil_iff.2 (fun x hx => by simp [h x hx])

theorem over_list (a b : Int) : ∀ {t : T}, Maxed t → Up (list t) → over a b t = (list t).filter fun s => decide (s.lo < b) && decide (a < s.hi)
  | nil, _, _ => rfl
  | node s h m l r, hM, hu => by
    obtain ⟨ul, ur, hl, hr⟩ := up_parts hu
    simp only [over]
    split
    · rename_i c
      symm
      refine filter_none (fun x hx => ?_)
      have := maxed_all (a := a) hM (fun s' h' m' l' r' e => by injection e with _ _ e; omega) x hx
      have h2 : decide (a < x.hi) = false := decide_eq_false (by omega)
      rw [h2, Bool.and_false]
    · rw [over_list a b hM.2.1 ul, list, List.filter_append, List.filter_cons, List.append_assoc]
      congr 1
      have e : (if b ≤ s.lo then [] else over a b r) = (list r).filter fun s => decide (s.lo < b) && decide (a < s.hi) := by
        split
        · rename_i c
          symm
          refine filter_none (fun x hx => ?_)
          have h2 : decide (x.lo < b) = false := decide_eq_false (by have := hr x hx; omega)
          rw [h2, Bool.false_and]
        · exact over_list a b hM.2.2 ur
      rw [e]
      by_cases c : s.lo < b ∧ s.hi > a
      · rw [if_pos c, if_pos (by simp; omega)]; rfl
      · rw [if_neg c, if_neg (by simp; omega)]; rfl

theorem mem_insL {x y : S} {ov : Bool} : ∀ {l : List S}, y ∈ insL x ov l → y = x ∨ y ∈ l
  | [], h => by simp only [insL, List.mem_singleton] at h; exact .inl h
  | s :: l, h => by
    simp only [insL] at h
    split at h
    · rcases List.mem_cons.1 h with h | h
      · exact .inr (by simp [h])
      · rcases mem_insL h with h | h
        · exact .inl h
        · exact .inr (by simp [h])
    · split at h
      · rcases List.mem_cons.1 h with h | h
        · exact .inl h
        · exact .inr h
      · rcases List.mem_cons.1 h with h | h
        · split at h
          · exact .inl h
          · exact .inr (by simp [h])
        · exact .inr (by simp [h])

theorem up_insL {x : S} {ov : Bool} : ∀ {l : List S}, Up l → Up (insL x ov l)
  | [], _ => by simp [insL, Up]
  | s :: l, h => by
    obtain ⟨h1, h2⟩ := List.pairwise_cons.1 h
    simp only [insL]
    split
    · rename_i c
      refine List.pairwise_cons.2 ⟨fun y hy => ?_, up_insL h2⟩
      rcases mem_insL hy with e | e
      · rw [e]; exact c
      · exact h1 y e
    · split
      · rename_i c
        refine List.pairwise_cons.2 ⟨fun y hy => ?_, h⟩
        rcases List.mem_cons.1 hy with e | e
        · rw [e]; exact c
        · have := h1 y e; omega
      · refine List.pairwise_cons.2 ⟨fun y hy => ?_, h2⟩
        have := h1 y hy
        split <;> omega

theorem mem_remL {key : Int} {x : S} : ∀ {l : List S}, x ∈ remL key l → x ∈ l
  | [], h => by simp [remL] at h
  | s :: l, h => by
    simp only [remL] at h
    split at h
    · rcases List.mem_cons.1 h with h | h
      · simp [h]
      · simp [mem_remL h]
    · split at h
      · exact h
      · simp [h]

theorem up_remL {key : Int} : ∀ {l : List S}, Up l → Up (remL key l)
  | [], _ => by simp [remL, Up]
  | s :: l, h => by
    obtain ⟨h1, h2⟩ := List.pairwise_cons.1 h
    simp only [remL]
    split
    · exact List.pairwise_cons.2 ⟨fun x hx => h1 x (mem_remL hx), up_remL h2⟩
    · split
      · exact h
      · exact h2

end T
end Go.Proofs.Ytmnjkdbopafkfaa.IntPure
