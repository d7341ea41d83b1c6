/- B-trees as plain data: search, insertion with splits, and the row of entries that a tree holds: for every order of keys. No condition. -/
import Derived.WalkKit
namespace Go.Proofs.Ytjlcebgfknfelaa.BtPure

/-- An entry of a leaf: a key, a value, and whether it is there. -/
abbrev E := Int × Int × Bool
/-- A tree of so many levels above its leaves. -/
def T : Nat → Type
  | 0 => List E
  | h + 1 => List (Int × T h)
def T.len : (h : Nat) → T h → Nat
  | 0, (es : List E) => es.length
  | _ + 1, (cs : List (Int × T _)) => cs.length
/-- The first key that a node tells. -/
def T.first : (h : Nat) → T h → Int
  | 0, (es : List E) => (es.map (·.1)).headD 0
  | _ + 1, (cs : List (Int × T _)) => (cs.map (·.1)).headD 0
def T.flat : (h : Nat) → T h → List E
  | 0, (es : List E) => es
  | h + 1, (cs : List (Int × T h)) => cs.flatMap (fun c => T.flat h c.2)
def cutL {α : Type} (l : List α) : List α × Option (List α) := if l.length < 64 then (l, none) else (l.take 32, some (l.drop 32))

section
variable (r : Int → Int)
/-- An entry put into a row that rises. -/
def insL (k v : Int) (ok : Bool) : List E → List E
  | [] => [(k, v, ok)]
  | e :: l => if r k = r e.1 then (e.1, v, ok) :: l else if r k < r e.1 then (k, v, ok) :: e :: l else e :: insL k v ok l
/-- A step of an inner node: f of the part in which a key has its place. -/
def insC {α : Type} (f : α → α × Option α) (fst : α → Int) (k : Int) : List (Int × α) → List (Int × α)
  | [] => []
  | [c] => (c.1, (f c.2).1) :: ((f c.2).2.map (fun u => (fst u, u))).toList
  | c :: c' :: l => if r k < r c'.1 then (c.1, (f c.2).1) :: (((f c.2).2.map (fun u => (fst u, u))).toList ++ c' :: l) else c :: insC f fst k (c' :: l)
def T.ins (k v : Int) (ok : Bool) : (h : Nat) → T h → T h × Option (T h)
  | 0, (es : List E) => cutL (insL r k v ok es)
  | h + 1, (cs : List (Int × T h)) => cutL (insC r (T.ins k v ok h) (T.first h) k cs)
/-- The part in which a key has its place. -/
def pick {α : Type} (k : Int) : List (Int × α) → Option α
  | [] => none
  | [c] => some c.2
  | c :: c' :: l => if r k < r c'.1 then some c.2 else pick k (c' :: l)
def findL (k : Int) (l : List E) : Option E := l.find? (fun e => decide (r k = r e.1))
def T.find (k : Int) : (h : Nat) → T h → Option E
  | 0, (es : List E) => findL r k es
  | h + 1, (cs : List (Int × T h)) => (pick r k cs).bind (fun t => T.find k h t)
def tell (o : Option E) : Int × Bool := match o with
  | none => (0, false)
  | some e => e.2

/-! ### Rows that rise -/
def Up (l : List E) : Prop := l.Pairwise (fun a b => r a.1 < r b.1)
variable {r} {k v : Int} {ok : Bool}
theorem insL_high : ∀ {a b : List E}, (∀ x ∈ a, r x.1 < r k) → insL r k v ok (a ++ b) = a ++ insL r k v ok b
  | [], _, _ => rfl
  | e :: a, b, h => by
    have h1 := h e List.mem_cons_self
    show insL r k v ok (e :: (a ++ b)) = e :: (a ++ insL r k v ok b)
    rw [insL, if_neg (by omega), if_neg (by omega), insL_high (fun x hx => h x (List.mem_cons_of_mem _ hx))]
theorem insL_low : ∀ {a b : List E}, (∀ x ∈ b, r k < r x.1) → insL r k v ok (a ++ b) = insL r k v ok a ++ b
  | [], [], _ => rfl
  | [], e :: b, h => by
    have h1 := h e List.mem_cons_self
    show insL r k v ok (e :: b) = (k, v, ok) :: e :: b
    rw [insL, if_neg (by omega), if_pos h1]
  | e :: a, b, h => by
    show insL r k v ok (e :: (a ++ b)) = insL r k v ok (e :: a) ++ b
    rw [insL, insL]
    split
    · rfl
    · split
      · rfl
      · rw [insL_low h]; rfl
theorem mem_insL : ∀ {l : List E} {x : E}, x ∈ insL r k v ok l → r x.1 = r k ∨ x ∈ l
  | [], x, h => by rw [insL, List.mem_singleton] at h; subst h; exact .inl rfl
  | e :: l, x, h => by
    rw [insL] at h
    split at h
    · rename_i q
      rcases List.mem_cons.1 h with rfl | h
      · exact .inl q.symm
      · exact .inr (List.mem_cons_of_mem _ h)
    · split at h
      · rcases List.mem_cons.1 h with rfl | h
        · exact .inl rfl
        · exact .inr h
      · rcases List.mem_cons.1 h with rfl | h
        · exact .inr List.mem_cons_self
        · exact (mem_insL h).imp id (List.mem_cons_of_mem _)
theorem up_insL : ∀ {l : List E}, Up r l → Up r (insL r k v ok l)
  | [], _ => List.pairwise_singleton _ _
  | e :: l, h => by
    obtain ⟨h1, h2⟩ := List.pairwise_cons.1 h
    rw [insL]
    split
    · exact List.pairwise_cons.2 ⟨h1, h2⟩
    · split
      · rename_i q q2
        refine List.pairwise_cons.2 ⟨fun x hx => ?_, h⟩
        rcases List.mem_cons.1 hx with rfl | hx
        · exact q2
        · have := h1 x hx; show r k < r x.1; omega
      · rename_i q q2
        refine List.pairwise_cons.2 ⟨fun x hx => ?_, up_insL h2⟩
        rcases mem_insL hx with e1 | hx
        · rw [e1]; omega
        · exact h1 x hx
theorem len_insL : ∀ {l : List E}, (insL r k v ok l).length ≤ l.length + 1 ∧ l.length ≤ (insL r k v ok l).length ∧ 1 ≤ (insL r k v ok l).length
  | [] => by simp [insL]
  | e :: l => by
    have := @len_insL l
    rw [insL]
    split
    · simp
    · split
      · simp
      · simp only [List.length_cons]; omega
theorem findL_high {a b : List E} (h : ∀ x ∈ a, r x.1 < r k) : findL r k (a ++ b) = findL r k b := by
  unfold findL
  rw [List.find?_append, List.find?_eq_none.2 (fun x hx => by have := h x hx; simp; omega)]
  rfl
theorem findL_low {a b : List E} (h : ∀ x ∈ b, r k < r x.1) : findL r k (a ++ b) = findL r k a := by
  unfold findL
  have hb : List.find? (fun e : E => decide (r k = r e.1)) b = none := List.find?_eq_none.2 (fun x hx => by have := h x hx; simp; omega)
  rw [List.find?_append, hb]
  cases List.find? (fun e : E => decide (r k = r e.1)) a <;> rfl

/-! ### Parts that stand in order -/
/-- Below each key but the first one's all that stands ahead; from it on all of its part. -/
def Ch {h : Nat} (r : Int → Int) : List (Int × T h) → Prop
  | [] => True
  | [_] => True
  | c :: c' :: l => (∀ x ∈ T.flat h c.2, r x.1 < r c'.1) ∧ (∀ x ∈ T.flat h c'.2, r c'.1 ≤ r x.1) ∧ Ch r (c' :: l)
def flatC {h : Nat} (cs : List (Int × T h)) : List E := cs.flatMap (fun c => T.flat h c.2)
theorem flatC_cons {h : Nat} (c : Int × T h) (cs : List (Int × T h)) : flatC (c :: cs) = T.flat h c.2 ++ flatC cs := List.flatMap_cons ..
theorem flatC_app {h : Nat} (a b : List (Int × T h)) : flatC (a ++ b) = flatC a ++ flatC b := List.flatMap_append ..
/-- A tree, but for how many entries its root has. -/
def Row (r : Int → Int) : (h : Nat) → T h → Prop
  | 0, (es : List E) => Up r es
  | h + 1, (cs : List (Int × T h)) => (∀ c ∈ cs, Row r h c.2 ∧ T.len h c.2 ≤ 63 ∧ 1 ≤ T.len h c.2) ∧ Ch r cs
theorem some_flat : ∀ {h : Nat} {t : T h}, Row r h t → 1 ≤ T.len h t → ∃ x, x ∈ T.flat h t
  | 0, [], _, hl => absurd hl (by simp [T.len])
  | 0, x :: _, _, _ => ⟨x, List.mem_cons_self⟩
  | h + 1, [], _, hl => absurd hl (by simp [T.len])
  | h + 1, c :: cs, hR, _ => by
    have hc := hR.1 c List.mem_cons_self
    obtain ⟨x, hx⟩ := some_flat hc.1 hc.2.2
    exact ⟨x, by show x ∈ flatC (c :: cs); rw [flatC_cons]; exact List.mem_append_left _ hx⟩
section
variable {h : Nat}
abbrev Part (r : Int → Int) (c : Int × T h) : Prop := Row r h c.2 ∧ T.len h c.2 ≤ 63 ∧ 1 ≤ T.len h c.2
theorem ch_tail {c : Int × T h} {l : List (Int × T h)} (H : Ch r (c :: l)) : Ch r l := by
  cases l with
  | nil => trivial
  | cons c' l => exact H.2.2
/-- From a lower bound on, all the way. -/
theorem ch_low {lo : Int} : ∀ {l : List (Int × T h)} {c : Int × T h}, Ch r (c :: l) → (∀ d ∈ c :: l, Part r d) → (∀ x ∈ T.flat h c.2, lo ≤ r x.1) → ∀ x ∈ flatC (c :: l), lo ≤ r x.1
  | [], c, _, _, hc, x, hx => by
    rw [flatC_cons] at hx
    simp only [flatC, List.flatMap_nil, List.append_nil] at hx
    exact hc x hx
  | c' :: l, c, H, hp, hc, x, hx => by
    rw [flatC_cons] at hx
    rcases List.mem_append.1 hx with hx | hx
    · exact hc x hx
    · obtain ⟨y, hy⟩ := some_flat (hp c List.mem_cons_self).1 (hp c List.mem_cons_self).2.2
      have h1 := hc y hy
      have h2 := H.1 y hy
      exact ch_low H.2.2 (fun d hd => hp d (List.mem_cons_of_mem _ hd)) (fun z hz => by have := H.2.1 z hz; omega) x hx
/-- Below a key all that stands ahead. -/
theorem ch_high : ∀ {a : List (Int × T h)} {d : Int × T h} {b : List (Int × T h)}, Ch r (a ++ d :: b) → (∀ c ∈ a ++ d :: b, Part r c) → ∀ x ∈ flatC a, r x.1 < r d.1
  | [], _, _, _, _, x, hx => by simp [flatC] at hx
  | [c], d, b, H, _, x, hx => by
    simp only [flatC, List.flatMap_cons, List.flatMap_nil, List.append_nil] at hx
    exact H.1 x hx
  | c :: c' :: a, d, b, H, hp, x, hx => by
    rw [flatC_cons] at hx
    have ih := ch_high (a := c' :: a) (d := d) (b := b) H.2.2 (fun z hz => hp z (List.mem_cons_of_mem _ hz))
    rcases List.mem_append.1 hx with hx | hx
    · obtain ⟨y, hy⟩ := some_flat (hp c' (by simp)).1 (hp c' (by simp)).2.2
      have h1 := H.1 x hx
      have h2 := H.2.1 y hy
      have h3 := ih y (by rw [flatC_cons]; exact List.mem_append_left _ hy)
      omega
    · exact ih x hx
theorem ch_app : ∀ {a b : List (Int × T h)}, Ch r (a ++ b) → Ch r a ∧ Ch r b
  | [], _, H => ⟨trivial, H⟩
  | [c], b, H => ⟨trivial, ch_tail H⟩
  | c :: c' :: a, b, H => by
    have := ch_app (a := c' :: a) (b := b) H.2.2
    exact ⟨⟨H.1, H.2.1, this.1⟩, this.2⟩
end
theorem up_flat : ∀ {h : Nat} {t : T h}, Row r h t → Up r (T.flat h t)
  | 0, _, H => H
  | h + 1, cs, H => by
    obtain ⟨hp, hc⟩ := H
    show Up r (flatC cs)
    revert hp hc
    induction cs with
    | nil => exact fun _ _ => List.Pairwise.nil
    | cons c l ih =>
      intro hp hc
      rw [flatC_cons]
      refine List.pairwise_append.2 ⟨up_flat (hp c List.mem_cons_self).1, ih (fun d hd => hp d (List.mem_cons_of_mem _ hd)) (ch_tail hc), fun x hx y hy => ?_⟩
      cases l with
      | nil => simp [flatC] at hy
      | cons c' l =>
        have h1 := hc.1 x hx
        have h2 := ch_low hc.2.2 (fun d hd => hp d (List.mem_cons_of_mem _ hd)) hc.2.1 y hy
        omega

/-! ### What an insertion makes -/
/-- What an insertion into a part tells: the part, and perhaps a second one behind it. -/
structure Made (r : Int → Int) (k v : Int) (ok : Bool) (h : Nat) (t : T h) (p : T h × Option (T h)) : Prop where
  one : Row r h p.1 ∧ T.len h p.1 ≤ 63 ∧ 1 ≤ T.len h p.1
  none_ : p.2 = none → T.flat h p.1 = insL r k v ok (T.flat h t)
  some_ : ∀ u, p.2 = some u → (Row r h u ∧ T.len h u ≤ 63 ∧ 1 ≤ T.len h u) ∧ T.flat h p.1 ++ T.flat h u = insL r k v ok (T.flat h t) ∧ (∀ x ∈ T.flat h p.1, r x.1 < r (T.first h u)) ∧ (∀ x ∈ T.flat h u, r (T.first h u) ≤ r x.1)
theorem Made.mem {h : Nat} {t : T h} {p : T h × Option (T h)} (m : Made r k v ok h t p) : (∀ x ∈ T.flat h p.1, r x.1 = r k ∨ x ∈ T.flat h t) ∧ ∀ u, p.2 = some u → ∀ x ∈ T.flat h u, r x.1 = r k ∨ x ∈ T.flat h t := by
  refine ⟨fun x hx => ?_, fun u hu x hx => ?_⟩
  · cases q : p.2 with
    | none => rw [m.none_ q] at hx; exact mem_insL hx
    | some u => exact mem_insL (by rw [← (m.some_ u q).2.1]; exact List.mem_append_left _ hx)
  · exact mem_insL (by rw [← (m.some_ u hu).2.1]; exact List.mem_append_right _ hx)
section
variable {h : Nat} {f : T h → T h × Option (T h)}
abbrev parts (f : T h → T h × Option (T h)) (c : Int × T h) : List (Int × T h) := (c.1, (f c.2).1) :: ((f c.2).2.map (fun u => (T.first h u, u))).toList
theorem parts_ok {c : Int × T h} (m : Made r k v ok h c.2 (f c.2)) : (∀ d ∈ parts f c, Part r d) ∧ Ch r (parts f c) ∧ flatC (parts f c) = insL r k v ok (T.flat h c.2) ∧ (parts f c).length ≤ 2 := by
  unfold parts
  cases q : (f c.2).2 with
  | none =>
    refine ⟨fun d hd => ?_, trivial, ?_, by simp⟩
    · simp only [Option.map_none, Option.toList_none, List.mem_singleton] at hd
      subst hd; exact m.one
    · simpa [flatC] using m.none_ q
  | some u =>
    obtain ⟨h1, h2, h3, h4⟩ := m.some_ u q
    refine ⟨fun d hd => ?_, ⟨h3, h4, trivial⟩, ?_, by simp⟩
    · simp only [Option.map_some, Option.toList_some, List.mem_cons, List.not_mem_nil, or_false] at hd
      rcases hd with rfl | rfl
      · exact m.one
      · exact h1
    · simpa [flatC] using h2
/-- Parts of one, and then the others. -/
theorem parts_ch {c c' : Int × T h} {l : List (Int × T h)} (m : Made r k v ok h c.2 (f c.2)) (H : Ch r (c :: c' :: l)) (hk : r k < r c'.1) : Ch r (parts f c ++ c' :: l) := by
  have hm := m.mem
  have lt : ∀ x, (r x.1 = r k ∨ x ∈ T.flat h c.2) → r x.1 < r c'.1 := fun x hx => by
    rcases hx with e | hx
    · omega
    · exact H.1 x hx
  unfold parts
  cases q : (f c.2).2 with
  | none => exact ⟨fun x hx => lt x (hm.1 x hx), H.2⟩
  | some u =>
    obtain ⟨h1, h2, h3, h4⟩ := m.some_ u q
    exact ⟨h3, h4, fun x hx => lt x (hm.2 u q x hx), H.2⟩
theorem insC_ok (hf : ∀ c : Int × T h, Part r c → Made r k v ok h c.2 (f c.2)) : ∀ (cs : List (Int × T h)), cs ≠ [] → (∀ c ∈ cs, Part r c) → Ch r cs →
    (∀ c ∈ insC r f (T.first h) k cs, Part r c) ∧ Ch r (insC r f (T.first h) k cs) ∧ flatC (insC r f (T.first h) k cs) = insL r k v ok (flatC cs) ∧ (insC r f (T.first h) k cs).length ≤ cs.length + 1 ∧
      (∃ c t l, cs.head? = some c ∧ insC r f (T.first h) k cs = (c.1, t) :: l ∧ ∀ x ∈ T.flat h t, r x.1 = r k ∨ x ∈ T.flat h c.2)
  | [], hne, _, _ => absurd rfl hne
  | [c], _, hp, hc => by
    have m := hf c (hp c List.mem_cons_self)
    obtain ⟨p1, p2, p3, p4⟩ := parts_ok m
    refine ⟨p1, p2, ?_, p4, c, _, _, rfl, rfl, m.mem.1⟩
    show flatC (parts f c) = _
    rw [p3, flatC_cons]
    simp [flatC]
  | c :: c' :: l, _, hp, hc => by
    have m := hf c (hp c List.mem_cons_self)
    rw [insC]
    by_cases q : r k < r c'.1
    · rw [if_pos q]
      obtain ⟨p1, p2, p3, p4⟩ := parts_ok m
      have e : (c.1, (f c.2).1) :: (((f c.2).2.map (fun u => (T.first h u, u))).toList ++ c' :: l) = parts f c ++ c' :: l := rfl
      rw [e]
      refine ⟨fun d hd => ?_, parts_ch m hc q, ?_, by rw [List.length_append]; simp only [List.length_cons]; simp only [List.length_cons] at p4; omega, c, _, _, rfl, rfl, m.mem.1⟩
      · rcases List.mem_append.1 hd with hd | hd
        · exact p1 d hd
        · exact hp d (List.mem_cons_of_mem _ hd)
      · rw [flatC_app, p3, flatC_cons c]
        refine (insL_low (fun x hx => ?_)).symm
        have := ch_low hc.2.2 (fun d hd => hp d (List.mem_cons_of_mem _ hd)) hc.2.1 x hx
        omega
    · rw [if_neg q]
      obtain ⟨i1, i2, i3, i4, c0, t, l', e0, e1, e2⟩ := insC_ok hf (c' :: l) (by simp) (fun d hd => hp d (List.mem_cons_of_mem _ hd)) hc.2.2
      obtain rfl : c' = c0 := by simpa using e0
      refine ⟨fun d hd => ?_, ?_, ?_, by simp only [List.length_cons] at i4 ⊢; omega, c, c.2, _, rfl, rfl, fun x hx => .inr hx⟩
      · rcases List.mem_cons.1 hd with rfl | hd
        · exact hp _ List.mem_cons_self
        · exact i1 d hd
      · rw [e1] at i2 ⊢
        refine ⟨hc.1, fun x hx => ?_, i2⟩
        rcases e2 x hx with e | hx
        · show r c'.1 ≤ r x.1; omega
        · exact hc.2.1 x hx
      · rw [flatC_cons, i3, flatC_cons c]
        exact (insL_high (fun x hx => by have := hc.1 x hx; omega)).symm
end
theorem cut_leaf {es : List E} (hu : Up r es) (h1 : es.length ≤ 64) (h2 : 1 ≤ es.length) :
    (Up r (cutL es).1 ∧ (cutL es).1.length ≤ 63 ∧ 1 ≤ (cutL es).1.length) ∧ ((cutL es).2 = none → (cutL es).1 = es) ∧
      ∀ u, (cutL es).2 = some u → (Up r u ∧ u.length ≤ 63 ∧ 1 ≤ u.length) ∧ (cutL es).1 ++ u = es ∧ (∀ x ∈ (cutL es).1, r x.1 < r ((u.map (·.1)).headD 0)) ∧ ∀ x ∈ u, r ((u.map (·.1)).headD 0) ≤ r x.1 := by
  unfold cutL
  by_cases q : es.length < 64
  · rw [if_pos q]
    exact ⟨⟨hu, by show es.length ≤ 63; omega, h2⟩, fun _ => rfl, fun u hu => by cases hu⟩
  · rw [if_neg q]
    have e : es.take 32 ++ es.drop 32 = es := List.take_append_drop 32 es
    have hu' := hu
    unfold Up at hu'
    rw [← e] at hu'
    obtain ⟨a1, a2, a3⟩ := List.pairwise_append.1 hu'
    have l1 : (es.take 32).length = 32 := by rw [List.length_take]; omega
    have l2 : (es.drop 32).length = 32 := by rw [List.length_drop]; omega
    refine ⟨⟨a1, by show (es.take 32).length ≤ 63; omega, by show 1 ≤ (es.take 32).length; omega⟩, fun h => (by cases h), fun u hu => ?_⟩
    obtain rfl : es.drop 32 = u := Option.some.inj hu
    refine ⟨⟨a2, by omega, by omega⟩, e, ?_⟩
    generalize es.drop 32 = b at a2 a3 l2
    cases b with
    | nil => simp at l2
    | cons y b =>
      refine ⟨fun x hx => a3 x hx y List.mem_cons_self, fun x hx => ?_⟩
      rcases List.mem_cons.1 hx with rfl | hx
      · exact Int.le_refl _
      · exact Int.le_of_lt ((List.pairwise_cons.1 a2).1 x hx)
theorem cut_inner {h : Nat} {cs : List (Int × T h)} (hp : ∀ c ∈ cs, Part r c) (hc : Ch r cs) (h1 : cs.length ≤ 64) (h2 : 1 ≤ cs.length) :
    (Row r (h + 1) (cutL cs).1 ∧ (cutL cs).1.length ≤ 63 ∧ 1 ≤ (cutL cs).1.length) ∧ ((cutL cs).2 = none → (cutL cs).1 = cs) ∧
      ∀ u, (cutL cs).2 = some u → (Row r (h + 1) u ∧ u.length ≤ 63 ∧ 1 ≤ u.length) ∧ (cutL cs).1 ++ u = cs ∧ (∀ x ∈ flatC (cutL cs).1, r x.1 < r ((u.map (·.1)).headD 0)) ∧ ∀ x ∈ flatC u, r ((u.map (·.1)).headD 0) ≤ r x.1 := by
  unfold cutL
  by_cases q : cs.length < 64
  · rw [if_pos q]
    exact ⟨⟨⟨hp, hc⟩, by show cs.length ≤ 63; omega, h2⟩, fun _ => rfl, fun u hu => by cases hu⟩
  · rw [if_neg q]
    have e : cs.take 32 ++ cs.drop 32 = cs := List.take_append_drop 32 cs
    have l1 : (cs.take 32).length = 32 := by rw [List.length_take]; omega
    have l2 : (cs.drop 32).length = 32 := by rw [List.length_drop]; omega
    have hc' := hc
    have hp' := hp
    rw [← e] at hc' hp'
    obtain ⟨a1, a2⟩ := ch_app hc'
    refine ⟨⟨⟨fun c hm => hp' c (List.mem_append_left _ hm), a1⟩, by show (cs.take 32).length ≤ 63; omega, by show 1 ≤ (cs.take 32).length; omega⟩, fun h => (by cases h), fun u hu => ?_⟩
    obtain rfl : cs.drop 32 = u := Option.some.inj hu
    refine ⟨⟨⟨fun c hm => hp' c (List.mem_append_right _ hm), a2⟩, by omega, by omega⟩, e, ?_⟩
    generalize cs.take 32 = a at hc' hp' l1
    generalize cs.drop 32 = b at hc' hp' a2 l2
    cases b with
    | nil => simp at l2
    | cons y b =>
      refine ⟨ch_high hc' hp', ch_low a2 (fun d hd => hp' d (List.mem_append_right _ hd)) (fun x hx => ?_)⟩
      -- the last one ahead
      have : ∀ (a : List (Int × T h)), a ≠ [] → Ch r (a ++ y :: b) → ∀ x ∈ T.flat h y.2, r y.1 ≤ r x.1 := by
        intro a
        induction a with
        | nil => exact fun hne => absurd rfl hne
        | cons c a ih =>
          intro _ H
          cases a with
          | nil => exact H.2.1
          | cons c' a => exact ih (by simp) H.2.2
      exact this a (by intro e; rw [e] at l1; simp at l1) hc' x hx
theorem ins_made : ∀ {h : Nat} {t : T h}, Row r h t → T.len h t ≤ 63 → (h ≠ 0 → 1 ≤ T.len h t) → Made r k v ok h t (T.ins r k v ok h t)
  | 0, es, hR, hl, _ => by
    have hn := @len_insL r k v ok es
    have hl' : es.length ≤ 63 := hl
    obtain ⟨c1, c2, c3⟩ := cut_leaf (up_insL (k := k) (v := v) (ok := ok) hR) (by omega) (by omega)
    exact ⟨c1, c2, c3⟩
  | h + 1, cs, hR, hl, h1 => by
    have hl' : cs.length ≤ 63 := hl
    have h1' : 1 ≤ cs.length := h1 (by omega)
    obtain ⟨hp, hc⟩ := hR
    obtain ⟨i1, i2, i3, i4, c0, t, l', e0, e1, e2⟩ := insC_ok (f := T.ins r k v ok h) (r := r) (k := k) (v := v) (ok := ok) (fun c hc => ins_made hc.1 hc.2.1 (fun _ => hc.2.2)) cs (by intro e; rw [e] at h1'; simp at h1') hp hc
    have h2 : 1 ≤ (insC r (T.ins r k v ok h) (T.first h) k cs).length := by rw [e1]; simp
    obtain ⟨c1, c2, c3⟩ := cut_inner i1 i2 (by omega) h2
    refine ⟨c1, fun q => ?_, fun u q => ?_⟩
    · show flatC (cutL _).1 = insL r k v ok (flatC cs)
      rw [c2 q, i3]
    · obtain ⟨d1, d2, d3, d4⟩ := c3 u q
      exact ⟨d1, (flatC_app _ _).symm.trans ((congrArg flatC d2).trans i3), d3, d4⟩

/-! ### What a search finds -/
theorem pick_some {α : Type} : ∀ {cs : List (Int × α)}, cs ≠ [] → ∃ c ∈ cs, pick r k cs = some c.2
  | [], h => absurd rfl h
  | [c], _ => ⟨c, by simp, rfl⟩
  | c :: c' :: l, _ => by
    rw [pick]
    split
    · exact ⟨c, by simp, rfl⟩
    · obtain ⟨d, hd, e⟩ := pick_some (cs := c' :: l) (by simp)
      exact ⟨d, List.mem_cons_of_mem _ hd, e⟩
theorem find_flat : ∀ {h : Nat} {t : T h}, Row r h t → T.find r k h t = findL r k (T.flat h t)
  | 0, _, _ => rfl
  | h + 1, cs, hR => by
    obtain ⟨hp, hc⟩ := hR
    show (pick r k cs).bind (fun t => T.find r k h t) = findL r k (flatC cs)
    revert hp hc
    induction cs with
    | nil => exact fun _ _ => rfl
    | cons c l ih =>
      intro hp hc
      have hp' : ∀ d ∈ l, Part r d := fun d hd => hp d (List.mem_cons_of_mem _ hd)
      have h0 := find_flat (hp c List.mem_cons_self).1
      cases l with
      | nil =>
        show T.find r k h c.2 = _
        rw [h0, flatC_cons]
        simp [flatC]
      | cons c' l =>
        rw [pick, flatC_cons]
        by_cases q : r k < r c'.1
        · rw [if_pos q]
          show T.find r k h c.2 = _
          rw [h0]
          refine (findL_low (fun x hx => ?_)).symm
          have := ch_low hc.2.2 hp' hc.2.1 x hx
          omega
        · rw [if_neg q, ih hp' hc.2.2]
          exact (findL_high (fun x hx => by have := hc.1 x hx; omega)).symm
end
end Go.Proofs.Ytjlcebgfknfelaa.BtPure
